import JvmDerived
import JvmDerived.Pilot.@@N@@Statement
import JvmDerived.Pilot.@@N@@Code
set_option linter.unusedVariables false
set_option linter.unusedSimpArgs false
namespace Jvm.RoadKit
open Sem ClassFile Op Lib Jvm.Stand Jvm.Free Jvm.LawKit
section New
variable {p : Program} {l : Launch} {e : Env} {R : Room} {s : State} {m : MethodId} {args : Array Value} {below : List Frame} {meth : Method} {c : Code} {T : State} {locs : List Loc} {cells slots : Nat}
theorem retI (X : Stand p l e R s m args below meth c T locs cells slots) (hx : p.tables.exec = Jvm.exec) {pc : Nat} {Ls : Array Slot} {z : Int32} {rest : List Value} (hret : meth.sig.returnType = some .int) (hd : decode c.code pc = .ok (.ireturn, 1)) {fs : List Frame}
    (hl : ∀ (f : JFrame) (acts : List Action), f.method = m → f.locked = none → f.entered = [] → (doReturn e (T.setTop f) acts (some (.int z))).1 = T.setFrames fs) : Steps p.tables e below (T.setTop (mkF m pc Ls (.int z :: rest))) (T.setFrames fs) := by
  have hm' : T.vm.method? m = some meth := X.method'
  have hn : narrow .int (.int z) = .int z := rfl
  show Steps p.tables e below (T.setTop { method := m, pc := pc, locals := Ls, stack := _ :: rest, locked := none }) _
  jvm_step X.here [X.here.top, hx, hd, hm', hret, hn]
  first | (intro acts; rw [hl _ acts rfl rfl rfl]) | rw [hl _ _ rfl rfl rfl]
  exact Steps.refl _
end New
end Jvm.RoadKit
namespace Jvm.Pilot.@@N@@
open Jvm Jvm.ClassFile Sem Op Lib Jvm.Free Jvm.Stand Jvm.LawKit Jvm.RoadKit Bundle Jvm.Pilot.@@N@@.Jvm.D
abbrev own_S (p : Program) (e : Env) (b : List Frame) (T : State) (m : MethodId) (pc : Nat) (L : Array Slot) (S : List Value) (t : State) : Prop := Steps p.tables e b (T.setTop (mkF m pc L S)) t
def own_vs (xs : List Int32) : List Value := xs.map Value.int ++ List.replicate ((if xs.length ≤ 4 then 4 else 8) - xs.length) (.int 0)
def own_z (xs : List Int32) : Int32 := if xs.length ≤ 4 then 4 else 8
def own_srt : List Int32 → Prop
  | [] => True
  | [_] => True
  | x :: y :: r => x < y ∧ own_srt (y :: r)
def own_chs (xs : List Int32) : Prop := ∀ x ∈ xs, nar .char x = x
theorem own_eq {x y : Int32} (h1 : ¬ x < y) (h2 : ¬ y < x) : x = y := by
  rw [Int32.lt_iff_toInt_lt] at h1 h2
  exact Int32.toInt_inj.mp (by omega)
theorem own_tr {x y z : Int32} (h1 : x < y) (h2 : y < z) : x < z := by
  rw [Int32.lt_iff_toInt_lt] at *; omega
theorem own_irr (x : Int32) : ¬ x < x := by rw [Int32.lt_iff_toInt_lt]; omega
theorem own_nn (x : Int32) : nar .char (nar .char x) = nar .char x := by simp only [nar, UInt32.toUInt32_toInt32, UInt16.toUInt16_toUInt32]
theorem own_len1 {xs : List Int32} (h : xs.length = 1) : ∃ a, xs = [a] := by
  match xs, h with
  | [a], _ => exact ⟨a, rfl⟩
theorem own_len2 {xs : List Int32} (h : xs.length = 2) : ∃ a b, xs = [a, b] := by
  match xs, h with
  | [a, b], _ => exact ⟨a, b, rfl⟩
theorem own_len3 {xs : List Int32} (h : xs.length = 3) : ∃ a b c, xs = [a, b, c] := by
  match xs, h with
  | [a, b, c], _ => exact ⟨a, b, c, rfl⟩
theorem own_len4 {xs : List Int32} (h : xs.length = 4) : ∃ a b c d, xs = [a, b, c, d] := by
  match xs, h with
  | [a, b, c, d], _ => exact ⟨a, b, c, d, rfl⟩
theorem pn_0 : plainName "com/example/bitstrata/bitstrata/ArrayContainer" = true := by first | (simp [plainName, overriddenIn]; done) | decide +kernel
theorem ef_I (m : MethodId) (a1 : Addr) (p2 : Int32) : entryFrame m #[(.ref a1), (.int p2)] 2 = mkF m 0 #[rv a1, iv p2] [] := by first | (simp [entryFrame, mkF, argsToLocals, Value.category]; done) | rfl
def QI (Z : State) (a1 : Addr) (p2 : Int32) (h0 : Heap) (n0 : Nat) (v : Option Value) (h : Heap) (L : List Loc) : Prop := ∃ (t : Addr) (k : ClassId), v = none ∧ Fr n0 L ∧ Keep h0 h [a1] ∧ Exa Z h a1 "com/example/bitstrata/bitstrata/ArrayContainer" ∧ Fld Z h a1 "com/example/bitstrata/bitstrata/ArrayContainer" "values" "[C" (.ref t) ∧ Fld Z h a1 "com/example/bitstrata/bitstrata/ArrayContainer" "cardinality" "I" (.int 1) ∧ Arv Z h t k .char (4 : Int32) [.int p2, .int 0, .int 0, .int 0] (.int 0) ∧ n0 ≤ t ∧ h0.size ≤ t
theorem d1_0 : decode prog_1_method_1_code 0 = .ok (.aload_n 0, 1) := by decide +kernel
theorem d1_1 : decode prog_1_method_1_code 1 = .ok (.invokespecial 1, 3) := by decide +kernel
theorem d1_4 : decode prog_1_method_1_code 4 = .ok (.aload_n 0, 1) := by decide +kernel
theorem d1_5 : decode prog_1_method_1_code 5 = .ok (.iconst 4, 1) := by decide +kernel
theorem d1_6 : decode prog_1_method_1_code 6 = .ok (.newarray .char, 2) := by decide +kernel
theorem d1_8 : decode prog_1_method_1_code 8 = .ok (.putfield 9, 3) := by decide +kernel
theorem d1_11 : decode prog_1_method_1_code 11 = .ok (.aload_n 0, 1) := by decide +kernel
theorem d1_12 : decode prog_1_method_1_code 12 = .ok (.getfield 9, 3) := by decide +kernel
theorem d1_15 : decode prog_1_method_1_code 15 = .ok (.iconst 0, 1) := by decide +kernel
theorem d1_16 : decode prog_1_method_1_code 16 = .ok (.iload_n 1, 1) := by decide +kernel
theorem d1_17 : decode prog_1_method_1_code 17 = .ok (.castore, 1) := by decide +kernel
theorem d1_18 : decode prog_1_method_1_code 18 = .ok (.aload_n 0, 1) := by decide +kernel
theorem d1_19 : decode prog_1_method_1_code 19 = .ok (.iconst 1, 1) := by decide +kernel
theorem d1_20 : decode prog_1_method_1_code 20 = .ok (.putfield 13, 3) := by decide +kernel
theorem d1_23 : decode prog_1_method_1_code 23 = .ok (.return_, 1) := by decide +kernel
set_option maxRecDepth 65536 in
set_option maxHeartbeats 40000000 in
theorem rmI (l : Launch) (Z : State) (a0 : Array Value) (hw : ∀ d ∈ tables_1, d.before a0 Z = true) (ws : List Jvm.Cond) (a1 : Addr) (p2 : Int32) (h0 : Heap) (n0 : Nat) (Z0 : n0 ≤ h0.size) (E_a1 : Exa Z h0 a1 "com/example/bitstrata/bitstrata/ArrayContainer") (g_a1 : n0 ≤ a1) (F_v : Fld Z h0 a1 "com/example/bitstrata/bitstrata/ArrayContainer" "values" "[C" .null) (F_c : Fld Z h0 a1 "com/example/bitstrata/bitstrata/ArrayContainer" "cardinality" "I" (.int (0 : Int32))) (hk : nar .char p2 = p2) :
    MetFree l (⟨"com/example/bitstrata/bitstrata/ArrayContainer", "<init>", "(C)V"⟩ : MethodName) (head1 (Jvm.Cond.code (⟨"com/example/bitstrata/bitstrata/ArrayContainer", "<init>", "(C)V"⟩ : MethodName) prog_1_method_1_code 2 none :: ws) ({ frames := 1, cells := 1, slots := 4, locals := 12 } : Room)) (fun a U => a = #[(.ref a1), (.int p2)] ∧ Z.Warmed39 U.vm ∧ U.heap = h0) (fun _ _ _ _ _ => True) (fun _ U o U' => ∃ v L, o = .returned v ∧ QI Z a1 p2 h0 n0 v U'.heap L ∧ FrameEnd U o U' L ({ frames := 1, cells := 1, slots := 4, locals := 12 } : Room).cells ({ frames := 1, cells := 1, slots := 4, locals := 12 } : Room).slots) := by
  refine MetFree.of_bodySF (plainFor_of_name pn_0) hisR ?_
  intro p e s m args below meth c s₁ Bd hml0 hP hK
  obtain ⟨rfl, hZ, hh⟩ := hP
  have hx := Bd.exec
  have hby := Bd.bytes
  have hml : c.maxLocals = 2 := hml0
  have hown : s.vm.findClass "com/example/bitstrata/bitstrata/ArrayContainer" = some m.cls := findClass_of_methodNamed Bd.named
  have hnm := (name_of_methodNamed Bd.named Bd.method).1
  have X0 : Stand p l e ({ frames := 1, cells := 1, slots := 4, locals := 12 } : Room) s m #[(.ref a1), (.int p2)] below meth c s₁ [] 0 0 := Stand.of_body Bd
  have e0 : s₁.heap = h0 := by rw [← hh, Bd.state]; rfl
  have N0 := Fr.nil n0
  have pre0 : ∀ tg, Steps p.tables e below (s₁.setTop (mkF m 0 #[rv a1, iv p2] [])) tg → Steps p.tables e below (s₁.setTop (entryFrame m #[(.ref a1), (.int p2)] 2)) tg := fun tg k => castTop (ef_I m a1 p2) k
  obtain ⟨T1, X1, e1, st1⟩ := initO X0 hx hZ hown (hw _ (List.mem_of_getElem? (i := 8) rfl)) (hw _ (List.mem_of_getElem? (i := 9) rfl)) (hw _ (List.mem_of_getElem? (i := 10) rfl)) e0 (g := (mkF m 1 #[rv a1, iv p2] [(.ref a1)])) rfl (by rw [hml]; rfl) rfl (hb hby d1_1) (by decide) (W := 0) (by show 2 * 0 + _ ≤ _; exact Nat.le_of_eq rfl) (by decide)
  obtain ⟨T2, h2, k2, X2, e2, E2, A2, st2⟩ := newP X1 hx hZ (hw _ (List.mem_of_getElem? (i := 11) rfl)) e1 (g := (mkF m 6 #[rv a1, iv p2] [(.int (4 : Int32)), (.ref a1)])) rfl (hb hby d1_6) rfl (by decide) (cap := 4) (by decide) (by decide) (by decide) (by decide)
  obtain ⟨b2, g2⟩ : ∃ z, z = h0.size := ⟨_, rfl⟩
  rw [← g2] at A2 st2
  have g_b2 : n0 ≤ b2 := Nat.le_trans Z0 (Nat.le_of_eq g2.symm)
  have sz_b2 : h0.size ≤ b2 := Nat.le_trans ((Keep.refl h0 [a1])).1 (Nat.le_of_eq g2.symm)
  have ne_a1_b2 : a1 ≠ b2 := Nat.ne_of_lt (Nat.lt_of_lt_of_le F_c.lt (Nat.le_of_eq g2.symm))
  have V_b2 : Arv Z h2 b2 k2 .char (4 : Int32) [(.int (0 : Int32)), (.int (0 : Int32)), (.int (0 : Int32)), (.int (0 : Int32))] (.int (0 : Int32)) := (Arv.new A2 (by decide)).pad (pad_rep [] (.int (0 : Int32)) 4)
  have Fn_3 := (F_v.ext E2)
  have En_4 := (E_a1.ext E2)
  obtain ⟨T5, h5, X5, e5, W5, st5⟩ := putF X2 hx hZ hown (host := "") (Or.inl (hw _ (List.mem_of_getElem? (i := 12) rfl))) Via.refl e2 Fn_3 En_4 (Or.inl (hw _ (List.mem_of_getElem? (i := 13) rfl))) (hw _ (List.mem_of_getElem? (i := 3) rfl)) (ty := (.array .char)) (by decide) rfl rfl (g := (mkF m 8 #[rv a1, iv p2] [(.ref b2), (.ref a1)])) rfl rfl (hb hby d1_8)
  have Fw5 := Fn_3.same W5
  have N5 := Fr.snoc X5 N0 g_a1
  obtain ⟨T6, X6, e6, st6⟩ := getF X5 hx hZ hown (host := "") (Or.inl (hw _ (List.mem_of_getElem? (i := 12) rfl))) Via.refl e5 Fw5 (g := (mkF m 12 #[rv a1, iv p2] [(.ref a1)])) rfl rfl (hb hby d1_12)
  have Vn_7 := (V_b2.other W5 (Ne.symm ne_a1_b2))
  obtain ⟨cl8, Ar8, q8, S8, M8, H8, G8⟩ := id Vn_7
  have hin8 : ¬ ((0 : Int32) < 0 ∨ cl8.slots.size ≤ ((0 : Int32)).toNatClampNeg) := inb_of S8 ⟨by decide, by decide⟩
  obtain ⟨T8, h8, X8, e8, W8, st8⟩ := stC X6 hx hZ e6 Ar8 (j := (0 : Int32)) hin8 (g := (mkF m 17 #[rv a1, iv p2] [(.int p2), (.int (0 : Int32)), (.ref b2)])) rfl rfl (hb hby d1_17)
  have V8 : Arv Z h8 b2 k2 .char (4 : Int32) [(.int (nar .char p2)), (.int (0 : Int32)), (.int (0 : Int32)), (.int (0 : Int32))] (.int (0 : Int32)) := Arv.set Ar8 q8 S8 M8 H8 G8 (fits_nar_char _) W8 0 rfl (Nat.le_of_ble_eq_true rfl)
  have N8 := Fr.snoc X8 N5 g_b2
  have Fn_9 := (((F_c.ext E2).other W5 (Or.inr (slot_ne (Or.inl (hw _ (List.mem_of_getElem? (i := 15) rfl))) (Or.inl (hw _ (List.mem_of_getElem? (i := 13) rfl))) (by decide) (t := .int) (t' := (.array .char)) (by decide) (by decide)))).other W8 (Or.inl ne_a1_b2))
  have En_10 := ((En_4.wr W5).wr W8)
  obtain ⟨T11, h11, X11, e11, W11, st11⟩ := putF X8 hx hZ hown (host := "") (Or.inl (hw _ (List.mem_of_getElem? (i := 14) rfl))) Via.refl e8 Fn_9 En_10 (Or.inl (hw _ (List.mem_of_getElem? (i := 15) rfl))) (hw _ (List.mem_of_getElem? (i := 3) rfl)) (ty := .int) (by decide) rfl rfl (g := (mkF m 20 #[rv a1, iv p2] [(.int (1 : Int32)), (.ref a1)])) rfl rfl (hb hby d1_20)
  have Fw11 := Fn_9.same W11
  have N11 := Fr.snoc X11 N8 g_a1
  have pre12 : ∀ tg, own_S p e below T11 m 23 #[rv a1, iv p2] [] tg → Steps p.tables e below (s₁.setTop (entryFrame m #[(.ref a1), (.int p2)] 2)) tg := fun tg k => pre0 tg (by
    show own_S p e below s₁ m 0 #[rv a1, iv p2] [] _
    refine XS.aloadN X0.here hx rfl (hb hby d1_0) rfl rfl ?_
    refine st1 _ ?_
    refine XS.aloadN X1.here hx rfl (hb hby d1_4) rfl rfl ?_
    show own_S p e below T1 m 5 #[rv a1, iv p2] [(.ref a1)] _
    refine XS.iconst X1.here hx rfl (hb hby d1_5) ?_
    refine st2 _ ?_
    refine st5 _ ?_
    show own_S p e below T5 m 11 #[rv a1, iv p2] [] _
    refine XS.aloadN X5.here hx rfl (hb hby d1_11) rfl rfl ?_
    refine st6 _ ?_
    refine XS.iconst X6.here hx rfl (hb hby d1_15) ?_
    show own_S p e below T6 m 16 #[rv a1, iv p2] [(.int (0 : Int32)), (.ref b2)] _
    refine XS.iloadN X6.here hx rfl (hb hby d1_16) rfl ?_
    refine st8 _ ?_
    refine XS.aloadN X8.here hx rfl (hb hby d1_18) rfl rfl ?_
    show own_S p e below T8 m 19 #[rv a1, iv p2] [(.ref a1)] _
    refine XS.iconst X8.here hx rfl (hb hby d1_19) ?_
    refine st11 _ ?_
    exact k)
  obtain ⟨fs, hr, hrun, hended, hW, hsame⟩ := X11.leave (v := none) (fun _ => rfl)
  refine ⟨_, _, pre12 _ ?_, hrun, hended, _, _, rfl, ?_, ⟨_, rfl⟩, hW, hsame.mono (by decide) (by decide)⟩
  · show own_S p e below T11 m 23 #[rv a1, iv p2] [] _
    exact X11.returnOut hx Bd.returns (hb hby d1_23) hr
  · show QI Z a1 p2 h0 n0 _ T11.heap _
    rw [e11]
    have En_13 := (En_10.wr W11)
    have Fn_14 := ((Fw5.other W8 (Or.inl ne_a1_b2)).other W11 (Or.inr (slot_ne (Or.inl (hw _ (List.mem_of_getElem? (i := 13) rfl))) (Or.inl (hw _ (List.mem_of_getElem? (i := 15) rfl))) (by decide) (t := (.array .char)) (t' := .int) (by decide) (by decide))))
    have Vn_15 := (V8.other W11 (Ne.symm ne_a1_b2))
    rw [hk] at Vn_15
    exact ⟨b2, _, rfl, N11, (((((Keep.refl h0 [a1]).ext E2).wr W5 (Or.inl (List.mem_of_getElem? (i := 0) rfl))).wr W8 (Or.inr sz_b2)).wr W11 (Or.inl (List.mem_of_getElem? (i := 0) rfl))), En_13, Fn_14, Fw11, Vn_15, g_b2, sz_b2⟩
theorem pn_1 : plainName "java/util/Arrays" = true := by first | (simp [plainName, overriddenIn]; done) | decide +kernel
theorem ef_RC (m : MethodId) (p1 : Int32) (p2 : Int32) (p3 : Int32) : entryFrame m #[(.int p1), (.int p2), (.int p3)] 3 = mkF m 0 #[iv p1, iv p2, iv p3] [] := by first | (simp [entryFrame, mkF, argsToLocals, Value.category]; done) | rfl
def QRC (Z : State) (p1 : Int32) (p2 : Int32) (p3 : Int32) (h0 : Heap) (n0 : Nat) (v : Option Value) (h : Heap) (L : List Loc) : Prop := v = none ∧ Fr n0 L ∧ h = h0
theorem d5_0 : decode jdk_65_method_30_code 0 = .ok (.iload_n 1, 1) := by decide +kernel
theorem d5_1 : decode jdk_65_method_30_code 1 = .ok (.iload_n 2, 1) := by decide +kernel
theorem d5_2 : decode jdk_65_method_30_code 2 = .ok (.if_icmp .le 44, 3) := by decide +kernel
theorem d5_46 : decode jdk_65_method_30_code 46 = .ok (.iload_n 1, 1) := by decide +kernel
theorem d5_47 : decode jdk_65_method_30_code 47 = .ok (.ifCond .ge 12, 3) := by decide +kernel
theorem d5_59 : decode jdk_65_method_30_code 59 = .ok (.iload_n 2, 1) := by decide +kernel
theorem d5_60 : decode jdk_65_method_30_code 60 = .ok (.iload_n 0, 1) := by decide +kernel
theorem d5_61 : decode jdk_65_method_30_code 61 = .ok (.if_icmp .le 12, 3) := by decide +kernel
theorem d5_73 : decode jdk_65_method_30_code 73 = .ok (.return_, 1) := by decide +kernel
set_option maxRecDepth 65536 in
set_option maxHeartbeats 40000000 in
theorem rmRC (l : Launch) (Z : State) (a0 : Array Value) (hw : ∀ d ∈ tables_1, d.before a0 Z = true) (ws : List Jvm.Cond) (p1 : Int32) (p2 : Int32) (p3 : Int32) (h0 : Heap) (n0 : Nat) (Z0 : n0 ≤ h0.size) (q1 : ¬ p3 < p2) (q2 : ¬ p2 < (0 : Int32)) (q3 : ¬ p1 < p3) :
    MetFree l (⟨"java/util/Arrays", "rangeCheck", "(III)V"⟩ : MethodName) (head1 (Jvm.Cond.code (⟨"java/util/Arrays", "rangeCheck", "(III)V"⟩ : MethodName) jdk_65_method_30_code 3 none :: ws) ({ frames := 0, cells := 0, slots := 0, locals := 0 } : Room)) (fun a U => a = #[(.int p1), (.int p2), (.int p3)] ∧ Z.Warmed39 U.vm ∧ U.heap = h0) (fun _ _ _ _ _ => True) (fun _ U o U' => ∃ v L, o = .returned v ∧ QRC Z p1 p2 p3 h0 n0 v U'.heap L ∧ FrameEnd U o U' L ({ frames := 0, cells := 0, slots := 0, locals := 0 } : Room).cells ({ frames := 0, cells := 0, slots := 0, locals := 0 } : Room).slots) := by
  refine MetFree.of_bodySF (plainFor_of_name pn_1) hisR ?_
  intro p e s m args below meth c s₁ Bd hml0 hP hK
  obtain ⟨rfl, hZ, hh⟩ := hP
  have hx := Bd.exec
  have hby := Bd.bytes
  have hml : c.maxLocals = 3 := hml0
  have hown : s.vm.findClass "java/util/Arrays" = some m.cls := findClass_of_methodNamed Bd.named
  have hnm := (name_of_methodNamed Bd.named Bd.method).1
  have X0 : Stand p l e ({ frames := 0, cells := 0, slots := 0, locals := 0 } : Room) s m #[(.int p1), (.int p2), (.int p3)] below meth c s₁ [] 0 0 := Stand.of_body Bd
  have e0 : s₁.heap = h0 := by rw [← hh, Bd.state]; rfl
  have N0 := Fr.nil n0
  have pre0 : ∀ tg, Steps p.tables e below (s₁.setTop (mkF m 0 #[iv p1, iv p2, iv p3] [])) tg → Steps p.tables e below (s₁.setTop (entryFrame m #[(.int p1), (.int p2), (.int p3)] 3)) tg := fun tg k => castTop (ef_RC m p1 p2 p3) k
  have pre1 : ∀ tg, own_S p e below s₁ m 73 #[iv p1, iv p2, iv p3] [] tg → Steps p.tables e below (s₁.setTop (entryFrame m #[(.int p1), (.int p2), (.int p3)] 3)) tg := fun tg k => pre0 tg (by
    show own_S p e below s₁ m 0 #[iv p1, iv p2, iv p3] [] _
    refine XS.iloadN X0.here hx rfl (hb hby d5_0) rfl ?_
    refine XS.iloadN X0.here hx rfl (hb hby d5_1) rfl ?_
    refine XS.icmpYes X0.here hx rfl (pc0 := 2) (pc' := 46) rfl (hb hby d5_2) rfl (flt q1).2.2.2 (by decide) (by decide) ?_
    show own_S p e below s₁ m 46 #[iv p1, iv p2, iv p3] [] _
    refine XS.iloadN X0.here hx rfl (hb hby d5_46) rfl ?_
    refine XS.ifYes X0.here hx rfl (pc0 := 47) (pc' := 59) rfl (hb hby d5_47) rfl ((if0 _ _).trans (flt q2).2.1) (by decide) (by decide) ?_
    refine XS.iloadN X0.here hx rfl (hb hby d5_59) rfl ?_
    show own_S p e below s₁ m 60 #[iv p1, iv p2, iv p3] [(.int p3)] _
    refine XS.iloadN X0.here hx rfl (hb hby d5_60) rfl ?_
    refine XS.icmpYes X0.here hx rfl (pc0 := 61) (pc' := 73) rfl (hb hby d5_61) rfl (flt q3).2.2.2 (by decide) (by decide) ?_
    exact k)
  obtain ⟨fs, hr, hrun, hended, hW, hsame⟩ := X0.leave (v := none) (fun _ => rfl)
  refine ⟨_, _, pre1 _ ?_, hrun, hended, _, _, rfl, ?_, ⟨_, rfl⟩, hW, hsame.mono (by decide) (by decide)⟩
  · show own_S p e below s₁ m 73 #[iv p1, iv p2, iv p3] [] _
    exact X0.returnOut hx Bd.returns (hb hby d5_73) hr
  · show QRC Z p1 p2 p3 h0 n0 _ s₁.heap _
    rw [e0]
    exact ⟨rfl, N0, rfl⟩
theorem ef_B1 (m : MethodId) (t : Addr) (key : Int32) : entryFrame m #[(.ref t), (.int (0 : Int32)), (.int (1 : Int32)), (.int key)] 8 = mkF m 0 #[rv t, iv (0 : Int32), iv (1 : Int32), iv key, .unset, .unset, .unset, .unset] [] := by first | (simp [entryFrame, mkF, argsToLocals, Value.category]; done) | rfl
def QB1 (Z : State) (t : Addr) (key : Int32) (k : ClassId) (x0 : Int32) (h0 : Heap) (n0 : Nat) (v : Option Value) (h : Heap) (L : List Loc) : Prop := ∃ r : Int32, v = some (.int r) ∧ Fr n0 L ∧ h = h0 ∧ ((r = 0 ∧ x0 = key) ∨ (r = -1 ∧ key < x0) ∨ (r = -2 ∧ x0 < key))
theorem d6_0 : decode jdk_65_method_65_code 0 = .ok (.iload_n 1, 1) := by decide +kernel
theorem d6_1 : decode jdk_65_method_65_code 1 = .ok (.istore 4, 2) := by decide +kernel
theorem d6_3 : decode jdk_65_method_65_code 3 = .ok (.iload_n 2, 1) := by decide +kernel
theorem d6_4 : decode jdk_65_method_65_code 4 = .ok (.iconst 1, 1) := by decide +kernel
theorem d6_5 : decode jdk_65_method_65_code 5 = .ok (.isub, 1) := by decide +kernel
theorem d6_6 : decode jdk_65_method_65_code 6 = .ok (.istore 5, 2) := by decide +kernel
theorem d6_8 : decode jdk_65_method_65_code 8 = .ok (.iload 4, 2) := by decide +kernel
theorem d6_10 : decode jdk_65_method_65_code 10 = .ok (.iload 5, 2) := by decide +kernel
theorem d6_12 : decode jdk_65_method_65_code 12 = .ok (.if_icmp .gt 54, 3) := by decide +kernel
theorem d6_15 : decode jdk_65_method_65_code 15 = .ok (.iload 4, 2) := by decide +kernel
theorem d6_17 : decode jdk_65_method_65_code 17 = .ok (.iload 5, 2) := by decide +kernel
theorem d6_19 : decode jdk_65_method_65_code 19 = .ok (.iadd, 1) := by decide +kernel
theorem d6_20 : decode jdk_65_method_65_code 20 = .ok (.iconst 1, 1) := by decide +kernel
theorem d6_21 : decode jdk_65_method_65_code 21 = .ok (.iushr, 1) := by decide +kernel
theorem d6_22 : decode jdk_65_method_65_code 22 = .ok (.istore 6, 2) := by decide +kernel
theorem d6_24 : decode jdk_65_method_65_code 24 = .ok (.aload_n 0, 1) := by decide +kernel
theorem d6_25 : decode jdk_65_method_65_code 25 = .ok (.iload 6, 2) := by decide +kernel
theorem d6_27 : decode jdk_65_method_65_code 27 = .ok (.caload, 1) := by decide +kernel
theorem d6_28 : decode jdk_65_method_65_code 28 = .ok (.istore 7, 2) := by decide +kernel
theorem d6_30 : decode jdk_65_method_65_code 30 = .ok (.iload 7, 2) := by decide +kernel
theorem d6_32 : decode jdk_65_method_65_code 32 = .ok (.iload_n 3, 1) := by decide +kernel
theorem d6_33 : decode jdk_65_method_65_code 33 = .ok (.if_icmp .ge 12, 3) := by decide +kernel
theorem d6_36 : decode jdk_65_method_65_code 36 = .ok (.iload 6, 2) := by decide +kernel
theorem d6_38 : decode jdk_65_method_65_code 38 = .ok (.iconst 1, 1) := by decide +kernel
theorem d6_39 : decode jdk_65_method_65_code 39 = .ok (.iadd, 1) := by decide +kernel
theorem d6_40 : decode jdk_65_method_65_code 40 = .ok (.istore 4, 2) := by decide +kernel
theorem d6_42 : decode jdk_65_method_65_code 42 = .ok (.goto 21, 3) := by decide +kernel
theorem d6_63 : decode jdk_65_method_65_code 63 = .ok (.goto (-55), 3) := by decide +kernel
theorem d6_66 : decode jdk_65_method_65_code 66 = .ok (.iload 4, 2) := by decide +kernel
theorem d6_68 : decode jdk_65_method_65_code 68 = .ok (.iconst 1, 1) := by decide +kernel
theorem d6_69 : decode jdk_65_method_65_code 69 = .ok (.iadd, 1) := by decide +kernel
theorem d6_70 : decode jdk_65_method_65_code 70 = .ok (.ineg, 1) := by decide +kernel
theorem d6_71 : decode jdk_65_method_65_code 71 = .ok (.ireturn, 1) := by decide +kernel
theorem d6_45 : decode jdk_65_method_65_code 45 = .ok (.iload 7, 2) := by decide +kernel
theorem d6_47 : decode jdk_65_method_65_code 47 = .ok (.iload_n 3, 1) := by decide +kernel
theorem d6_48 : decode jdk_65_method_65_code 48 = .ok (.if_icmp .le 12, 3) := by decide +kernel
theorem d6_51 : decode jdk_65_method_65_code 51 = .ok (.iload 6, 2) := by decide +kernel
theorem d6_53 : decode jdk_65_method_65_code 53 = .ok (.iconst 1, 1) := by decide +kernel
theorem d6_54 : decode jdk_65_method_65_code 54 = .ok (.isub, 1) := by decide +kernel
theorem d6_55 : decode jdk_65_method_65_code 55 = .ok (.istore 5, 2) := by decide +kernel
theorem d6_57 : decode jdk_65_method_65_code 57 = .ok (.goto 6, 3) := by decide +kernel
theorem d6_60 : decode jdk_65_method_65_code 60 = .ok (.iload 6, 2) := by decide +kernel
theorem d6_62 : decode jdk_65_method_65_code 62 = .ok (.ireturn, 1) := by decide +kernel
set_option maxRecDepth 65536 in
set_option maxHeartbeats 40000000 in
theorem rmB1 (l : Launch) (Z : State) (a0 : Array Value) (hw : ∀ d ∈ tables_1, d.before a0 Z = true) (ws : List Jvm.Cond) (t : Addr) (key : Int32) (k : ClassId) (x0 : Int32) (h0 : Heap) (n0 : Nat) (Z0 : n0 ≤ h0.size) (V_t : Arv Z h0 t k .char (4 : Int32) [(.int x0), (.int (0 : Int32)), (.int (0 : Int32)), (.int (0 : Int32))] (.int (0 : Int32))) :
    MetFree l (⟨"java/util/Arrays", "binarySearch0", "([CIIC)I"⟩ : MethodName) (head1 (Jvm.Cond.code (⟨"java/util/Arrays", "binarySearch0", "([CIIC)I"⟩ : MethodName) jdk_65_method_65_code 8 (some .int) :: ws) ({ frames := 0, cells := 0, slots := 0, locals := 0 } : Room)) (fun a U => a = #[(.ref t), (.int (0 : Int32)), (.int (1 : Int32)), (.int key)] ∧ Z.Warmed39 U.vm ∧ U.heap = h0) (fun _ _ _ _ _ => True) (fun _ U o U' => ∃ v L, o = .returned v ∧ QB1 Z t key k x0 h0 n0 v U'.heap L ∧ FrameEnd U o U' L ({ frames := 0, cells := 0, slots := 0, locals := 0 } : Room).cells ({ frames := 0, cells := 0, slots := 0, locals := 0 } : Room).slots) := by
  refine MetFree.of_bodySF (plainFor_of_name pn_1) hisR ?_
  intro p e s m args below meth c s₁ Bd hml0 hP hK
  obtain ⟨rfl, hZ, hh⟩ := hP
  have hx := Bd.exec
  have hby := Bd.bytes
  have hml : c.maxLocals = 8 := hml0
  have hown : s.vm.findClass "java/util/Arrays" = some m.cls := findClass_of_methodNamed Bd.named
  have hnm := (name_of_methodNamed Bd.named Bd.method).1
  have X0 : Stand p l e ({ frames := 0, cells := 0, slots := 0, locals := 0 } : Room) s m #[(.ref t), (.int (0 : Int32)), (.int (1 : Int32)), (.int key)] below meth c s₁ [] 0 0 := Stand.of_body Bd
  have e0 : s₁.heap = h0 := by rw [← hh, Bd.state]; rfl
  have N0 := Fr.nil n0
  have pre0 : ∀ tg, Steps p.tables e below (s₁.setTop (mkF m 0 #[rv t, iv (0 : Int32), iv (1 : Int32), iv key, .unset, .unset, .unset, .unset] [])) tg → Steps p.tables e below (s₁.setTop (entryFrame m #[(.ref t), (.int (0 : Int32)), (.int (1 : Int32)), (.int key)] 8)) tg := fun tg k => castTop (ef_B1 m t key) k
  obtain ⟨cl1, Ar1, q1, S1, M1, H1, G1⟩ := id V_t
  have hin1 : ¬ ((0 : Int32) < 0 ∨ cl1.slots.size ≤ ((0 : Int32)).toNatClampNeg) := inb_of S1 ⟨by decide, by decide⟩
  have hat1 : cl1.slots[((0 : Int32)).toNatClampNeg]? = some (.int x0) := H1.at hin1 rfl
  have pre3 : ∀ tg, own_S p e below s₁ m 33 #[rv t, iv (0 : Int32), iv (1 : Int32), iv key, iv (0 : Int32), iv (0 : Int32), iv (0 : Int32), iv x0] [(.int key), (.int x0)] tg → Steps p.tables e below (s₁.setTop (entryFrame m #[(.ref t), (.int (0 : Int32)), (.int (1 : Int32)), (.int key)] 8)) tg := fun tg k => pre0 tg (by
    show own_S p e below s₁ m 0 #[rv t, iv (0 : Int32), iv (1 : Int32), iv key, .unset, .unset, .unset, .unset] [] _
    refine XS.iloadN X0.here hx rfl (hb hby d6_0) rfl ?_
    refine XS.istore X0.here hx rfl (hb hby d6_1) rfl (l' := #[rv t, iv (0 : Int32), iv (1 : Int32), iv key, iv (0 : Int32), .unset, .unset, .unset]) rfl ?_
    refine XS.iloadN X0.here hx rfl (hb hby d6_3) rfl ?_
    show own_S p e below s₁ m 4 #[rv t, iv (0 : Int32), iv (1 : Int32), iv key, iv (0 : Int32), .unset, .unset, .unset] [(.int (1 : Int32))] _
    refine XS.iconst X0.here hx rfl (hb hby d6_4) ?_
    refine XS.isub X0.here hx rfl (hb hby d6_5) rfl ?_
    refine XS.istore X0.here hx rfl (hb hby d6_6) rfl (l' := #[rv t, iv (0 : Int32), iv (1 : Int32), iv key, iv (0 : Int32), iv (0 : Int32), .unset, .unset]) rfl ?_
    show own_S p e below s₁ m 8 #[rv t, iv (0 : Int32), iv (1 : Int32), iv key, iv (0 : Int32), iv (0 : Int32), .unset, .unset] [] _
    refine XS.iload X0.here hx rfl (hb hby d6_8) rfl ?_
    refine XS.iload X0.here hx rfl (hb hby d6_10) rfl ?_
    refine XS.icmpNo X0.here hx rfl (hb hby d6_12) rfl (flt (by decide : ¬ ((0 : Int32) < (0 : Int32)))).2.2.1 ?_
    show own_S p e below s₁ m 15 #[rv t, iv (0 : Int32), iv (1 : Int32), iv key, iv (0 : Int32), iv (0 : Int32), .unset, .unset] [] _
    refine XS.iload X0.here hx rfl (hb hby d6_15) rfl ?_
    refine XS.iload X0.here hx rfl (hb hby d6_17) rfl ?_
    refine XS.iadd X0.here hx rfl (hb hby d6_19) rfl ?_
    show own_S p e below s₁ m 20 #[rv t, iv (0 : Int32), iv (1 : Int32), iv key, iv (0 : Int32), iv (0 : Int32), .unset, .unset] [(.int (0 : Int32))] _
    refine XS.iconst X0.here hx rfl (hb hby d6_20) ?_
    refine XS.iushr X0.here hx rfl (hb hby d6_21) rfl ?_
    refine XS.istore X0.here hx rfl (hb hby d6_22) rfl (l' := #[rv t, iv (0 : Int32), iv (1 : Int32), iv key, iv (0 : Int32), iv (0 : Int32), iv (0 : Int32), .unset]) rfl ?_
    show own_S p e below s₁ m 24 #[rv t, iv (0 : Int32), iv (1 : Int32), iv key, iv (0 : Int32), iv (0 : Int32), iv (0 : Int32), .unset] [] _
    refine XS.aloadN X0.here hx rfl (hb hby d6_24) rfl rfl ?_
    refine XS.iload X0.here hx rfl (hb hby d6_25) rfl ?_
    refine X0.caload hx (j := (0 : Int32)) (v := (.int x0)) (by rw [e0]; exact Ar1.1) (State.isArrayOf_alike hZ.alike Ar1.2.1) Ar1.2.2 hin1 hat1 (g := (mkF m 27 #[rv t, iv (0 : Int32), iv (1 : Int32), iv key, iv (0 : Int32), iv (0 : Int32), iv (0 : Int32), .unset] [(.int (0 : Int32)), (.ref t)])) rfl rfl (hb hby d6_27) _ ?_
    show own_S p e below s₁ m 28 #[rv t, iv (0 : Int32), iv (1 : Int32), iv key, iv (0 : Int32), iv (0 : Int32), iv (0 : Int32), .unset] [(.int x0)] _
    refine XS.istore X0.here hx rfl (hb hby d6_28) rfl (l' := #[rv t, iv (0 : Int32), iv (1 : Int32), iv key, iv (0 : Int32), iv (0 : Int32), iv (0 : Int32), iv x0]) rfl ?_
    refine XS.iload X0.here hx rfl (hb hby d6_30) rfl ?_
    refine XS.iloadN X0.here hx rfl (hb hby d6_32) rfl ?_
    exact k)
  by_cases hc33_2 : x0 < key
  ·  -- pc 33 yes
    have pre4 : ∀ tg, own_S p e below s₁ m 71 #[rv t, iv (0 : Int32), iv (1 : Int32), iv key, iv (1 : Int32), iv (0 : Int32), iv (0 : Int32), iv x0] [(.int (-2 : Int32))] tg → Steps p.tables e below (s₁.setTop (entryFrame m #[(.ref t), (.int (0 : Int32)), (.int (1 : Int32)), (.int key)] 8)) tg := fun tg k => pre3 tg (by
      show own_S p e below s₁ m 33 #[rv t, iv (0 : Int32), iv (1 : Int32), iv key, iv (0 : Int32), iv (0 : Int32), iv (0 : Int32), iv x0] [(.int key), (.int x0)] _
      refine XS.icmpNo X0.here hx rfl (hb hby d6_33) rfl (tlt hc33_2).2.1 ?_
      refine XS.iload X0.here hx rfl (hb hby d6_36) rfl ?_
      refine XS.iconst X0.here hx rfl (hb hby d6_38) ?_
      show own_S p e below s₁ m 39 #[rv t, iv (0 : Int32), iv (1 : Int32), iv key, iv (0 : Int32), iv (0 : Int32), iv (0 : Int32), iv x0] [(.int (1 : Int32)), (.int (0 : Int32))] _
      refine XS.iadd X0.here hx rfl (hb hby d6_39) rfl ?_
      refine XS.istore X0.here hx rfl (hb hby d6_40) rfl (l' := #[rv t, iv (0 : Int32), iv (1 : Int32), iv key, iv (1 : Int32), iv (0 : Int32), iv (0 : Int32), iv x0]) rfl ?_
      refine XS.goto X0.here hx rfl (pc0 := 42) (pc' := 63) rfl (hb hby d6_42) (by decide) (by decide) ?_
      show own_S p e below s₁ m 63 #[rv t, iv (0 : Int32), iv (1 : Int32), iv key, iv (1 : Int32), iv (0 : Int32), iv (0 : Int32), iv x0] [] _
      refine XS.goto X0.here hx rfl (pc0 := 63) (pc' := 8) rfl (hb hby d6_63) (by decide) (by decide) ?_
      refine XS.iload X0.here hx rfl (hb hby d6_8) rfl ?_
      refine XS.iload X0.here hx rfl (hb hby d6_10) rfl ?_
      show own_S p e below s₁ m 12 #[rv t, iv (0 : Int32), iv (1 : Int32), iv key, iv (1 : Int32), iv (0 : Int32), iv (0 : Int32), iv x0] [(.int (0 : Int32)), (.int (1 : Int32))] _
      refine XS.icmpYes X0.here hx rfl (pc0 := 12) (pc' := 66) rfl (hb hby d6_12) rfl (tlt (by decide : (0 : Int32) < (1 : Int32))).2.2.1 (by decide) (by decide) ?_
      refine XS.iload X0.here hx rfl (hb hby d6_66) rfl ?_
      refine XS.iconst X0.here hx rfl (hb hby d6_68) ?_
      show own_S p e below s₁ m 69 #[rv t, iv (0 : Int32), iv (1 : Int32), iv key, iv (1 : Int32), iv (0 : Int32), iv (0 : Int32), iv x0] [(.int (1 : Int32)), (.int (1 : Int32))] _
      refine XS.iadd X0.here hx rfl (hb hby d6_69) rfl ?_
      refine XS.ineg X0.here hx rfl (hb hby d6_70) rfl ?_
      exact k)
    obtain ⟨fs, hr, hrun, hended, hW, hsame⟩ := X0.leave (v := some (.int (-2 : Int32))) (fun h => by rw [Bd.returns] at h; cases h)
    refine ⟨_, _, pre4 _ ?_, hrun, hended, _, _, rfl, ?_, ⟨_, rfl⟩, hW, hsame.mono (by decide) (by decide)⟩
    · show own_S p e below s₁ m 71 #[rv t, iv (0 : Int32), iv (1 : Int32), iv key, iv (1 : Int32), iv (0 : Int32), iv (0 : Int32), iv x0] [(.int (-2 : Int32))] _
      exact retI X0 hx Bd.returns (hb hby d6_71) hr
    · show QB1 Z t key k x0 h0 n0 _ s₁.heap _
      rw [e0]
      exact ⟨_, rfl, N0, rfl, (Or.inr (Or.inr (⟨rfl, hc33_2⟩)))⟩
  ·  -- pc 33 no
    have pre6 : ∀ tg, own_S p e below s₁ m 48 #[rv t, iv (0 : Int32), iv (1 : Int32), iv key, iv (0 : Int32), iv (0 : Int32), iv (0 : Int32), iv x0] [(.int key), (.int x0)] tg → Steps p.tables e below (s₁.setTop (entryFrame m #[(.ref t), (.int (0 : Int32)), (.int (1 : Int32)), (.int key)] 8)) tg := fun tg k => pre3 tg (by
      show own_S p e below s₁ m 33 #[rv t, iv (0 : Int32), iv (1 : Int32), iv key, iv (0 : Int32), iv (0 : Int32), iv (0 : Int32), iv x0] [(.int key), (.int x0)] _
      refine XS.icmpYes X0.here hx rfl (pc0 := 33) (pc' := 45) rfl (hb hby d6_33) rfl (flt hc33_2).2.1 (by decide) (by decide) ?_
      refine XS.iload X0.here hx rfl (hb hby d6_45) rfl ?_
      refine XS.iloadN X0.here hx rfl (hb hby d6_47) rfl ?_
      exact k)
    by_cases hc48_5 : key < x0
    ·  -- pc 48 yes
      have pre7 : ∀ tg, own_S p e below s₁ m 71 #[rv t, iv (0 : Int32), iv (1 : Int32), iv key, iv (0 : Int32), iv (-1 : Int32), iv (0 : Int32), iv x0] [(.int (-1 : Int32))] tg → Steps p.tables e below (s₁.setTop (entryFrame m #[(.ref t), (.int (0 : Int32)), (.int (1 : Int32)), (.int key)] 8)) tg := fun tg k => pre6 tg (by
        show own_S p e below s₁ m 48 #[rv t, iv (0 : Int32), iv (1 : Int32), iv key, iv (0 : Int32), iv (0 : Int32), iv (0 : Int32), iv x0] [(.int key), (.int x0)] _
        refine XS.icmpNo X0.here hx rfl (hb hby d6_48) rfl (tlt hc48_5).2.2.2 ?_
        refine XS.iload X0.here hx rfl (hb hby d6_51) rfl ?_
        refine XS.iconst X0.here hx rfl (hb hby d6_53) ?_
        show own_S p e below s₁ m 54 #[rv t, iv (0 : Int32), iv (1 : Int32), iv key, iv (0 : Int32), iv (0 : Int32), iv (0 : Int32), iv x0] [(.int (1 : Int32)), (.int (0 : Int32))] _
        refine XS.isub X0.here hx rfl (hb hby d6_54) rfl ?_
        refine XS.istore X0.here hx rfl (hb hby d6_55) rfl (l' := #[rv t, iv (0 : Int32), iv (1 : Int32), iv key, iv (0 : Int32), iv (-1 : Int32), iv (0 : Int32), iv x0]) rfl ?_
        refine XS.goto X0.here hx rfl (pc0 := 57) (pc' := 63) rfl (hb hby d6_57) (by decide) (by decide) ?_
        show own_S p e below s₁ m 63 #[rv t, iv (0 : Int32), iv (1 : Int32), iv key, iv (0 : Int32), iv (-1 : Int32), iv (0 : Int32), iv x0] [] _
        refine XS.goto X0.here hx rfl (pc0 := 63) (pc' := 8) rfl (hb hby d6_63) (by decide) (by decide) ?_
        refine XS.iload X0.here hx rfl (hb hby d6_8) rfl ?_
        refine XS.iload X0.here hx rfl (hb hby d6_10) rfl ?_
        show own_S p e below s₁ m 12 #[rv t, iv (0 : Int32), iv (1 : Int32), iv key, iv (0 : Int32), iv (-1 : Int32), iv (0 : Int32), iv x0] [(.int (-1 : Int32)), (.int (0 : Int32))] _
        refine XS.icmpYes X0.here hx rfl (pc0 := 12) (pc' := 66) rfl (hb hby d6_12) rfl (tlt (by decide : (-1 : Int32) < (0 : Int32))).2.2.1 (by decide) (by decide) ?_
        refine XS.iload X0.here hx rfl (hb hby d6_66) rfl ?_
        refine XS.iconst X0.here hx rfl (hb hby d6_68) ?_
        show own_S p e below s₁ m 69 #[rv t, iv (0 : Int32), iv (1 : Int32), iv key, iv (0 : Int32), iv (-1 : Int32), iv (0 : Int32), iv x0] [(.int (1 : Int32)), (.int (0 : Int32))] _
        refine XS.iadd X0.here hx rfl (hb hby d6_69) rfl ?_
        refine XS.ineg X0.here hx rfl (hb hby d6_70) rfl ?_
        exact k)
      obtain ⟨fs, hr, hrun, hended, hW, hsame⟩ := X0.leave (v := some (.int (-1 : Int32))) (fun h => by rw [Bd.returns] at h; cases h)
      refine ⟨_, _, pre7 _ ?_, hrun, hended, _, _, rfl, ?_, ⟨_, rfl⟩, hW, hsame.mono (by decide) (by decide)⟩
      · show own_S p e below s₁ m 71 #[rv t, iv (0 : Int32), iv (1 : Int32), iv key, iv (0 : Int32), iv (-1 : Int32), iv (0 : Int32), iv x0] [(.int (-1 : Int32))] _
        exact retI X0 hx Bd.returns (hb hby d6_71) hr
      · show QB1 Z t key k x0 h0 n0 _ s₁.heap _
        rw [e0]
        exact ⟨_, rfl, N0, rfl, (Or.inr (Or.inl ⟨rfl, hc48_5⟩))⟩
    ·  -- pc 48 no
      have pre8 : ∀ tg, own_S p e below s₁ m 62 #[rv t, iv (0 : Int32), iv (1 : Int32), iv key, iv (0 : Int32), iv (0 : Int32), iv (0 : Int32), iv x0] [(.int (0 : Int32))] tg → Steps p.tables e below (s₁.setTop (entryFrame m #[(.ref t), (.int (0 : Int32)), (.int (1 : Int32)), (.int key)] 8)) tg := fun tg k => pre6 tg (by
        show own_S p e below s₁ m 48 #[rv t, iv (0 : Int32), iv (1 : Int32), iv key, iv (0 : Int32), iv (0 : Int32), iv (0 : Int32), iv x0] [(.int key), (.int x0)] _
        refine XS.icmpYes X0.here hx rfl (pc0 := 48) (pc' := 60) rfl (hb hby d6_48) rfl (flt hc48_5).2.2.2 (by decide) (by decide) ?_
        refine XS.iload X0.here hx rfl (hb hby d6_60) rfl ?_
        exact k)
      obtain ⟨fs, hr, hrun, hended, hW, hsame⟩ := X0.leave (v := some (.int (0 : Int32))) (fun h => by rw [Bd.returns] at h; cases h)
      refine ⟨_, _, pre8 _ ?_, hrun, hended, _, _, rfl, ?_, ⟨_, rfl⟩, hW, hsame.mono (by decide) (by decide)⟩
      · show own_S p e below s₁ m 62 #[rv t, iv (0 : Int32), iv (1 : Int32), iv key, iv (0 : Int32), iv (0 : Int32), iv (0 : Int32), iv x0] [(.int (0 : Int32))] _
        exact retI X0 hx Bd.returns (hb hby d6_62) hr
      · show QB1 Z t key k x0 h0 n0 _ s₁.heap _
        rw [e0]
        exact ⟨_, rfl, N0, rfl, (Or.inl ⟨rfl, own_eq hc33_2 hc48_5⟩)⟩
theorem ef_S1 (m : MethodId) (t : Addr) (key : Int32) : entryFrame m #[(.ref t), (.int (0 : Int32)), (.int (1 : Int32)), (.int key)] 4 = mkF m 0 #[rv t, iv (0 : Int32), iv (1 : Int32), iv key] [] := by first | (simp [entryFrame, mkF, argsToLocals, Value.category]; done) | rfl
def QS1 (Z : State) (t : Addr) (key : Int32) (k : ClassId) (x0 : Int32) (h0 : Heap) (n0 : Nat) (v : Option Value) (h : Heap) (L : List Loc) : Prop := ∃ r : Int32, v = some (.int r) ∧ Fr n0 L ∧ h = h0 ∧ ((r = 0 ∧ x0 = key) ∨ (r = -1 ∧ key < x0) ∨ (r = -2 ∧ x0 < key))
theorem d4_0 : decode jdk_65_method_64_code 0 = .ok (.aload_n 0, 1) := by decide +kernel
theorem d4_1 : decode jdk_65_method_64_code 1 = .ok (.arraylength, 1) := by decide +kernel
theorem d4_2 : decode jdk_65_method_64_code 2 = .ok (.iload_n 1, 1) := by decide +kernel
theorem d4_3 : decode jdk_65_method_64_code 3 = .ok (.iload_n 2, 1) := by decide +kernel
theorem d4_4 : decode jdk_65_method_64_code 4 = .ok (.invokestatic 13, 3) := by decide +kernel
theorem pd_0 : parseMethodDescriptor "(III)V" = some ⟨[.int, .int, .int], none⟩ := by decide +kernel
theorem d4_7 : decode jdk_65_method_64_code 7 = .ok (.aload_n 0, 1) := by decide +kernel
theorem d4_8 : decode jdk_65_method_64_code 8 = .ok (.iload_n 1, 1) := by decide +kernel
theorem d4_9 : decode jdk_65_method_64_code 9 = .ok (.iload_n 2, 1) := by decide +kernel
theorem d4_10 : decode jdk_65_method_64_code 10 = .ok (.iload_n 3, 1) := by decide +kernel
theorem d4_11 : decode jdk_65_method_64_code 11 = .ok (.invokestatic 215, 3) := by decide +kernel
theorem pd_1 : parseMethodDescriptor "([CIIC)I" = some ⟨[(.array .char), .int, .int, .char], some .int⟩ := by decide +kernel
theorem d4_14 : decode jdk_65_method_64_code 14 = .ok (.ireturn, 1) := by decide +kernel
set_option maxRecDepth 65536 in
set_option maxHeartbeats 40000000 in
theorem rmS1 (l : Launch) (Z : State) (a0 : Array Value) (hw : ∀ d ∈ tables_1, d.before a0 Z = true) (ws : List Jvm.Cond) (t : Addr) (key : Int32) (k : ClassId) (x0 : Int32) (h0 : Heap) (n0 : Nat) (Z0 : n0 ≤ h0.size) (V_t : Arv Z h0 t k .char (4 : Int32) [(.int x0), (.int (0 : Int32)), (.int (0 : Int32)), (.int (0 : Int32))] (.int (0 : Int32))) :
    MetFree l (⟨"java/util/Arrays", "binarySearch", "([CIIC)I"⟩ : MethodName) (head1 (Jvm.Cond.code (⟨"java/util/Arrays", "binarySearch", "([CIIC)I"⟩ : MethodName) jdk_65_method_64_code 4 (some .int) :: ws) ({ frames := 1, cells := 0, slots := 0, locals := 24 } : Room)) (fun a U => a = #[(.ref t), (.int (0 : Int32)), (.int (1 : Int32)), (.int key)] ∧ Z.Warmed39 U.vm ∧ U.heap = h0) (fun _ _ _ _ _ => True) (fun _ U o U' => ∃ v L, o = .returned v ∧ QS1 Z t key k x0 h0 n0 v U'.heap L ∧ FrameEnd U o U' L ({ frames := 1, cells := 0, slots := 0, locals := 24 } : Room).cells ({ frames := 1, cells := 0, slots := 0, locals := 24 } : Room).slots) := by
  refine MetFree.of_bodySF (plainFor_of_name pn_1) hisR ?_
  intro p e s m args below meth c s₁ Bd hml0 hP hK
  obtain ⟨rfl, hZ, hh⟩ := hP
  have hx := Bd.exec
  have hby := Bd.bytes
  have hml : c.maxLocals = 4 := hml0
  have hown : s.vm.findClass "java/util/Arrays" = some m.cls := findClass_of_methodNamed Bd.named
  have hnm := (name_of_methodNamed Bd.named Bd.method).1
  have X0 : Stand p l e ({ frames := 1, cells := 0, slots := 0, locals := 24 } : Room) s m #[(.ref t), (.int (0 : Int32)), (.int (1 : Int32)), (.int key)] below meth c s₁ [] 0 0 := Stand.of_body Bd
  have e0 : s₁.heap = h0 := by rw [← hh, Bd.state]; rfl
  have N0 := Fr.nil n0
  have pre0 : ∀ tg, Steps p.tables e below (s₁.setTop (mkF m 0 #[rv t, iv (0 : Int32), iv (1 : Int32), iv key] [])) tg → Steps p.tables e below (s₁.setTop (entryFrame m #[(.ref t), (.int (0 : Int32)), (.int (1 : Int32)), (.int key)] 4)) tg := fun tg k => castTop (ef_S1 m t key) k
  obtain ⟨cl1, Ar1, q1, S1, M1, -, -⟩ := id V_t
  obtain ⟨_, _, ⟨T2, L2, k2, n2⟩, -, X2, ⟨Lc2, hQ2, l2, y2, z2⟩, st2⟩ := Jvm.LawKit.callS X0 hx (y := (⟨"java/util/Arrays", "rangeCheck", "(III)V"⟩ : MethodName)) hown (mvT hZ (hw _ (List.mem_of_getElem? (i := 29) rfl))) (mvT hZ (hw _ (List.mem_of_getElem? (i := 30) rfl))) (mvT hZ (hw _ (List.mem_of_getElem? (i := 27) rfl))) (mvT hZ (hw _ (List.mem_of_getElem? (i := 31) rfl))) (by decide) (backOf (W := 0) (rmRC l Z a0 hw [] (4 : Int32) (0 : Int32) (1 : Int32) h0 n0 Z0 (by decide) (by decide) (by decide)) hZ (hw _ (List.mem_of_getElem? (i := 31) rfl)) (hw _ (List.mem_of_getElem? (i := 27) rfl)) (by decide) (by decide)) (g := (mkF m 4 #[rv t, iv (0 : Int32), iv (1 : Int32), iv key] [(.int (1 : Int32)), (.int (0 : Int32)), (.int (4 : Int32))])) rfl (by rw [hml]; rfl) (argsL := [(.int (4 : Int32)), (.int (0 : Int32)), (.int (1 : Int32))]) (rest := []) (lenOf pd_0 rfl) rfl (by show 2 * 0 + _ ≤ _; exact Nat.le_of_eq rfl) (hb hby d4_4) (fun _ _ => ⟨rfl, e0, (by decide : 0 + 0 ≤ _), (by decide : 0 + 0 ≤ _)⟩)
  dsimp only [Pt.U, Pt.locs, Pt.cells, Pt.slots] at X2 l2 y2 z2 st2 hQ2
  subst l2 y2 z2
  obtain ⟨rfl, N2q, e2q⟩ := hQ2
  have N2 := Fr.app N0 N2q
  have e2 : T2.heap = h0 := e2q
  obtain ⟨_, _, ⟨T3, L3, k3, n3⟩, -, X3, ⟨Lc3, hQ3, l3, y3, z3⟩, st3⟩ := Jvm.LawKit.callS X2 hx (y := (⟨"java/util/Arrays", "binarySearch0", "([CIIC)I"⟩ : MethodName)) hown (mvT hZ (hw _ (List.mem_of_getElem? (i := 32) rfl))) (mvT hZ (hw _ (List.mem_of_getElem? (i := 33) rfl))) (mvT hZ (hw _ (List.mem_of_getElem? (i := 27) rfl))) (mvT hZ (hw _ (List.mem_of_getElem? (i := 34) rfl))) (by decide) (backOf (W := 0) (rmB1 l Z a0 hw [] t key k x0 h0 n0 Z0 V_t) hZ (hw _ (List.mem_of_getElem? (i := 34) rfl)) (hw _ (List.mem_of_getElem? (i := 27) rfl)) (by decide) (by decide)) (g := (mkF m 11 #[rv t, iv (0 : Int32), iv (1 : Int32), iv key] [(.int key), (.int (1 : Int32)), (.int (0 : Int32)), (.ref t)])) rfl (by rw [hml]; rfl) (argsL := [(.ref t), (.int (0 : Int32)), (.int (1 : Int32)), (.int key)]) (rest := []) (lenOf pd_1 rfl) rfl (by show 2 * 0 + _ ≤ _; exact Nat.le_of_eq rfl) (hb hby d4_11) (fun _ _ => ⟨rfl, e2, (by decide : 0 + 0 ≤ _), (by decide : 0 + 0 ≤ _)⟩)
  dsimp only [Pt.U, Pt.locs, Pt.cells, Pt.slots] at X3 l3 y3 z3 st3 hQ3
  subst l3 y3 z3
  obtain ⟨r3, rfl, N3q, e3q, hD3⟩ := hQ3
  have N3 := Fr.app N2 N3q
  have e3 : T3.heap = h0 := e3q
  have pre4 : ∀ tg, own_S p e below T3 m 14 #[rv t, iv (0 : Int32), iv (1 : Int32), iv key] [(.int r3)] tg → Steps p.tables e below (s₁.setTop (entryFrame m #[(.ref t), (.int (0 : Int32)), (.int (1 : Int32)), (.int key)] 4)) tg := fun tg k => pre0 tg (by
    show own_S p e below s₁ m 0 #[rv t, iv (0 : Int32), iv (1 : Int32), iv key] [] _
    refine XS.aloadN X0.here hx rfl (hb hby d4_0) rfl rfl ?_
    refine X0.arraylength hx (by rw [e0]; exact Ar1.1) (State.isArrayOf_alike hZ.alike Ar1.2.1) (g := (mkF m 1 #[rv t, iv (0 : Int32), iv (1 : Int32), iv key] [(.ref t)])) rfl rfl (hb hby d4_1) _ ?_
    rw [len_of S1 M1]
    refine XS.iloadN X0.here hx rfl (hb hby d4_2) rfl ?_
    show own_S p e below s₁ m 3 #[rv t, iv (0 : Int32), iv (1 : Int32), iv key] [(.int (0 : Int32)), (.int (4 : Int32))] _
    refine XS.iloadN X0.here hx rfl (hb hby d4_3) rfl ?_
    refine st2 _ ?_
    refine XS.aloadN X2.here hx rfl (hb hby d4_7) rfl rfl ?_
    show own_S p e below T2 m 8 #[rv t, iv (0 : Int32), iv (1 : Int32), iv key] [(.ref t)] _
    refine XS.iloadN X2.here hx rfl (hb hby d4_8) rfl ?_
    refine XS.iloadN X2.here hx rfl (hb hby d4_9) rfl ?_
    refine XS.iloadN X2.here hx rfl (hb hby d4_10) rfl ?_
    show own_S p e below T2 m 11 #[rv t, iv (0 : Int32), iv (1 : Int32), iv key] [(.int key), (.int (1 : Int32)), (.int (0 : Int32)), (.ref t)] _
    refine st3 _ ?_
    exact k)
  obtain ⟨fs, hr, hrun, hended, hW, hsame⟩ := X3.leave (v := some (.int r3)) (fun h => by rw [Bd.returns] at h; cases h)
  refine ⟨_, _, pre4 _ ?_, hrun, hended, _, _, rfl, ?_, ⟨_, rfl⟩, hW, hsame.mono (by decide) (by decide)⟩
  · show own_S p e below T3 m 14 #[rv t, iv (0 : Int32), iv (1 : Int32), iv key] [(.int r3)] _
    exact retI X3 hx Bd.returns (hb hby d4_14) hr
  · show QS1 Z t key k x0 h0 n0 _ T3.heap _
    rw [e3]
    exact ⟨_, rfl, N3, rfl, hD3⟩
theorem ef_B2 (m : MethodId) (t : Addr) (key : Int32) : entryFrame m #[(.ref t), (.int (0 : Int32)), (.int (2 : Int32)), (.int key)] 8 = mkF m 0 #[rv t, iv (0 : Int32), iv (2 : Int32), iv key, .unset, .unset, .unset, .unset] [] := by first | (simp [entryFrame, mkF, argsToLocals, Value.category]; done) | rfl
def QB2 (Z : State) (t : Addr) (key : Int32) (k : ClassId) (x0 : Int32) (x1 : Int32) (h0 : Heap) (n0 : Nat) (v : Option Value) (h : Heap) (L : List Loc) : Prop := ∃ r : Int32, v = some (.int r) ∧ Fr n0 L ∧ h = h0 ∧ ((r = 0 ∧ x0 = key) ∨ (r = 1 ∧ x1 = key) ∨ (r = -1 ∧ key < x0) ∨ (r = -2 ∧ x0 < key ∧ key < x1) ∨ (r = -3 ∧ x1 < key))
set_option maxRecDepth 65536 in
set_option maxHeartbeats 40000000 in
theorem rmB2 (l : Launch) (Z : State) (a0 : Array Value) (hw : ∀ d ∈ tables_1, d.before a0 Z = true) (ws : List Jvm.Cond) (t : Addr) (key : Int32) (k : ClassId) (x0 : Int32) (x1 : Int32) (h0 : Heap) (n0 : Nat) (Z0 : n0 ≤ h0.size) (V_t : Arv Z h0 t k .char (4 : Int32) [(.int x0), (.int x1), (.int (0 : Int32)), (.int (0 : Int32))] (.int (0 : Int32))) :
    MetFree l (⟨"java/util/Arrays", "binarySearch0", "([CIIC)I"⟩ : MethodName) (head1 (Jvm.Cond.code (⟨"java/util/Arrays", "binarySearch0", "([CIIC)I"⟩ : MethodName) jdk_65_method_65_code 8 (some .int) :: ws) ({ frames := 0, cells := 0, slots := 0, locals := 0 } : Room)) (fun a U => a = #[(.ref t), (.int (0 : Int32)), (.int (2 : Int32)), (.int key)] ∧ Z.Warmed39 U.vm ∧ U.heap = h0) (fun _ _ _ _ _ => True) (fun _ U o U' => ∃ v L, o = .returned v ∧ QB2 Z t key k x0 x1 h0 n0 v U'.heap L ∧ FrameEnd U o U' L ({ frames := 0, cells := 0, slots := 0, locals := 0 } : Room).cells ({ frames := 0, cells := 0, slots := 0, locals := 0 } : Room).slots) := by
  refine MetFree.of_bodySF (plainFor_of_name pn_1) hisR ?_
  intro p e s m args below meth c s₁ Bd hml0 hP hK
  obtain ⟨rfl, hZ, hh⟩ := hP
  have hx := Bd.exec
  have hby := Bd.bytes
  have hml : c.maxLocals = 8 := hml0
  have hown : s.vm.findClass "java/util/Arrays" = some m.cls := findClass_of_methodNamed Bd.named
  have hnm := (name_of_methodNamed Bd.named Bd.method).1
  have X0 : Stand p l e ({ frames := 0, cells := 0, slots := 0, locals := 0 } : Room) s m #[(.ref t), (.int (0 : Int32)), (.int (2 : Int32)), (.int key)] below meth c s₁ [] 0 0 := Stand.of_body Bd
  have e0 : s₁.heap = h0 := by rw [← hh, Bd.state]; rfl
  have N0 := Fr.nil n0
  have pre0 : ∀ tg, Steps p.tables e below (s₁.setTop (mkF m 0 #[rv t, iv (0 : Int32), iv (2 : Int32), iv key, .unset, .unset, .unset, .unset] [])) tg → Steps p.tables e below (s₁.setTop (entryFrame m #[(.ref t), (.int (0 : Int32)), (.int (2 : Int32)), (.int key)] 8)) tg := fun tg k => castTop (ef_B2 m t key) k
  obtain ⟨cl1, Ar1, q1, S1, M1, H1, G1⟩ := id V_t
  have hin1 : ¬ ((0 : Int32) < 0 ∨ cl1.slots.size ≤ ((0 : Int32)).toNatClampNeg) := inb_of S1 ⟨by decide, by decide⟩
  have hat1 : cl1.slots[((0 : Int32)).toNatClampNeg]? = some (.int x0) := H1.at hin1 rfl
  have pre3 : ∀ tg, own_S p e below s₁ m 33 #[rv t, iv (0 : Int32), iv (2 : Int32), iv key, iv (0 : Int32), iv (1 : Int32), iv (0 : Int32), iv x0] [(.int key), (.int x0)] tg → Steps p.tables e below (s₁.setTop (entryFrame m #[(.ref t), (.int (0 : Int32)), (.int (2 : Int32)), (.int key)] 8)) tg := fun tg k => pre0 tg (by
    show own_S p e below s₁ m 0 #[rv t, iv (0 : Int32), iv (2 : Int32), iv key, .unset, .unset, .unset, .unset] [] _
    refine XS.iloadN X0.here hx rfl (hb hby d6_0) rfl ?_
    refine XS.istore X0.here hx rfl (hb hby d6_1) rfl (l' := #[rv t, iv (0 : Int32), iv (2 : Int32), iv key, iv (0 : Int32), .unset, .unset, .unset]) rfl ?_
    refine XS.iloadN X0.here hx rfl (hb hby d6_3) rfl ?_
    show own_S p e below s₁ m 4 #[rv t, iv (0 : Int32), iv (2 : Int32), iv key, iv (0 : Int32), .unset, .unset, .unset] [(.int (2 : Int32))] _
    refine XS.iconst X0.here hx rfl (hb hby d6_4) ?_
    refine XS.isub X0.here hx rfl (hb hby d6_5) rfl ?_
    refine XS.istore X0.here hx rfl (hb hby d6_6) rfl (l' := #[rv t, iv (0 : Int32), iv (2 : Int32), iv key, iv (0 : Int32), iv (1 : Int32), .unset, .unset]) rfl ?_
    show own_S p e below s₁ m 8 #[rv t, iv (0 : Int32), iv (2 : Int32), iv key, iv (0 : Int32), iv (1 : Int32), .unset, .unset] [] _
    refine XS.iload X0.here hx rfl (hb hby d6_8) rfl ?_
    refine XS.iload X0.here hx rfl (hb hby d6_10) rfl ?_
    refine XS.icmpNo X0.here hx rfl (hb hby d6_12) rfl (flt (by decide : ¬ ((1 : Int32) < (0 : Int32)))).2.2.1 ?_
    show own_S p e below s₁ m 15 #[rv t, iv (0 : Int32), iv (2 : Int32), iv key, iv (0 : Int32), iv (1 : Int32), .unset, .unset] [] _
    refine XS.iload X0.here hx rfl (hb hby d6_15) rfl ?_
    refine XS.iload X0.here hx rfl (hb hby d6_17) rfl ?_
    refine XS.iadd X0.here hx rfl (hb hby d6_19) rfl ?_
    show own_S p e below s₁ m 20 #[rv t, iv (0 : Int32), iv (2 : Int32), iv key, iv (0 : Int32), iv (1 : Int32), .unset, .unset] [(.int (1 : Int32))] _
    refine XS.iconst X0.here hx rfl (hb hby d6_20) ?_
    refine XS.iushr X0.here hx rfl (hb hby d6_21) rfl ?_
    refine XS.istore X0.here hx rfl (hb hby d6_22) rfl (l' := #[rv t, iv (0 : Int32), iv (2 : Int32), iv key, iv (0 : Int32), iv (1 : Int32), iv (0 : Int32), .unset]) rfl ?_
    show own_S p e below s₁ m 24 #[rv t, iv (0 : Int32), iv (2 : Int32), iv key, iv (0 : Int32), iv (1 : Int32), iv (0 : Int32), .unset] [] _
    refine XS.aloadN X0.here hx rfl (hb hby d6_24) rfl rfl ?_
    refine XS.iload X0.here hx rfl (hb hby d6_25) rfl ?_
    refine X0.caload hx (j := (0 : Int32)) (v := (.int x0)) (by rw [e0]; exact Ar1.1) (State.isArrayOf_alike hZ.alike Ar1.2.1) Ar1.2.2 hin1 hat1 (g := (mkF m 27 #[rv t, iv (0 : Int32), iv (2 : Int32), iv key, iv (0 : Int32), iv (1 : Int32), iv (0 : Int32), .unset] [(.int (0 : Int32)), (.ref t)])) rfl rfl (hb hby d6_27) _ ?_
    show own_S p e below s₁ m 28 #[rv t, iv (0 : Int32), iv (2 : Int32), iv key, iv (0 : Int32), iv (1 : Int32), iv (0 : Int32), .unset] [(.int x0)] _
    refine XS.istore X0.here hx rfl (hb hby d6_28) rfl (l' := #[rv t, iv (0 : Int32), iv (2 : Int32), iv key, iv (0 : Int32), iv (1 : Int32), iv (0 : Int32), iv x0]) rfl ?_
    refine XS.iload X0.here hx rfl (hb hby d6_30) rfl ?_
    refine XS.iloadN X0.here hx rfl (hb hby d6_32) rfl ?_
    exact k)
  by_cases hc33_2 : x0 < key
  ·  -- pc 33 yes
    obtain ⟨cl4, Ar4, q4, S4, M4, H4, G4⟩ := id V_t
    have hin4 : ¬ ((1 : Int32) < 0 ∨ cl4.slots.size ≤ ((1 : Int32)).toNatClampNeg) := inb_of S4 ⟨by decide, by decide⟩
    have hat4 : cl4.slots[((1 : Int32)).toNatClampNeg]? = some (.int x1) := H4.at hin4 rfl
    have pre6 : ∀ tg, own_S p e below s₁ m 33 #[rv t, iv (0 : Int32), iv (2 : Int32), iv key, iv (1 : Int32), iv (1 : Int32), iv (1 : Int32), iv x1] [(.int key), (.int x1)] tg → Steps p.tables e below (s₁.setTop (entryFrame m #[(.ref t), (.int (0 : Int32)), (.int (2 : Int32)), (.int key)] 8)) tg := fun tg k => pre3 tg (by
      show own_S p e below s₁ m 33 #[rv t, iv (0 : Int32), iv (2 : Int32), iv key, iv (0 : Int32), iv (1 : Int32), iv (0 : Int32), iv x0] [(.int key), (.int x0)] _
      refine XS.icmpNo X0.here hx rfl (hb hby d6_33) rfl (tlt hc33_2).2.1 ?_
      refine XS.iload X0.here hx rfl (hb hby d6_36) rfl ?_
      refine XS.iconst X0.here hx rfl (hb hby d6_38) ?_
      show own_S p e below s₁ m 39 #[rv t, iv (0 : Int32), iv (2 : Int32), iv key, iv (0 : Int32), iv (1 : Int32), iv (0 : Int32), iv x0] [(.int (1 : Int32)), (.int (0 : Int32))] _
      refine XS.iadd X0.here hx rfl (hb hby d6_39) rfl ?_
      refine XS.istore X0.here hx rfl (hb hby d6_40) rfl (l' := #[rv t, iv (0 : Int32), iv (2 : Int32), iv key, iv (1 : Int32), iv (1 : Int32), iv (0 : Int32), iv x0]) rfl ?_
      refine XS.goto X0.here hx rfl (pc0 := 42) (pc' := 63) rfl (hb hby d6_42) (by decide) (by decide) ?_
      show own_S p e below s₁ m 63 #[rv t, iv (0 : Int32), iv (2 : Int32), iv key, iv (1 : Int32), iv (1 : Int32), iv (0 : Int32), iv x0] [] _
      refine XS.goto X0.here hx rfl (pc0 := 63) (pc' := 8) rfl (hb hby d6_63) (by decide) (by decide) ?_
      refine XS.iload X0.here hx rfl (hb hby d6_8) rfl ?_
      refine XS.iload X0.here hx rfl (hb hby d6_10) rfl ?_
      show own_S p e below s₁ m 12 #[rv t, iv (0 : Int32), iv (2 : Int32), iv key, iv (1 : Int32), iv (1 : Int32), iv (0 : Int32), iv x0] [(.int (1 : Int32)), (.int (1 : Int32))] _
      refine XS.icmpNo X0.here hx rfl (hb hby d6_12) rfl (flt (by decide : ¬ ((1 : Int32) < (1 : Int32)))).2.2.1 ?_
      refine XS.iload X0.here hx rfl (hb hby d6_15) rfl ?_
      refine XS.iload X0.here hx rfl (hb hby d6_17) rfl ?_
      show own_S p e below s₁ m 19 #[rv t, iv (0 : Int32), iv (2 : Int32), iv key, iv (1 : Int32), iv (1 : Int32), iv (0 : Int32), iv x0] [(.int (1 : Int32)), (.int (1 : Int32))] _
      refine XS.iadd X0.here hx rfl (hb hby d6_19) rfl ?_
      refine XS.iconst X0.here hx rfl (hb hby d6_20) ?_
      refine XS.iushr X0.here hx rfl (hb hby d6_21) rfl ?_
      show own_S p e below s₁ m 22 #[rv t, iv (0 : Int32), iv (2 : Int32), iv key, iv (1 : Int32), iv (1 : Int32), iv (0 : Int32), iv x0] [(.int (1 : Int32))] _
      refine XS.istore X0.here hx rfl (hb hby d6_22) rfl (l' := #[rv t, iv (0 : Int32), iv (2 : Int32), iv key, iv (1 : Int32), iv (1 : Int32), iv (1 : Int32), iv x0]) rfl ?_
      refine XS.aloadN X0.here hx rfl (hb hby d6_24) rfl rfl ?_
      refine XS.iload X0.here hx rfl (hb hby d6_25) rfl ?_
      show own_S p e below s₁ m 27 #[rv t, iv (0 : Int32), iv (2 : Int32), iv key, iv (1 : Int32), iv (1 : Int32), iv (1 : Int32), iv x0] [(.int (1 : Int32)), (.ref t)] _
      refine X0.caload hx (j := (1 : Int32)) (v := (.int x1)) (by rw [e0]; exact Ar4.1) (State.isArrayOf_alike hZ.alike Ar4.2.1) Ar4.2.2 hin4 hat4 (g := (mkF m 27 #[rv t, iv (0 : Int32), iv (2 : Int32), iv key, iv (1 : Int32), iv (1 : Int32), iv (1 : Int32), iv x0] [(.int (1 : Int32)), (.ref t)])) rfl rfl (hb hby d6_27) _ ?_
      refine XS.istore X0.here hx rfl (hb hby d6_28) rfl (l' := #[rv t, iv (0 : Int32), iv (2 : Int32), iv key, iv (1 : Int32), iv (1 : Int32), iv (1 : Int32), iv x1]) rfl ?_
      refine XS.iload X0.here hx rfl (hb hby d6_30) rfl ?_
      show own_S p e below s₁ m 32 #[rv t, iv (0 : Int32), iv (2 : Int32), iv key, iv (1 : Int32), iv (1 : Int32), iv (1 : Int32), iv x1] [(.int x1)] _
      refine XS.iloadN X0.here hx rfl (hb hby d6_32) rfl ?_
      exact k)
    by_cases hc33_5 : x1 < key
    ·  -- pc 33 yes
      have pre7 : ∀ tg, own_S p e below s₁ m 71 #[rv t, iv (0 : Int32), iv (2 : Int32), iv key, iv (2 : Int32), iv (1 : Int32), iv (1 : Int32), iv x1] [(.int (-3 : Int32))] tg → Steps p.tables e below (s₁.setTop (entryFrame m #[(.ref t), (.int (0 : Int32)), (.int (2 : Int32)), (.int key)] 8)) tg := fun tg k => pre6 tg (by
        show own_S p e below s₁ m 33 #[rv t, iv (0 : Int32), iv (2 : Int32), iv key, iv (1 : Int32), iv (1 : Int32), iv (1 : Int32), iv x1] [(.int key), (.int x1)] _
        refine XS.icmpNo X0.here hx rfl (hb hby d6_33) rfl (tlt hc33_5).2.1 ?_
        refine XS.iload X0.here hx rfl (hb hby d6_36) rfl ?_
        refine XS.iconst X0.here hx rfl (hb hby d6_38) ?_
        show own_S p e below s₁ m 39 #[rv t, iv (0 : Int32), iv (2 : Int32), iv key, iv (1 : Int32), iv (1 : Int32), iv (1 : Int32), iv x1] [(.int (1 : Int32)), (.int (1 : Int32))] _
        refine XS.iadd X0.here hx rfl (hb hby d6_39) rfl ?_
        refine XS.istore X0.here hx rfl (hb hby d6_40) rfl (l' := #[rv t, iv (0 : Int32), iv (2 : Int32), iv key, iv (2 : Int32), iv (1 : Int32), iv (1 : Int32), iv x1]) rfl ?_
        refine XS.goto X0.here hx rfl (pc0 := 42) (pc' := 63) rfl (hb hby d6_42) (by decide) (by decide) ?_
        show own_S p e below s₁ m 63 #[rv t, iv (0 : Int32), iv (2 : Int32), iv key, iv (2 : Int32), iv (1 : Int32), iv (1 : Int32), iv x1] [] _
        refine XS.goto X0.here hx rfl (pc0 := 63) (pc' := 8) rfl (hb hby d6_63) (by decide) (by decide) ?_
        refine XS.iload X0.here hx rfl (hb hby d6_8) rfl ?_
        refine XS.iload X0.here hx rfl (hb hby d6_10) rfl ?_
        show own_S p e below s₁ m 12 #[rv t, iv (0 : Int32), iv (2 : Int32), iv key, iv (2 : Int32), iv (1 : Int32), iv (1 : Int32), iv x1] [(.int (1 : Int32)), (.int (2 : Int32))] _
        refine XS.icmpYes X0.here hx rfl (pc0 := 12) (pc' := 66) rfl (hb hby d6_12) rfl (tlt (by decide : (1 : Int32) < (2 : Int32))).2.2.1 (by decide) (by decide) ?_
        refine XS.iload X0.here hx rfl (hb hby d6_66) rfl ?_
        refine XS.iconst X0.here hx rfl (hb hby d6_68) ?_
        show own_S p e below s₁ m 69 #[rv t, iv (0 : Int32), iv (2 : Int32), iv key, iv (2 : Int32), iv (1 : Int32), iv (1 : Int32), iv x1] [(.int (1 : Int32)), (.int (2 : Int32))] _
        refine XS.iadd X0.here hx rfl (hb hby d6_69) rfl ?_
        refine XS.ineg X0.here hx rfl (hb hby d6_70) rfl ?_
        exact k)
      obtain ⟨fs, hr, hrun, hended, hW, hsame⟩ := X0.leave (v := some (.int (-3 : Int32))) (fun h => by rw [Bd.returns] at h; cases h)
      refine ⟨_, _, pre7 _ ?_, hrun, hended, _, _, rfl, ?_, ⟨_, rfl⟩, hW, hsame.mono (by decide) (by decide)⟩
      · show own_S p e below s₁ m 71 #[rv t, iv (0 : Int32), iv (2 : Int32), iv key, iv (2 : Int32), iv (1 : Int32), iv (1 : Int32), iv x1] [(.int (-3 : Int32))] _
        exact retI X0 hx Bd.returns (hb hby d6_71) hr
      · show QB2 Z t key k x0 x1 h0 n0 _ s₁.heap _
        rw [e0]
        exact ⟨_, rfl, N0, rfl, (Or.inr (Or.inr (Or.inr (Or.inr (⟨rfl, hc33_5⟩)))))⟩
    ·  -- pc 33 no
      have pre9 : ∀ tg, own_S p e below s₁ m 48 #[rv t, iv (0 : Int32), iv (2 : Int32), iv key, iv (1 : Int32), iv (1 : Int32), iv (1 : Int32), iv x1] [(.int key), (.int x1)] tg → Steps p.tables e below (s₁.setTop (entryFrame m #[(.ref t), (.int (0 : Int32)), (.int (2 : Int32)), (.int key)] 8)) tg := fun tg k => pre6 tg (by
        show own_S p e below s₁ m 33 #[rv t, iv (0 : Int32), iv (2 : Int32), iv key, iv (1 : Int32), iv (1 : Int32), iv (1 : Int32), iv x1] [(.int key), (.int x1)] _
        refine XS.icmpYes X0.here hx rfl (pc0 := 33) (pc' := 45) rfl (hb hby d6_33) rfl (flt hc33_5).2.1 (by decide) (by decide) ?_
        refine XS.iload X0.here hx rfl (hb hby d6_45) rfl ?_
        refine XS.iloadN X0.here hx rfl (hb hby d6_47) rfl ?_
        exact k)
      by_cases hc48_8 : key < x1
      ·  -- pc 48 yes
        have pre10 : ∀ tg, own_S p e below s₁ m 71 #[rv t, iv (0 : Int32), iv (2 : Int32), iv key, iv (1 : Int32), iv (0 : Int32), iv (1 : Int32), iv x1] [(.int (-2 : Int32))] tg → Steps p.tables e below (s₁.setTop (entryFrame m #[(.ref t), (.int (0 : Int32)), (.int (2 : Int32)), (.int key)] 8)) tg := fun tg k => pre9 tg (by
          show own_S p e below s₁ m 48 #[rv t, iv (0 : Int32), iv (2 : Int32), iv key, iv (1 : Int32), iv (1 : Int32), iv (1 : Int32), iv x1] [(.int key), (.int x1)] _
          refine XS.icmpNo X0.here hx rfl (hb hby d6_48) rfl (tlt hc48_8).2.2.2 ?_
          refine XS.iload X0.here hx rfl (hb hby d6_51) rfl ?_
          refine XS.iconst X0.here hx rfl (hb hby d6_53) ?_
          show own_S p e below s₁ m 54 #[rv t, iv (0 : Int32), iv (2 : Int32), iv key, iv (1 : Int32), iv (1 : Int32), iv (1 : Int32), iv x1] [(.int (1 : Int32)), (.int (1 : Int32))] _
          refine XS.isub X0.here hx rfl (hb hby d6_54) rfl ?_
          refine XS.istore X0.here hx rfl (hb hby d6_55) rfl (l' := #[rv t, iv (0 : Int32), iv (2 : Int32), iv key, iv (1 : Int32), iv (0 : Int32), iv (1 : Int32), iv x1]) rfl ?_
          refine XS.goto X0.here hx rfl (pc0 := 57) (pc' := 63) rfl (hb hby d6_57) (by decide) (by decide) ?_
          show own_S p e below s₁ m 63 #[rv t, iv (0 : Int32), iv (2 : Int32), iv key, iv (1 : Int32), iv (0 : Int32), iv (1 : Int32), iv x1] [] _
          refine XS.goto X0.here hx rfl (pc0 := 63) (pc' := 8) rfl (hb hby d6_63) (by decide) (by decide) ?_
          refine XS.iload X0.here hx rfl (hb hby d6_8) rfl ?_
          refine XS.iload X0.here hx rfl (hb hby d6_10) rfl ?_
          show own_S p e below s₁ m 12 #[rv t, iv (0 : Int32), iv (2 : Int32), iv key, iv (1 : Int32), iv (0 : Int32), iv (1 : Int32), iv x1] [(.int (0 : Int32)), (.int (1 : Int32))] _
          refine XS.icmpYes X0.here hx rfl (pc0 := 12) (pc' := 66) rfl (hb hby d6_12) rfl (tlt (by decide : (0 : Int32) < (1 : Int32))).2.2.1 (by decide) (by decide) ?_
          refine XS.iload X0.here hx rfl (hb hby d6_66) rfl ?_
          refine XS.iconst X0.here hx rfl (hb hby d6_68) ?_
          show own_S p e below s₁ m 69 #[rv t, iv (0 : Int32), iv (2 : Int32), iv key, iv (1 : Int32), iv (0 : Int32), iv (1 : Int32), iv x1] [(.int (1 : Int32)), (.int (1 : Int32))] _
          refine XS.iadd X0.here hx rfl (hb hby d6_69) rfl ?_
          refine XS.ineg X0.here hx rfl (hb hby d6_70) rfl ?_
          exact k)
        obtain ⟨fs, hr, hrun, hended, hW, hsame⟩ := X0.leave (v := some (.int (-2 : Int32))) (fun h => by rw [Bd.returns] at h; cases h)
        refine ⟨_, _, pre10 _ ?_, hrun, hended, _, _, rfl, ?_, ⟨_, rfl⟩, hW, hsame.mono (by decide) (by decide)⟩
        · show own_S p e below s₁ m 71 #[rv t, iv (0 : Int32), iv (2 : Int32), iv key, iv (1 : Int32), iv (0 : Int32), iv (1 : Int32), iv x1] [(.int (-2 : Int32))] _
          exact retI X0 hx Bd.returns (hb hby d6_71) hr
        · show QB2 Z t key k x0 x1 h0 n0 _ s₁.heap _
          rw [e0]
          exact ⟨_, rfl, N0, rfl, (Or.inr (Or.inr (Or.inr (Or.inl ⟨rfl, hc33_2, hc48_8⟩))))⟩
      ·  -- pc 48 no
        have pre11 : ∀ tg, own_S p e below s₁ m 62 #[rv t, iv (0 : Int32), iv (2 : Int32), iv key, iv (1 : Int32), iv (1 : Int32), iv (1 : Int32), iv x1] [(.int (1 : Int32))] tg → Steps p.tables e below (s₁.setTop (entryFrame m #[(.ref t), (.int (0 : Int32)), (.int (2 : Int32)), (.int key)] 8)) tg := fun tg k => pre9 tg (by
          show own_S p e below s₁ m 48 #[rv t, iv (0 : Int32), iv (2 : Int32), iv key, iv (1 : Int32), iv (1 : Int32), iv (1 : Int32), iv x1] [(.int key), (.int x1)] _
          refine XS.icmpYes X0.here hx rfl (pc0 := 48) (pc' := 60) rfl (hb hby d6_48) rfl (flt hc48_8).2.2.2 (by decide) (by decide) ?_
          refine XS.iload X0.here hx rfl (hb hby d6_60) rfl ?_
          exact k)
        obtain ⟨fs, hr, hrun, hended, hW, hsame⟩ := X0.leave (v := some (.int (1 : Int32))) (fun h => by rw [Bd.returns] at h; cases h)
        refine ⟨_, _, pre11 _ ?_, hrun, hended, _, _, rfl, ?_, ⟨_, rfl⟩, hW, hsame.mono (by decide) (by decide)⟩
        · show own_S p e below s₁ m 62 #[rv t, iv (0 : Int32), iv (2 : Int32), iv key, iv (1 : Int32), iv (1 : Int32), iv (1 : Int32), iv x1] [(.int (1 : Int32))] _
          exact retI X0 hx Bd.returns (hb hby d6_62) hr
        · show QB2 Z t key k x0 x1 h0 n0 _ s₁.heap _
          rw [e0]
          exact ⟨_, rfl, N0, rfl, (Or.inr (Or.inl ⟨rfl, own_eq hc33_5 hc48_8⟩))⟩
  ·  -- pc 33 no
    have pre13 : ∀ tg, own_S p e below s₁ m 48 #[rv t, iv (0 : Int32), iv (2 : Int32), iv key, iv (0 : Int32), iv (1 : Int32), iv (0 : Int32), iv x0] [(.int key), (.int x0)] tg → Steps p.tables e below (s₁.setTop (entryFrame m #[(.ref t), (.int (0 : Int32)), (.int (2 : Int32)), (.int key)] 8)) tg := fun tg k => pre3 tg (by
      show own_S p e below s₁ m 33 #[rv t, iv (0 : Int32), iv (2 : Int32), iv key, iv (0 : Int32), iv (1 : Int32), iv (0 : Int32), iv x0] [(.int key), (.int x0)] _
      refine XS.icmpYes X0.here hx rfl (pc0 := 33) (pc' := 45) rfl (hb hby d6_33) rfl (flt hc33_2).2.1 (by decide) (by decide) ?_
      refine XS.iload X0.here hx rfl (hb hby d6_45) rfl ?_
      refine XS.iloadN X0.here hx rfl (hb hby d6_47) rfl ?_
      exact k)
    by_cases hc48_12 : key < x0
    ·  -- pc 48 yes
      have pre14 : ∀ tg, own_S p e below s₁ m 71 #[rv t, iv (0 : Int32), iv (2 : Int32), iv key, iv (0 : Int32), iv (-1 : Int32), iv (0 : Int32), iv x0] [(.int (-1 : Int32))] tg → Steps p.tables e below (s₁.setTop (entryFrame m #[(.ref t), (.int (0 : Int32)), (.int (2 : Int32)), (.int key)] 8)) tg := fun tg k => pre13 tg (by
        show own_S p e below s₁ m 48 #[rv t, iv (0 : Int32), iv (2 : Int32), iv key, iv (0 : Int32), iv (1 : Int32), iv (0 : Int32), iv x0] [(.int key), (.int x0)] _
        refine XS.icmpNo X0.here hx rfl (hb hby d6_48) rfl (tlt hc48_12).2.2.2 ?_
        refine XS.iload X0.here hx rfl (hb hby d6_51) rfl ?_
        refine XS.iconst X0.here hx rfl (hb hby d6_53) ?_
        show own_S p e below s₁ m 54 #[rv t, iv (0 : Int32), iv (2 : Int32), iv key, iv (0 : Int32), iv (1 : Int32), iv (0 : Int32), iv x0] [(.int (1 : Int32)), (.int (0 : Int32))] _
        refine XS.isub X0.here hx rfl (hb hby d6_54) rfl ?_
        refine XS.istore X0.here hx rfl (hb hby d6_55) rfl (l' := #[rv t, iv (0 : Int32), iv (2 : Int32), iv key, iv (0 : Int32), iv (-1 : Int32), iv (0 : Int32), iv x0]) rfl ?_
        refine XS.goto X0.here hx rfl (pc0 := 57) (pc' := 63) rfl (hb hby d6_57) (by decide) (by decide) ?_
        show own_S p e below s₁ m 63 #[rv t, iv (0 : Int32), iv (2 : Int32), iv key, iv (0 : Int32), iv (-1 : Int32), iv (0 : Int32), iv x0] [] _
        refine XS.goto X0.here hx rfl (pc0 := 63) (pc' := 8) rfl (hb hby d6_63) (by decide) (by decide) ?_
        refine XS.iload X0.here hx rfl (hb hby d6_8) rfl ?_
        refine XS.iload X0.here hx rfl (hb hby d6_10) rfl ?_
        show own_S p e below s₁ m 12 #[rv t, iv (0 : Int32), iv (2 : Int32), iv key, iv (0 : Int32), iv (-1 : Int32), iv (0 : Int32), iv x0] [(.int (-1 : Int32)), (.int (0 : Int32))] _
        refine XS.icmpYes X0.here hx rfl (pc0 := 12) (pc' := 66) rfl (hb hby d6_12) rfl (tlt (by decide : (-1 : Int32) < (0 : Int32))).2.2.1 (by decide) (by decide) ?_
        refine XS.iload X0.here hx rfl (hb hby d6_66) rfl ?_
        refine XS.iconst X0.here hx rfl (hb hby d6_68) ?_
        show own_S p e below s₁ m 69 #[rv t, iv (0 : Int32), iv (2 : Int32), iv key, iv (0 : Int32), iv (-1 : Int32), iv (0 : Int32), iv x0] [(.int (1 : Int32)), (.int (0 : Int32))] _
        refine XS.iadd X0.here hx rfl (hb hby d6_69) rfl ?_
        refine XS.ineg X0.here hx rfl (hb hby d6_70) rfl ?_
        exact k)
      obtain ⟨fs, hr, hrun, hended, hW, hsame⟩ := X0.leave (v := some (.int (-1 : Int32))) (fun h => by rw [Bd.returns] at h; cases h)
      refine ⟨_, _, pre14 _ ?_, hrun, hended, _, _, rfl, ?_, ⟨_, rfl⟩, hW, hsame.mono (by decide) (by decide)⟩
      · show own_S p e below s₁ m 71 #[rv t, iv (0 : Int32), iv (2 : Int32), iv key, iv (0 : Int32), iv (-1 : Int32), iv (0 : Int32), iv x0] [(.int (-1 : Int32))] _
        exact retI X0 hx Bd.returns (hb hby d6_71) hr
      · show QB2 Z t key k x0 x1 h0 n0 _ s₁.heap _
        rw [e0]
        exact ⟨_, rfl, N0, rfl, (Or.inr (Or.inr (Or.inl ⟨rfl, hc48_12⟩)))⟩
    ·  -- pc 48 no
      have pre15 : ∀ tg, own_S p e below s₁ m 62 #[rv t, iv (0 : Int32), iv (2 : Int32), iv key, iv (0 : Int32), iv (1 : Int32), iv (0 : Int32), iv x0] [(.int (0 : Int32))] tg → Steps p.tables e below (s₁.setTop (entryFrame m #[(.ref t), (.int (0 : Int32)), (.int (2 : Int32)), (.int key)] 8)) tg := fun tg k => pre13 tg (by
        show own_S p e below s₁ m 48 #[rv t, iv (0 : Int32), iv (2 : Int32), iv key, iv (0 : Int32), iv (1 : Int32), iv (0 : Int32), iv x0] [(.int key), (.int x0)] _
        refine XS.icmpYes X0.here hx rfl (pc0 := 48) (pc' := 60) rfl (hb hby d6_48) rfl (flt hc48_12).2.2.2 (by decide) (by decide) ?_
        refine XS.iload X0.here hx rfl (hb hby d6_60) rfl ?_
        exact k)
      obtain ⟨fs, hr, hrun, hended, hW, hsame⟩ := X0.leave (v := some (.int (0 : Int32))) (fun h => by rw [Bd.returns] at h; cases h)
      refine ⟨_, _, pre15 _ ?_, hrun, hended, _, _, rfl, ?_, ⟨_, rfl⟩, hW, hsame.mono (by decide) (by decide)⟩
      · show own_S p e below s₁ m 62 #[rv t, iv (0 : Int32), iv (2 : Int32), iv key, iv (0 : Int32), iv (1 : Int32), iv (0 : Int32), iv x0] [(.int (0 : Int32))] _
        exact retI X0 hx Bd.returns (hb hby d6_62) hr
      · show QB2 Z t key k x0 x1 h0 n0 _ s₁.heap _
        rw [e0]
        exact ⟨_, rfl, N0, rfl, (Or.inl ⟨rfl, own_eq hc33_2 hc48_12⟩)⟩
theorem ef_S2 (m : MethodId) (t : Addr) (key : Int32) : entryFrame m #[(.ref t), (.int (0 : Int32)), (.int (2 : Int32)), (.int key)] 4 = mkF m 0 #[rv t, iv (0 : Int32), iv (2 : Int32), iv key] [] := by first | (simp [entryFrame, mkF, argsToLocals, Value.category]; done) | rfl
def QS2 (Z : State) (t : Addr) (key : Int32) (k : ClassId) (x0 : Int32) (x1 : Int32) (h0 : Heap) (n0 : Nat) (v : Option Value) (h : Heap) (L : List Loc) : Prop := ∃ r : Int32, v = some (.int r) ∧ Fr n0 L ∧ h = h0 ∧ ((r = 0 ∧ x0 = key) ∨ (r = 1 ∧ x1 = key) ∨ (r = -1 ∧ key < x0) ∨ (r = -2 ∧ x0 < key ∧ key < x1) ∨ (r = -3 ∧ x1 < key))
set_option maxRecDepth 65536 in
set_option maxHeartbeats 40000000 in
theorem rmS2 (l : Launch) (Z : State) (a0 : Array Value) (hw : ∀ d ∈ tables_1, d.before a0 Z = true) (ws : List Jvm.Cond) (t : Addr) (key : Int32) (k : ClassId) (x0 : Int32) (x1 : Int32) (h0 : Heap) (n0 : Nat) (Z0 : n0 ≤ h0.size) (V_t : Arv Z h0 t k .char (4 : Int32) [(.int x0), (.int x1), (.int (0 : Int32)), (.int (0 : Int32))] (.int (0 : Int32))) :
    MetFree l (⟨"java/util/Arrays", "binarySearch", "([CIIC)I"⟩ : MethodName) (head1 (Jvm.Cond.code (⟨"java/util/Arrays", "binarySearch", "([CIIC)I"⟩ : MethodName) jdk_65_method_64_code 4 (some .int) :: ws) ({ frames := 1, cells := 0, slots := 0, locals := 24 } : Room)) (fun a U => a = #[(.ref t), (.int (0 : Int32)), (.int (2 : Int32)), (.int key)] ∧ Z.Warmed39 U.vm ∧ U.heap = h0) (fun _ _ _ _ _ => True) (fun _ U o U' => ∃ v L, o = .returned v ∧ QS2 Z t key k x0 x1 h0 n0 v U'.heap L ∧ FrameEnd U o U' L ({ frames := 1, cells := 0, slots := 0, locals := 24 } : Room).cells ({ frames := 1, cells := 0, slots := 0, locals := 24 } : Room).slots) := by
  refine MetFree.of_bodySF (plainFor_of_name pn_1) hisR ?_
  intro p e s m args below meth c s₁ Bd hml0 hP hK
  obtain ⟨rfl, hZ, hh⟩ := hP
  have hx := Bd.exec
  have hby := Bd.bytes
  have hml : c.maxLocals = 4 := hml0
  have hown : s.vm.findClass "java/util/Arrays" = some m.cls := findClass_of_methodNamed Bd.named
  have hnm := (name_of_methodNamed Bd.named Bd.method).1
  have X0 : Stand p l e ({ frames := 1, cells := 0, slots := 0, locals := 24 } : Room) s m #[(.ref t), (.int (0 : Int32)), (.int (2 : Int32)), (.int key)] below meth c s₁ [] 0 0 := Stand.of_body Bd
  have e0 : s₁.heap = h0 := by rw [← hh, Bd.state]; rfl
  have N0 := Fr.nil n0
  have pre0 : ∀ tg, Steps p.tables e below (s₁.setTop (mkF m 0 #[rv t, iv (0 : Int32), iv (2 : Int32), iv key] [])) tg → Steps p.tables e below (s₁.setTop (entryFrame m #[(.ref t), (.int (0 : Int32)), (.int (2 : Int32)), (.int key)] 4)) tg := fun tg k => castTop (ef_S2 m t key) k
  obtain ⟨cl1, Ar1, q1, S1, M1, -, -⟩ := id V_t
  obtain ⟨_, _, ⟨T2, L2, k2, n2⟩, -, X2, ⟨Lc2, hQ2, l2, y2, z2⟩, st2⟩ := Jvm.LawKit.callS X0 hx (y := (⟨"java/util/Arrays", "rangeCheck", "(III)V"⟩ : MethodName)) hown (mvT hZ (hw _ (List.mem_of_getElem? (i := 29) rfl))) (mvT hZ (hw _ (List.mem_of_getElem? (i := 30) rfl))) (mvT hZ (hw _ (List.mem_of_getElem? (i := 27) rfl))) (mvT hZ (hw _ (List.mem_of_getElem? (i := 31) rfl))) (by decide) (backOf (W := 0) (rmRC l Z a0 hw [] (4 : Int32) (0 : Int32) (2 : Int32) h0 n0 Z0 (by decide) (by decide) (by decide)) hZ (hw _ (List.mem_of_getElem? (i := 31) rfl)) (hw _ (List.mem_of_getElem? (i := 27) rfl)) (by decide) (by decide)) (g := (mkF m 4 #[rv t, iv (0 : Int32), iv (2 : Int32), iv key] [(.int (2 : Int32)), (.int (0 : Int32)), (.int (4 : Int32))])) rfl (by rw [hml]; rfl) (argsL := [(.int (4 : Int32)), (.int (0 : Int32)), (.int (2 : Int32))]) (rest := []) (lenOf pd_0 rfl) rfl (by show 2 * 0 + _ ≤ _; exact Nat.le_of_eq rfl) (hb hby d4_4) (fun _ _ => ⟨rfl, e0, (by decide : 0 + 0 ≤ _), (by decide : 0 + 0 ≤ _)⟩)
  dsimp only [Pt.U, Pt.locs, Pt.cells, Pt.slots] at X2 l2 y2 z2 st2 hQ2
  subst l2 y2 z2
  obtain ⟨rfl, N2q, e2q⟩ := hQ2
  have N2 := Fr.app N0 N2q
  have e2 : T2.heap = h0 := e2q
  obtain ⟨_, _, ⟨T3, L3, k3, n3⟩, -, X3, ⟨Lc3, hQ3, l3, y3, z3⟩, st3⟩ := Jvm.LawKit.callS X2 hx (y := (⟨"java/util/Arrays", "binarySearch0", "([CIIC)I"⟩ : MethodName)) hown (mvT hZ (hw _ (List.mem_of_getElem? (i := 32) rfl))) (mvT hZ (hw _ (List.mem_of_getElem? (i := 33) rfl))) (mvT hZ (hw _ (List.mem_of_getElem? (i := 27) rfl))) (mvT hZ (hw _ (List.mem_of_getElem? (i := 34) rfl))) (by decide) (backOf (W := 0) (rmB2 l Z a0 hw [] t key k x0 x1 h0 n0 Z0 V_t) hZ (hw _ (List.mem_of_getElem? (i := 34) rfl)) (hw _ (List.mem_of_getElem? (i := 27) rfl)) (by decide) (by decide)) (g := (mkF m 11 #[rv t, iv (0 : Int32), iv (2 : Int32), iv key] [(.int key), (.int (2 : Int32)), (.int (0 : Int32)), (.ref t)])) rfl (by rw [hml]; rfl) (argsL := [(.ref t), (.int (0 : Int32)), (.int (2 : Int32)), (.int key)]) (rest := []) (lenOf pd_1 rfl) rfl (by show 2 * 0 + _ ≤ _; exact Nat.le_of_eq rfl) (hb hby d4_11) (fun _ _ => ⟨rfl, e2, (by decide : 0 + 0 ≤ _), (by decide : 0 + 0 ≤ _)⟩)
  dsimp only [Pt.U, Pt.locs, Pt.cells, Pt.slots] at X3 l3 y3 z3 st3 hQ3
  subst l3 y3 z3
  obtain ⟨r3, rfl, N3q, e3q, hD3⟩ := hQ3
  have N3 := Fr.app N2 N3q
  have e3 : T3.heap = h0 := e3q
  have pre4 : ∀ tg, own_S p e below T3 m 14 #[rv t, iv (0 : Int32), iv (2 : Int32), iv key] [(.int r3)] tg → Steps p.tables e below (s₁.setTop (entryFrame m #[(.ref t), (.int (0 : Int32)), (.int (2 : Int32)), (.int key)] 4)) tg := fun tg k => pre0 tg (by
    show own_S p e below s₁ m 0 #[rv t, iv (0 : Int32), iv (2 : Int32), iv key] [] _
    refine XS.aloadN X0.here hx rfl (hb hby d4_0) rfl rfl ?_
    refine X0.arraylength hx (by rw [e0]; exact Ar1.1) (State.isArrayOf_alike hZ.alike Ar1.2.1) (g := (mkF m 1 #[rv t, iv (0 : Int32), iv (2 : Int32), iv key] [(.ref t)])) rfl rfl (hb hby d4_1) _ ?_
    rw [len_of S1 M1]
    refine XS.iloadN X0.here hx rfl (hb hby d4_2) rfl ?_
    show own_S p e below s₁ m 3 #[rv t, iv (0 : Int32), iv (2 : Int32), iv key] [(.int (0 : Int32)), (.int (4 : Int32))] _
    refine XS.iloadN X0.here hx rfl (hb hby d4_3) rfl ?_
    refine st2 _ ?_
    refine XS.aloadN X2.here hx rfl (hb hby d4_7) rfl rfl ?_
    show own_S p e below T2 m 8 #[rv t, iv (0 : Int32), iv (2 : Int32), iv key] [(.ref t)] _
    refine XS.iloadN X2.here hx rfl (hb hby d4_8) rfl ?_
    refine XS.iloadN X2.here hx rfl (hb hby d4_9) rfl ?_
    refine XS.iloadN X2.here hx rfl (hb hby d4_10) rfl ?_
    show own_S p e below T2 m 11 #[rv t, iv (0 : Int32), iv (2 : Int32), iv key] [(.int key), (.int (2 : Int32)), (.int (0 : Int32)), (.ref t)] _
    refine st3 _ ?_
    exact k)
  obtain ⟨fs, hr, hrun, hended, hW, hsame⟩ := X3.leave (v := some (.int r3)) (fun h => by rw [Bd.returns] at h; cases h)
  refine ⟨_, _, pre4 _ ?_, hrun, hended, _, _, rfl, ?_, ⟨_, rfl⟩, hW, hsame.mono (by decide) (by decide)⟩
  · show own_S p e below T3 m 14 #[rv t, iv (0 : Int32), iv (2 : Int32), iv key] [(.int r3)] _
    exact retI X3 hx Bd.returns (hb hby d4_14) hr
  · show QS2 Z t key k x0 x1 h0 n0 _ T3.heap _
    rw [e3]
    exact ⟨_, rfl, N3, rfl, hD3⟩
theorem ef_B3 (m : MethodId) (t : Addr) (key : Int32) : entryFrame m #[(.ref t), (.int (0 : Int32)), (.int (3 : Int32)), (.int key)] 8 = mkF m 0 #[rv t, iv (0 : Int32), iv (3 : Int32), iv key, .unset, .unset, .unset, .unset] [] := by first | (simp [entryFrame, mkF, argsToLocals, Value.category]; done) | rfl
def QB3 (Z : State) (t : Addr) (key : Int32) (k : ClassId) (x0 : Int32) (x1 : Int32) (x2 : Int32) (h0 : Heap) (n0 : Nat) (v : Option Value) (h : Heap) (L : List Loc) : Prop := ∃ r : Int32, v = some (.int r) ∧ Fr n0 L ∧ h = h0 ∧ ((r = 0 ∧ x0 = key) ∨ (r = 1 ∧ x1 = key) ∨ (r = 2 ∧ x2 = key) ∨ (r = -1 ∧ key < x0) ∨ (r = -2 ∧ x0 < key ∧ key < x1) ∨ (r = -3 ∧ x1 < key ∧ key < x2) ∨ (r = -4 ∧ x2 < key))
set_option maxRecDepth 65536 in
set_option maxHeartbeats 40000000 in
theorem rmB3 (l : Launch) (Z : State) (a0 : Array Value) (hw : ∀ d ∈ tables_1, d.before a0 Z = true) (ws : List Jvm.Cond) (t : Addr) (key : Int32) (k : ClassId) (x0 : Int32) (x1 : Int32) (x2 : Int32) (h0 : Heap) (n0 : Nat) (Z0 : n0 ≤ h0.size) (V_t : Arv Z h0 t k .char (4 : Int32) [(.int x0), (.int x1), (.int x2), (.int (0 : Int32))] (.int (0 : Int32))) :
    MetFree l (⟨"java/util/Arrays", "binarySearch0", "([CIIC)I"⟩ : MethodName) (head1 (Jvm.Cond.code (⟨"java/util/Arrays", "binarySearch0", "([CIIC)I"⟩ : MethodName) jdk_65_method_65_code 8 (some .int) :: ws) ({ frames := 0, cells := 0, slots := 0, locals := 0 } : Room)) (fun a U => a = #[(.ref t), (.int (0 : Int32)), (.int (3 : Int32)), (.int key)] ∧ Z.Warmed39 U.vm ∧ U.heap = h0) (fun _ _ _ _ _ => True) (fun _ U o U' => ∃ v L, o = .returned v ∧ QB3 Z t key k x0 x1 x2 h0 n0 v U'.heap L ∧ FrameEnd U o U' L ({ frames := 0, cells := 0, slots := 0, locals := 0 } : Room).cells ({ frames := 0, cells := 0, slots := 0, locals := 0 } : Room).slots) := by
  refine MetFree.of_bodySF (plainFor_of_name pn_1) hisR ?_
  intro p e s m args below meth c s₁ Bd hml0 hP hK
  obtain ⟨rfl, hZ, hh⟩ := hP
  have hx := Bd.exec
  have hby := Bd.bytes
  have hml : c.maxLocals = 8 := hml0
  have hown : s.vm.findClass "java/util/Arrays" = some m.cls := findClass_of_methodNamed Bd.named
  have hnm := (name_of_methodNamed Bd.named Bd.method).1
  have X0 : Stand p l e ({ frames := 0, cells := 0, slots := 0, locals := 0 } : Room) s m #[(.ref t), (.int (0 : Int32)), (.int (3 : Int32)), (.int key)] below meth c s₁ [] 0 0 := Stand.of_body Bd
  have e0 : s₁.heap = h0 := by rw [← hh, Bd.state]; rfl
  have N0 := Fr.nil n0
  have pre0 : ∀ tg, Steps p.tables e below (s₁.setTop (mkF m 0 #[rv t, iv (0 : Int32), iv (3 : Int32), iv key, .unset, .unset, .unset, .unset] [])) tg → Steps p.tables e below (s₁.setTop (entryFrame m #[(.ref t), (.int (0 : Int32)), (.int (3 : Int32)), (.int key)] 8)) tg := fun tg k => castTop (ef_B3 m t key) k
  obtain ⟨cl1, Ar1, q1, S1, M1, H1, G1⟩ := id V_t
  have hin1 : ¬ ((1 : Int32) < 0 ∨ cl1.slots.size ≤ ((1 : Int32)).toNatClampNeg) := inb_of S1 ⟨by decide, by decide⟩
  have hat1 : cl1.slots[((1 : Int32)).toNatClampNeg]? = some (.int x1) := H1.at hin1 rfl
  have pre3 : ∀ tg, own_S p e below s₁ m 33 #[rv t, iv (0 : Int32), iv (3 : Int32), iv key, iv (0 : Int32), iv (2 : Int32), iv (1 : Int32), iv x1] [(.int key), (.int x1)] tg → Steps p.tables e below (s₁.setTop (entryFrame m #[(.ref t), (.int (0 : Int32)), (.int (3 : Int32)), (.int key)] 8)) tg := fun tg k => pre0 tg (by
    show own_S p e below s₁ m 0 #[rv t, iv (0 : Int32), iv (3 : Int32), iv key, .unset, .unset, .unset, .unset] [] _
    refine XS.iloadN X0.here hx rfl (hb hby d6_0) rfl ?_
    refine XS.istore X0.here hx rfl (hb hby d6_1) rfl (l' := #[rv t, iv (0 : Int32), iv (3 : Int32), iv key, iv (0 : Int32), .unset, .unset, .unset]) rfl ?_
    refine XS.iloadN X0.here hx rfl (hb hby d6_3) rfl ?_
    show own_S p e below s₁ m 4 #[rv t, iv (0 : Int32), iv (3 : Int32), iv key, iv (0 : Int32), .unset, .unset, .unset] [(.int (3 : Int32))] _
    refine XS.iconst X0.here hx rfl (hb hby d6_4) ?_
    refine XS.isub X0.here hx rfl (hb hby d6_5) rfl ?_
    refine XS.istore X0.here hx rfl (hb hby d6_6) rfl (l' := #[rv t, iv (0 : Int32), iv (3 : Int32), iv key, iv (0 : Int32), iv (2 : Int32), .unset, .unset]) rfl ?_
    show own_S p e below s₁ m 8 #[rv t, iv (0 : Int32), iv (3 : Int32), iv key, iv (0 : Int32), iv (2 : Int32), .unset, .unset] [] _
    refine XS.iload X0.here hx rfl (hb hby d6_8) rfl ?_
    refine XS.iload X0.here hx rfl (hb hby d6_10) rfl ?_
    refine XS.icmpNo X0.here hx rfl (hb hby d6_12) rfl (flt (by decide : ¬ ((2 : Int32) < (0 : Int32)))).2.2.1 ?_
    show own_S p e below s₁ m 15 #[rv t, iv (0 : Int32), iv (3 : Int32), iv key, iv (0 : Int32), iv (2 : Int32), .unset, .unset] [] _
    refine XS.iload X0.here hx rfl (hb hby d6_15) rfl ?_
    refine XS.iload X0.here hx rfl (hb hby d6_17) rfl ?_
    refine XS.iadd X0.here hx rfl (hb hby d6_19) rfl ?_
    show own_S p e below s₁ m 20 #[rv t, iv (0 : Int32), iv (3 : Int32), iv key, iv (0 : Int32), iv (2 : Int32), .unset, .unset] [(.int (2 : Int32))] _
    refine XS.iconst X0.here hx rfl (hb hby d6_20) ?_
    refine XS.iushr X0.here hx rfl (hb hby d6_21) rfl ?_
    refine XS.istore X0.here hx rfl (hb hby d6_22) rfl (l' := #[rv t, iv (0 : Int32), iv (3 : Int32), iv key, iv (0 : Int32), iv (2 : Int32), iv (1 : Int32), .unset]) rfl ?_
    show own_S p e below s₁ m 24 #[rv t, iv (0 : Int32), iv (3 : Int32), iv key, iv (0 : Int32), iv (2 : Int32), iv (1 : Int32), .unset] [] _
    refine XS.aloadN X0.here hx rfl (hb hby d6_24) rfl rfl ?_
    refine XS.iload X0.here hx rfl (hb hby d6_25) rfl ?_
    refine X0.caload hx (j := (1 : Int32)) (v := (.int x1)) (by rw [e0]; exact Ar1.1) (State.isArrayOf_alike hZ.alike Ar1.2.1) Ar1.2.2 hin1 hat1 (g := (mkF m 27 #[rv t, iv (0 : Int32), iv (3 : Int32), iv key, iv (0 : Int32), iv (2 : Int32), iv (1 : Int32), .unset] [(.int (1 : Int32)), (.ref t)])) rfl rfl (hb hby d6_27) _ ?_
    show own_S p e below s₁ m 28 #[rv t, iv (0 : Int32), iv (3 : Int32), iv key, iv (0 : Int32), iv (2 : Int32), iv (1 : Int32), .unset] [(.int x1)] _
    refine XS.istore X0.here hx rfl (hb hby d6_28) rfl (l' := #[rv t, iv (0 : Int32), iv (3 : Int32), iv key, iv (0 : Int32), iv (2 : Int32), iv (1 : Int32), iv x1]) rfl ?_
    refine XS.iload X0.here hx rfl (hb hby d6_30) rfl ?_
    refine XS.iloadN X0.here hx rfl (hb hby d6_32) rfl ?_
    exact k)
  by_cases hc33_2 : x1 < key
  ·  -- pc 33 yes
    obtain ⟨cl4, Ar4, q4, S4, M4, H4, G4⟩ := id V_t
    have hin4 : ¬ ((2 : Int32) < 0 ∨ cl4.slots.size ≤ ((2 : Int32)).toNatClampNeg) := inb_of S4 ⟨by decide, by decide⟩
    have hat4 : cl4.slots[((2 : Int32)).toNatClampNeg]? = some (.int x2) := H4.at hin4 rfl
    have pre6 : ∀ tg, own_S p e below s₁ m 33 #[rv t, iv (0 : Int32), iv (3 : Int32), iv key, iv (2 : Int32), iv (2 : Int32), iv (2 : Int32), iv x2] [(.int key), (.int x2)] tg → Steps p.tables e below (s₁.setTop (entryFrame m #[(.ref t), (.int (0 : Int32)), (.int (3 : Int32)), (.int key)] 8)) tg := fun tg k => pre3 tg (by
      show own_S p e below s₁ m 33 #[rv t, iv (0 : Int32), iv (3 : Int32), iv key, iv (0 : Int32), iv (2 : Int32), iv (1 : Int32), iv x1] [(.int key), (.int x1)] _
      refine XS.icmpNo X0.here hx rfl (hb hby d6_33) rfl (tlt hc33_2).2.1 ?_
      refine XS.iload X0.here hx rfl (hb hby d6_36) rfl ?_
      refine XS.iconst X0.here hx rfl (hb hby d6_38) ?_
      show own_S p e below s₁ m 39 #[rv t, iv (0 : Int32), iv (3 : Int32), iv key, iv (0 : Int32), iv (2 : Int32), iv (1 : Int32), iv x1] [(.int (1 : Int32)), (.int (1 : Int32))] _
      refine XS.iadd X0.here hx rfl (hb hby d6_39) rfl ?_
      refine XS.istore X0.here hx rfl (hb hby d6_40) rfl (l' := #[rv t, iv (0 : Int32), iv (3 : Int32), iv key, iv (2 : Int32), iv (2 : Int32), iv (1 : Int32), iv x1]) rfl ?_
      refine XS.goto X0.here hx rfl (pc0 := 42) (pc' := 63) rfl (hb hby d6_42) (by decide) (by decide) ?_
      show own_S p e below s₁ m 63 #[rv t, iv (0 : Int32), iv (3 : Int32), iv key, iv (2 : Int32), iv (2 : Int32), iv (1 : Int32), iv x1] [] _
      refine XS.goto X0.here hx rfl (pc0 := 63) (pc' := 8) rfl (hb hby d6_63) (by decide) (by decide) ?_
      refine XS.iload X0.here hx rfl (hb hby d6_8) rfl ?_
      refine XS.iload X0.here hx rfl (hb hby d6_10) rfl ?_
      show own_S p e below s₁ m 12 #[rv t, iv (0 : Int32), iv (3 : Int32), iv key, iv (2 : Int32), iv (2 : Int32), iv (1 : Int32), iv x1] [(.int (2 : Int32)), (.int (2 : Int32))] _
      refine XS.icmpNo X0.here hx rfl (hb hby d6_12) rfl (flt (by decide : ¬ ((2 : Int32) < (2 : Int32)))).2.2.1 ?_
      refine XS.iload X0.here hx rfl (hb hby d6_15) rfl ?_
      refine XS.iload X0.here hx rfl (hb hby d6_17) rfl ?_
      show own_S p e below s₁ m 19 #[rv t, iv (0 : Int32), iv (3 : Int32), iv key, iv (2 : Int32), iv (2 : Int32), iv (1 : Int32), iv x1] [(.int (2 : Int32)), (.int (2 : Int32))] _
      refine XS.iadd X0.here hx rfl (hb hby d6_19) rfl ?_
      refine XS.iconst X0.here hx rfl (hb hby d6_20) ?_
      refine XS.iushr X0.here hx rfl (hb hby d6_21) rfl ?_
      show own_S p e below s₁ m 22 #[rv t, iv (0 : Int32), iv (3 : Int32), iv key, iv (2 : Int32), iv (2 : Int32), iv (1 : Int32), iv x1] [(.int (2 : Int32))] _
      refine XS.istore X0.here hx rfl (hb hby d6_22) rfl (l' := #[rv t, iv (0 : Int32), iv (3 : Int32), iv key, iv (2 : Int32), iv (2 : Int32), iv (2 : Int32), iv x1]) rfl ?_
      refine XS.aloadN X0.here hx rfl (hb hby d6_24) rfl rfl ?_
      refine XS.iload X0.here hx rfl (hb hby d6_25) rfl ?_
      show own_S p e below s₁ m 27 #[rv t, iv (0 : Int32), iv (3 : Int32), iv key, iv (2 : Int32), iv (2 : Int32), iv (2 : Int32), iv x1] [(.int (2 : Int32)), (.ref t)] _
      refine X0.caload hx (j := (2 : Int32)) (v := (.int x2)) (by rw [e0]; exact Ar4.1) (State.isArrayOf_alike hZ.alike Ar4.2.1) Ar4.2.2 hin4 hat4 (g := (mkF m 27 #[rv t, iv (0 : Int32), iv (3 : Int32), iv key, iv (2 : Int32), iv (2 : Int32), iv (2 : Int32), iv x1] [(.int (2 : Int32)), (.ref t)])) rfl rfl (hb hby d6_27) _ ?_
      refine XS.istore X0.here hx rfl (hb hby d6_28) rfl (l' := #[rv t, iv (0 : Int32), iv (3 : Int32), iv key, iv (2 : Int32), iv (2 : Int32), iv (2 : Int32), iv x2]) rfl ?_
      refine XS.iload X0.here hx rfl (hb hby d6_30) rfl ?_
      show own_S p e below s₁ m 32 #[rv t, iv (0 : Int32), iv (3 : Int32), iv key, iv (2 : Int32), iv (2 : Int32), iv (2 : Int32), iv x2] [(.int x2)] _
      refine XS.iloadN X0.here hx rfl (hb hby d6_32) rfl ?_
      exact k)
    by_cases hc33_5 : x2 < key
    ·  -- pc 33 yes
      have pre7 : ∀ tg, own_S p e below s₁ m 71 #[rv t, iv (0 : Int32), iv (3 : Int32), iv key, iv (3 : Int32), iv (2 : Int32), iv (2 : Int32), iv x2] [(.int (-4 : Int32))] tg → Steps p.tables e below (s₁.setTop (entryFrame m #[(.ref t), (.int (0 : Int32)), (.int (3 : Int32)), (.int key)] 8)) tg := fun tg k => pre6 tg (by
        show own_S p e below s₁ m 33 #[rv t, iv (0 : Int32), iv (3 : Int32), iv key, iv (2 : Int32), iv (2 : Int32), iv (2 : Int32), iv x2] [(.int key), (.int x2)] _
        refine XS.icmpNo X0.here hx rfl (hb hby d6_33) rfl (tlt hc33_5).2.1 ?_
        refine XS.iload X0.here hx rfl (hb hby d6_36) rfl ?_
        refine XS.iconst X0.here hx rfl (hb hby d6_38) ?_
        show own_S p e below s₁ m 39 #[rv t, iv (0 : Int32), iv (3 : Int32), iv key, iv (2 : Int32), iv (2 : Int32), iv (2 : Int32), iv x2] [(.int (1 : Int32)), (.int (2 : Int32))] _
        refine XS.iadd X0.here hx rfl (hb hby d6_39) rfl ?_
        refine XS.istore X0.here hx rfl (hb hby d6_40) rfl (l' := #[rv t, iv (0 : Int32), iv (3 : Int32), iv key, iv (3 : Int32), iv (2 : Int32), iv (2 : Int32), iv x2]) rfl ?_
        refine XS.goto X0.here hx rfl (pc0 := 42) (pc' := 63) rfl (hb hby d6_42) (by decide) (by decide) ?_
        show own_S p e below s₁ m 63 #[rv t, iv (0 : Int32), iv (3 : Int32), iv key, iv (3 : Int32), iv (2 : Int32), iv (2 : Int32), iv x2] [] _
        refine XS.goto X0.here hx rfl (pc0 := 63) (pc' := 8) rfl (hb hby d6_63) (by decide) (by decide) ?_
        refine XS.iload X0.here hx rfl (hb hby d6_8) rfl ?_
        refine XS.iload X0.here hx rfl (hb hby d6_10) rfl ?_
        show own_S p e below s₁ m 12 #[rv t, iv (0 : Int32), iv (3 : Int32), iv key, iv (3 : Int32), iv (2 : Int32), iv (2 : Int32), iv x2] [(.int (2 : Int32)), (.int (3 : Int32))] _
        refine XS.icmpYes X0.here hx rfl (pc0 := 12) (pc' := 66) rfl (hb hby d6_12) rfl (tlt (by decide : (2 : Int32) < (3 : Int32))).2.2.1 (by decide) (by decide) ?_
        refine XS.iload X0.here hx rfl (hb hby d6_66) rfl ?_
        refine XS.iconst X0.here hx rfl (hb hby d6_68) ?_
        show own_S p e below s₁ m 69 #[rv t, iv (0 : Int32), iv (3 : Int32), iv key, iv (3 : Int32), iv (2 : Int32), iv (2 : Int32), iv x2] [(.int (1 : Int32)), (.int (3 : Int32))] _
        refine XS.iadd X0.here hx rfl (hb hby d6_69) rfl ?_
        refine XS.ineg X0.here hx rfl (hb hby d6_70) rfl ?_
        exact k)
      obtain ⟨fs, hr, hrun, hended, hW, hsame⟩ := X0.leave (v := some (.int (-4 : Int32))) (fun h => by rw [Bd.returns] at h; cases h)
      refine ⟨_, _, pre7 _ ?_, hrun, hended, _, _, rfl, ?_, ⟨_, rfl⟩, hW, hsame.mono (by decide) (by decide)⟩
      · show own_S p e below s₁ m 71 #[rv t, iv (0 : Int32), iv (3 : Int32), iv key, iv (3 : Int32), iv (2 : Int32), iv (2 : Int32), iv x2] [(.int (-4 : Int32))] _
        exact retI X0 hx Bd.returns (hb hby d6_71) hr
      · show QB3 Z t key k x0 x1 x2 h0 n0 _ s₁.heap _
        rw [e0]
        exact ⟨_, rfl, N0, rfl, (Or.inr (Or.inr (Or.inr (Or.inr (Or.inr (Or.inr (⟨rfl, hc33_5⟩)))))))⟩
    ·  -- pc 33 no
      have pre9 : ∀ tg, own_S p e below s₁ m 48 #[rv t, iv (0 : Int32), iv (3 : Int32), iv key, iv (2 : Int32), iv (2 : Int32), iv (2 : Int32), iv x2] [(.int key), (.int x2)] tg → Steps p.tables e below (s₁.setTop (entryFrame m #[(.ref t), (.int (0 : Int32)), (.int (3 : Int32)), (.int key)] 8)) tg := fun tg k => pre6 tg (by
        show own_S p e below s₁ m 33 #[rv t, iv (0 : Int32), iv (3 : Int32), iv key, iv (2 : Int32), iv (2 : Int32), iv (2 : Int32), iv x2] [(.int key), (.int x2)] _
        refine XS.icmpYes X0.here hx rfl (pc0 := 33) (pc' := 45) rfl (hb hby d6_33) rfl (flt hc33_5).2.1 (by decide) (by decide) ?_
        refine XS.iload X0.here hx rfl (hb hby d6_45) rfl ?_
        refine XS.iloadN X0.here hx rfl (hb hby d6_47) rfl ?_
        exact k)
      by_cases hc48_8 : key < x2
      ·  -- pc 48 yes
        have pre10 : ∀ tg, own_S p e below s₁ m 71 #[rv t, iv (0 : Int32), iv (3 : Int32), iv key, iv (2 : Int32), iv (1 : Int32), iv (2 : Int32), iv x2] [(.int (-3 : Int32))] tg → Steps p.tables e below (s₁.setTop (entryFrame m #[(.ref t), (.int (0 : Int32)), (.int (3 : Int32)), (.int key)] 8)) tg := fun tg k => pre9 tg (by
          show own_S p e below s₁ m 48 #[rv t, iv (0 : Int32), iv (3 : Int32), iv key, iv (2 : Int32), iv (2 : Int32), iv (2 : Int32), iv x2] [(.int key), (.int x2)] _
          refine XS.icmpNo X0.here hx rfl (hb hby d6_48) rfl (tlt hc48_8).2.2.2 ?_
          refine XS.iload X0.here hx rfl (hb hby d6_51) rfl ?_
          refine XS.iconst X0.here hx rfl (hb hby d6_53) ?_
          show own_S p e below s₁ m 54 #[rv t, iv (0 : Int32), iv (3 : Int32), iv key, iv (2 : Int32), iv (2 : Int32), iv (2 : Int32), iv x2] [(.int (1 : Int32)), (.int (2 : Int32))] _
          refine XS.isub X0.here hx rfl (hb hby d6_54) rfl ?_
          refine XS.istore X0.here hx rfl (hb hby d6_55) rfl (l' := #[rv t, iv (0 : Int32), iv (3 : Int32), iv key, iv (2 : Int32), iv (1 : Int32), iv (2 : Int32), iv x2]) rfl ?_
          refine XS.goto X0.here hx rfl (pc0 := 57) (pc' := 63) rfl (hb hby d6_57) (by decide) (by decide) ?_
          show own_S p e below s₁ m 63 #[rv t, iv (0 : Int32), iv (3 : Int32), iv key, iv (2 : Int32), iv (1 : Int32), iv (2 : Int32), iv x2] [] _
          refine XS.goto X0.here hx rfl (pc0 := 63) (pc' := 8) rfl (hb hby d6_63) (by decide) (by decide) ?_
          refine XS.iload X0.here hx rfl (hb hby d6_8) rfl ?_
          refine XS.iload X0.here hx rfl (hb hby d6_10) rfl ?_
          show own_S p e below s₁ m 12 #[rv t, iv (0 : Int32), iv (3 : Int32), iv key, iv (2 : Int32), iv (1 : Int32), iv (2 : Int32), iv x2] [(.int (1 : Int32)), (.int (2 : Int32))] _
          refine XS.icmpYes X0.here hx rfl (pc0 := 12) (pc' := 66) rfl (hb hby d6_12) rfl (tlt (by decide : (1 : Int32) < (2 : Int32))).2.2.1 (by decide) (by decide) ?_
          refine XS.iload X0.here hx rfl (hb hby d6_66) rfl ?_
          refine XS.iconst X0.here hx rfl (hb hby d6_68) ?_
          show own_S p e below s₁ m 69 #[rv t, iv (0 : Int32), iv (3 : Int32), iv key, iv (2 : Int32), iv (1 : Int32), iv (2 : Int32), iv x2] [(.int (1 : Int32)), (.int (2 : Int32))] _
          refine XS.iadd X0.here hx rfl (hb hby d6_69) rfl ?_
          refine XS.ineg X0.here hx rfl (hb hby d6_70) rfl ?_
          exact k)
        obtain ⟨fs, hr, hrun, hended, hW, hsame⟩ := X0.leave (v := some (.int (-3 : Int32))) (fun h => by rw [Bd.returns] at h; cases h)
        refine ⟨_, _, pre10 _ ?_, hrun, hended, _, _, rfl, ?_, ⟨_, rfl⟩, hW, hsame.mono (by decide) (by decide)⟩
        · show own_S p e below s₁ m 71 #[rv t, iv (0 : Int32), iv (3 : Int32), iv key, iv (2 : Int32), iv (1 : Int32), iv (2 : Int32), iv x2] [(.int (-3 : Int32))] _
          exact retI X0 hx Bd.returns (hb hby d6_71) hr
        · show QB3 Z t key k x0 x1 x2 h0 n0 _ s₁.heap _
          rw [e0]
          exact ⟨_, rfl, N0, rfl, (Or.inr (Or.inr (Or.inr (Or.inr (Or.inr (Or.inl ⟨rfl, hc33_2, hc48_8⟩))))))⟩
      ·  -- pc 48 no
        have pre11 : ∀ tg, own_S p e below s₁ m 62 #[rv t, iv (0 : Int32), iv (3 : Int32), iv key, iv (2 : Int32), iv (2 : Int32), iv (2 : Int32), iv x2] [(.int (2 : Int32))] tg → Steps p.tables e below (s₁.setTop (entryFrame m #[(.ref t), (.int (0 : Int32)), (.int (3 : Int32)), (.int key)] 8)) tg := fun tg k => pre9 tg (by
          show own_S p e below s₁ m 48 #[rv t, iv (0 : Int32), iv (3 : Int32), iv key, iv (2 : Int32), iv (2 : Int32), iv (2 : Int32), iv x2] [(.int key), (.int x2)] _
          refine XS.icmpYes X0.here hx rfl (pc0 := 48) (pc' := 60) rfl (hb hby d6_48) rfl (flt hc48_8).2.2.2 (by decide) (by decide) ?_
          refine XS.iload X0.here hx rfl (hb hby d6_60) rfl ?_
          exact k)
        obtain ⟨fs, hr, hrun, hended, hW, hsame⟩ := X0.leave (v := some (.int (2 : Int32))) (fun h => by rw [Bd.returns] at h; cases h)
        refine ⟨_, _, pre11 _ ?_, hrun, hended, _, _, rfl, ?_, ⟨_, rfl⟩, hW, hsame.mono (by decide) (by decide)⟩
        · show own_S p e below s₁ m 62 #[rv t, iv (0 : Int32), iv (3 : Int32), iv key, iv (2 : Int32), iv (2 : Int32), iv (2 : Int32), iv x2] [(.int (2 : Int32))] _
          exact retI X0 hx Bd.returns (hb hby d6_62) hr
        · show QB3 Z t key k x0 x1 x2 h0 n0 _ s₁.heap _
          rw [e0]
          exact ⟨_, rfl, N0, rfl, (Or.inr (Or.inr (Or.inl ⟨rfl, own_eq hc33_5 hc48_8⟩)))⟩
  ·  -- pc 33 no
    have pre13 : ∀ tg, own_S p e below s₁ m 48 #[rv t, iv (0 : Int32), iv (3 : Int32), iv key, iv (0 : Int32), iv (2 : Int32), iv (1 : Int32), iv x1] [(.int key), (.int x1)] tg → Steps p.tables e below (s₁.setTop (entryFrame m #[(.ref t), (.int (0 : Int32)), (.int (3 : Int32)), (.int key)] 8)) tg := fun tg k => pre3 tg (by
      show own_S p e below s₁ m 33 #[rv t, iv (0 : Int32), iv (3 : Int32), iv key, iv (0 : Int32), iv (2 : Int32), iv (1 : Int32), iv x1] [(.int key), (.int x1)] _
      refine XS.icmpYes X0.here hx rfl (pc0 := 33) (pc' := 45) rfl (hb hby d6_33) rfl (flt hc33_2).2.1 (by decide) (by decide) ?_
      refine XS.iload X0.here hx rfl (hb hby d6_45) rfl ?_
      refine XS.iloadN X0.here hx rfl (hb hby d6_47) rfl ?_
      exact k)
    by_cases hc48_12 : key < x1
    ·  -- pc 48 yes
      obtain ⟨cl14, Ar14, q14, S14, M14, H14, G14⟩ := id V_t
      have hin14 : ¬ ((0 : Int32) < 0 ∨ cl14.slots.size ≤ ((0 : Int32)).toNatClampNeg) := inb_of S14 ⟨by decide, by decide⟩
      have hat14 : cl14.slots[((0 : Int32)).toNatClampNeg]? = some (.int x0) := H14.at hin14 rfl
      have pre16 : ∀ tg, own_S p e below s₁ m 33 #[rv t, iv (0 : Int32), iv (3 : Int32), iv key, iv (0 : Int32), iv (0 : Int32), iv (0 : Int32), iv x0] [(.int key), (.int x0)] tg → Steps p.tables e below (s₁.setTop (entryFrame m #[(.ref t), (.int (0 : Int32)), (.int (3 : Int32)), (.int key)] 8)) tg := fun tg k => pre13 tg (by
        show own_S p e below s₁ m 48 #[rv t, iv (0 : Int32), iv (3 : Int32), iv key, iv (0 : Int32), iv (2 : Int32), iv (1 : Int32), iv x1] [(.int key), (.int x1)] _
        refine XS.icmpNo X0.here hx rfl (hb hby d6_48) rfl (tlt hc48_12).2.2.2 ?_
        refine XS.iload X0.here hx rfl (hb hby d6_51) rfl ?_
        refine XS.iconst X0.here hx rfl (hb hby d6_53) ?_
        show own_S p e below s₁ m 54 #[rv t, iv (0 : Int32), iv (3 : Int32), iv key, iv (0 : Int32), iv (2 : Int32), iv (1 : Int32), iv x1] [(.int (1 : Int32)), (.int (1 : Int32))] _
        refine XS.isub X0.here hx rfl (hb hby d6_54) rfl ?_
        refine XS.istore X0.here hx rfl (hb hby d6_55) rfl (l' := #[rv t, iv (0 : Int32), iv (3 : Int32), iv key, iv (0 : Int32), iv (0 : Int32), iv (1 : Int32), iv x1]) rfl ?_
        refine XS.goto X0.here hx rfl (pc0 := 57) (pc' := 63) rfl (hb hby d6_57) (by decide) (by decide) ?_
        show own_S p e below s₁ m 63 #[rv t, iv (0 : Int32), iv (3 : Int32), iv key, iv (0 : Int32), iv (0 : Int32), iv (1 : Int32), iv x1] [] _
        refine XS.goto X0.here hx rfl (pc0 := 63) (pc' := 8) rfl (hb hby d6_63) (by decide) (by decide) ?_
        refine XS.iload X0.here hx rfl (hb hby d6_8) rfl ?_
        refine XS.iload X0.here hx rfl (hb hby d6_10) rfl ?_
        show own_S p e below s₁ m 12 #[rv t, iv (0 : Int32), iv (3 : Int32), iv key, iv (0 : Int32), iv (0 : Int32), iv (1 : Int32), iv x1] [(.int (0 : Int32)), (.int (0 : Int32))] _
        refine XS.icmpNo X0.here hx rfl (hb hby d6_12) rfl (flt (by decide : ¬ ((0 : Int32) < (0 : Int32)))).2.2.1 ?_
        refine XS.iload X0.here hx rfl (hb hby d6_15) rfl ?_
        refine XS.iload X0.here hx rfl (hb hby d6_17) rfl ?_
        show own_S p e below s₁ m 19 #[rv t, iv (0 : Int32), iv (3 : Int32), iv key, iv (0 : Int32), iv (0 : Int32), iv (1 : Int32), iv x1] [(.int (0 : Int32)), (.int (0 : Int32))] _
        refine XS.iadd X0.here hx rfl (hb hby d6_19) rfl ?_
        refine XS.iconst X0.here hx rfl (hb hby d6_20) ?_
        refine XS.iushr X0.here hx rfl (hb hby d6_21) rfl ?_
        show own_S p e below s₁ m 22 #[rv t, iv (0 : Int32), iv (3 : Int32), iv key, iv (0 : Int32), iv (0 : Int32), iv (1 : Int32), iv x1] [(.int (0 : Int32))] _
        refine XS.istore X0.here hx rfl (hb hby d6_22) rfl (l' := #[rv t, iv (0 : Int32), iv (3 : Int32), iv key, iv (0 : Int32), iv (0 : Int32), iv (0 : Int32), iv x1]) rfl ?_
        refine XS.aloadN X0.here hx rfl (hb hby d6_24) rfl rfl ?_
        refine XS.iload X0.here hx rfl (hb hby d6_25) rfl ?_
        show own_S p e below s₁ m 27 #[rv t, iv (0 : Int32), iv (3 : Int32), iv key, iv (0 : Int32), iv (0 : Int32), iv (0 : Int32), iv x1] [(.int (0 : Int32)), (.ref t)] _
        refine X0.caload hx (j := (0 : Int32)) (v := (.int x0)) (by rw [e0]; exact Ar14.1) (State.isArrayOf_alike hZ.alike Ar14.2.1) Ar14.2.2 hin14 hat14 (g := (mkF m 27 #[rv t, iv (0 : Int32), iv (3 : Int32), iv key, iv (0 : Int32), iv (0 : Int32), iv (0 : Int32), iv x1] [(.int (0 : Int32)), (.ref t)])) rfl rfl (hb hby d6_27) _ ?_
        refine XS.istore X0.here hx rfl (hb hby d6_28) rfl (l' := #[rv t, iv (0 : Int32), iv (3 : Int32), iv key, iv (0 : Int32), iv (0 : Int32), iv (0 : Int32), iv x0]) rfl ?_
        refine XS.iload X0.here hx rfl (hb hby d6_30) rfl ?_
        show own_S p e below s₁ m 32 #[rv t, iv (0 : Int32), iv (3 : Int32), iv key, iv (0 : Int32), iv (0 : Int32), iv (0 : Int32), iv x0] [(.int x0)] _
        refine XS.iloadN X0.here hx rfl (hb hby d6_32) rfl ?_
        exact k)
      by_cases hc33_15 : x0 < key
      ·  -- pc 33 yes
        have pre17 : ∀ tg, own_S p e below s₁ m 71 #[rv t, iv (0 : Int32), iv (3 : Int32), iv key, iv (1 : Int32), iv (0 : Int32), iv (0 : Int32), iv x0] [(.int (-2 : Int32))] tg → Steps p.tables e below (s₁.setTop (entryFrame m #[(.ref t), (.int (0 : Int32)), (.int (3 : Int32)), (.int key)] 8)) tg := fun tg k => pre16 tg (by
          show own_S p e below s₁ m 33 #[rv t, iv (0 : Int32), iv (3 : Int32), iv key, iv (0 : Int32), iv (0 : Int32), iv (0 : Int32), iv x0] [(.int key), (.int x0)] _
          refine XS.icmpNo X0.here hx rfl (hb hby d6_33) rfl (tlt hc33_15).2.1 ?_
          refine XS.iload X0.here hx rfl (hb hby d6_36) rfl ?_
          refine XS.iconst X0.here hx rfl (hb hby d6_38) ?_
          show own_S p e below s₁ m 39 #[rv t, iv (0 : Int32), iv (3 : Int32), iv key, iv (0 : Int32), iv (0 : Int32), iv (0 : Int32), iv x0] [(.int (1 : Int32)), (.int (0 : Int32))] _
          refine XS.iadd X0.here hx rfl (hb hby d6_39) rfl ?_
          refine XS.istore X0.here hx rfl (hb hby d6_40) rfl (l' := #[rv t, iv (0 : Int32), iv (3 : Int32), iv key, iv (1 : Int32), iv (0 : Int32), iv (0 : Int32), iv x0]) rfl ?_
          refine XS.goto X0.here hx rfl (pc0 := 42) (pc' := 63) rfl (hb hby d6_42) (by decide) (by decide) ?_
          show own_S p e below s₁ m 63 #[rv t, iv (0 : Int32), iv (3 : Int32), iv key, iv (1 : Int32), iv (0 : Int32), iv (0 : Int32), iv x0] [] _
          refine XS.goto X0.here hx rfl (pc0 := 63) (pc' := 8) rfl (hb hby d6_63) (by decide) (by decide) ?_
          refine XS.iload X0.here hx rfl (hb hby d6_8) rfl ?_
          refine XS.iload X0.here hx rfl (hb hby d6_10) rfl ?_
          show own_S p e below s₁ m 12 #[rv t, iv (0 : Int32), iv (3 : Int32), iv key, iv (1 : Int32), iv (0 : Int32), iv (0 : Int32), iv x0] [(.int (0 : Int32)), (.int (1 : Int32))] _
          refine XS.icmpYes X0.here hx rfl (pc0 := 12) (pc' := 66) rfl (hb hby d6_12) rfl (tlt (by decide : (0 : Int32) < (1 : Int32))).2.2.1 (by decide) (by decide) ?_
          refine XS.iload X0.here hx rfl (hb hby d6_66) rfl ?_
          refine XS.iconst X0.here hx rfl (hb hby d6_68) ?_
          show own_S p e below s₁ m 69 #[rv t, iv (0 : Int32), iv (3 : Int32), iv key, iv (1 : Int32), iv (0 : Int32), iv (0 : Int32), iv x0] [(.int (1 : Int32)), (.int (1 : Int32))] _
          refine XS.iadd X0.here hx rfl (hb hby d6_69) rfl ?_
          refine XS.ineg X0.here hx rfl (hb hby d6_70) rfl ?_
          exact k)
        obtain ⟨fs, hr, hrun, hended, hW, hsame⟩ := X0.leave (v := some (.int (-2 : Int32))) (fun h => by rw [Bd.returns] at h; cases h)
        refine ⟨_, _, pre17 _ ?_, hrun, hended, _, _, rfl, ?_, ⟨_, rfl⟩, hW, hsame.mono (by decide) (by decide)⟩
        · show own_S p e below s₁ m 71 #[rv t, iv (0 : Int32), iv (3 : Int32), iv key, iv (1 : Int32), iv (0 : Int32), iv (0 : Int32), iv x0] [(.int (-2 : Int32))] _
          exact retI X0 hx Bd.returns (hb hby d6_71) hr
        · show QB3 Z t key k x0 x1 x2 h0 n0 _ s₁.heap _
          rw [e0]
          exact ⟨_, rfl, N0, rfl, (Or.inr (Or.inr (Or.inr (Or.inr (Or.inl ⟨rfl, hc33_15, hc48_12⟩)))))⟩
      ·  -- pc 33 no
        have pre19 : ∀ tg, own_S p e below s₁ m 48 #[rv t, iv (0 : Int32), iv (3 : Int32), iv key, iv (0 : Int32), iv (0 : Int32), iv (0 : Int32), iv x0] [(.int key), (.int x0)] tg → Steps p.tables e below (s₁.setTop (entryFrame m #[(.ref t), (.int (0 : Int32)), (.int (3 : Int32)), (.int key)] 8)) tg := fun tg k => pre16 tg (by
          show own_S p e below s₁ m 33 #[rv t, iv (0 : Int32), iv (3 : Int32), iv key, iv (0 : Int32), iv (0 : Int32), iv (0 : Int32), iv x0] [(.int key), (.int x0)] _
          refine XS.icmpYes X0.here hx rfl (pc0 := 33) (pc' := 45) rfl (hb hby d6_33) rfl (flt hc33_15).2.1 (by decide) (by decide) ?_
          refine XS.iload X0.here hx rfl (hb hby d6_45) rfl ?_
          refine XS.iloadN X0.here hx rfl (hb hby d6_47) rfl ?_
          exact k)
        by_cases hc48_18 : key < x0
        ·  -- pc 48 yes
          have pre20 : ∀ tg, own_S p e below s₁ m 71 #[rv t, iv (0 : Int32), iv (3 : Int32), iv key, iv (0 : Int32), iv (-1 : Int32), iv (0 : Int32), iv x0] [(.int (-1 : Int32))] tg → Steps p.tables e below (s₁.setTop (entryFrame m #[(.ref t), (.int (0 : Int32)), (.int (3 : Int32)), (.int key)] 8)) tg := fun tg k => pre19 tg (by
            show own_S p e below s₁ m 48 #[rv t, iv (0 : Int32), iv (3 : Int32), iv key, iv (0 : Int32), iv (0 : Int32), iv (0 : Int32), iv x0] [(.int key), (.int x0)] _
            refine XS.icmpNo X0.here hx rfl (hb hby d6_48) rfl (tlt hc48_18).2.2.2 ?_
            refine XS.iload X0.here hx rfl (hb hby d6_51) rfl ?_
            refine XS.iconst X0.here hx rfl (hb hby d6_53) ?_
            show own_S p e below s₁ m 54 #[rv t, iv (0 : Int32), iv (3 : Int32), iv key, iv (0 : Int32), iv (0 : Int32), iv (0 : Int32), iv x0] [(.int (1 : Int32)), (.int (0 : Int32))] _
            refine XS.isub X0.here hx rfl (hb hby d6_54) rfl ?_
            refine XS.istore X0.here hx rfl (hb hby d6_55) rfl (l' := #[rv t, iv (0 : Int32), iv (3 : Int32), iv key, iv (0 : Int32), iv (-1 : Int32), iv (0 : Int32), iv x0]) rfl ?_
            refine XS.goto X0.here hx rfl (pc0 := 57) (pc' := 63) rfl (hb hby d6_57) (by decide) (by decide) ?_
            show own_S p e below s₁ m 63 #[rv t, iv (0 : Int32), iv (3 : Int32), iv key, iv (0 : Int32), iv (-1 : Int32), iv (0 : Int32), iv x0] [] _
            refine XS.goto X0.here hx rfl (pc0 := 63) (pc' := 8) rfl (hb hby d6_63) (by decide) (by decide) ?_
            refine XS.iload X0.here hx rfl (hb hby d6_8) rfl ?_
            refine XS.iload X0.here hx rfl (hb hby d6_10) rfl ?_
            show own_S p e below s₁ m 12 #[rv t, iv (0 : Int32), iv (3 : Int32), iv key, iv (0 : Int32), iv (-1 : Int32), iv (0 : Int32), iv x0] [(.int (-1 : Int32)), (.int (0 : Int32))] _
            refine XS.icmpYes X0.here hx rfl (pc0 := 12) (pc' := 66) rfl (hb hby d6_12) rfl (tlt (by decide : (-1 : Int32) < (0 : Int32))).2.2.1 (by decide) (by decide) ?_
            refine XS.iload X0.here hx rfl (hb hby d6_66) rfl ?_
            refine XS.iconst X0.here hx rfl (hb hby d6_68) ?_
            show own_S p e below s₁ m 69 #[rv t, iv (0 : Int32), iv (3 : Int32), iv key, iv (0 : Int32), iv (-1 : Int32), iv (0 : Int32), iv x0] [(.int (1 : Int32)), (.int (0 : Int32))] _
            refine XS.iadd X0.here hx rfl (hb hby d6_69) rfl ?_
            refine XS.ineg X0.here hx rfl (hb hby d6_70) rfl ?_
            exact k)
          obtain ⟨fs, hr, hrun, hended, hW, hsame⟩ := X0.leave (v := some (.int (-1 : Int32))) (fun h => by rw [Bd.returns] at h; cases h)
          refine ⟨_, _, pre20 _ ?_, hrun, hended, _, _, rfl, ?_, ⟨_, rfl⟩, hW, hsame.mono (by decide) (by decide)⟩
          · show own_S p e below s₁ m 71 #[rv t, iv (0 : Int32), iv (3 : Int32), iv key, iv (0 : Int32), iv (-1 : Int32), iv (0 : Int32), iv x0] [(.int (-1 : Int32))] _
            exact retI X0 hx Bd.returns (hb hby d6_71) hr
          · show QB3 Z t key k x0 x1 x2 h0 n0 _ s₁.heap _
            rw [e0]
            exact ⟨_, rfl, N0, rfl, (Or.inr (Or.inr (Or.inr (Or.inl ⟨rfl, hc48_18⟩))))⟩
        ·  -- pc 48 no
          have pre21 : ∀ tg, own_S p e below s₁ m 62 #[rv t, iv (0 : Int32), iv (3 : Int32), iv key, iv (0 : Int32), iv (0 : Int32), iv (0 : Int32), iv x0] [(.int (0 : Int32))] tg → Steps p.tables e below (s₁.setTop (entryFrame m #[(.ref t), (.int (0 : Int32)), (.int (3 : Int32)), (.int key)] 8)) tg := fun tg k => pre19 tg (by
            show own_S p e below s₁ m 48 #[rv t, iv (0 : Int32), iv (3 : Int32), iv key, iv (0 : Int32), iv (0 : Int32), iv (0 : Int32), iv x0] [(.int key), (.int x0)] _
            refine XS.icmpYes X0.here hx rfl (pc0 := 48) (pc' := 60) rfl (hb hby d6_48) rfl (flt hc48_18).2.2.2 (by decide) (by decide) ?_
            refine XS.iload X0.here hx rfl (hb hby d6_60) rfl ?_
            exact k)
          obtain ⟨fs, hr, hrun, hended, hW, hsame⟩ := X0.leave (v := some (.int (0 : Int32))) (fun h => by rw [Bd.returns] at h; cases h)
          refine ⟨_, _, pre21 _ ?_, hrun, hended, _, _, rfl, ?_, ⟨_, rfl⟩, hW, hsame.mono (by decide) (by decide)⟩
          · show own_S p e below s₁ m 62 #[rv t, iv (0 : Int32), iv (3 : Int32), iv key, iv (0 : Int32), iv (0 : Int32), iv (0 : Int32), iv x0] [(.int (0 : Int32))] _
            exact retI X0 hx Bd.returns (hb hby d6_62) hr
          · show QB3 Z t key k x0 x1 x2 h0 n0 _ s₁.heap _
            rw [e0]
            exact ⟨_, rfl, N0, rfl, (Or.inl ⟨rfl, own_eq hc33_15 hc48_18⟩)⟩
    ·  -- pc 48 no
      have pre22 : ∀ tg, own_S p e below s₁ m 62 #[rv t, iv (0 : Int32), iv (3 : Int32), iv key, iv (0 : Int32), iv (2 : Int32), iv (1 : Int32), iv x1] [(.int (1 : Int32))] tg → Steps p.tables e below (s₁.setTop (entryFrame m #[(.ref t), (.int (0 : Int32)), (.int (3 : Int32)), (.int key)] 8)) tg := fun tg k => pre13 tg (by
        show own_S p e below s₁ m 48 #[rv t, iv (0 : Int32), iv (3 : Int32), iv key, iv (0 : Int32), iv (2 : Int32), iv (1 : Int32), iv x1] [(.int key), (.int x1)] _
        refine XS.icmpYes X0.here hx rfl (pc0 := 48) (pc' := 60) rfl (hb hby d6_48) rfl (flt hc48_12).2.2.2 (by decide) (by decide) ?_
        refine XS.iload X0.here hx rfl (hb hby d6_60) rfl ?_
        exact k)
      obtain ⟨fs, hr, hrun, hended, hW, hsame⟩ := X0.leave (v := some (.int (1 : Int32))) (fun h => by rw [Bd.returns] at h; cases h)
      refine ⟨_, _, pre22 _ ?_, hrun, hended, _, _, rfl, ?_, ⟨_, rfl⟩, hW, hsame.mono (by decide) (by decide)⟩
      · show own_S p e below s₁ m 62 #[rv t, iv (0 : Int32), iv (3 : Int32), iv key, iv (0 : Int32), iv (2 : Int32), iv (1 : Int32), iv x1] [(.int (1 : Int32))] _
        exact retI X0 hx Bd.returns (hb hby d6_62) hr
      · show QB3 Z t key k x0 x1 x2 h0 n0 _ s₁.heap _
        rw [e0]
        exact ⟨_, rfl, N0, rfl, (Or.inr (Or.inl ⟨rfl, own_eq hc33_2 hc48_12⟩))⟩
theorem ef_S3 (m : MethodId) (t : Addr) (key : Int32) : entryFrame m #[(.ref t), (.int (0 : Int32)), (.int (3 : Int32)), (.int key)] 4 = mkF m 0 #[rv t, iv (0 : Int32), iv (3 : Int32), iv key] [] := by first | (simp [entryFrame, mkF, argsToLocals, Value.category]; done) | rfl
def QS3 (Z : State) (t : Addr) (key : Int32) (k : ClassId) (x0 : Int32) (x1 : Int32) (x2 : Int32) (h0 : Heap) (n0 : Nat) (v : Option Value) (h : Heap) (L : List Loc) : Prop := ∃ r : Int32, v = some (.int r) ∧ Fr n0 L ∧ h = h0 ∧ ((r = 0 ∧ x0 = key) ∨ (r = 1 ∧ x1 = key) ∨ (r = 2 ∧ x2 = key) ∨ (r = -1 ∧ key < x0) ∨ (r = -2 ∧ x0 < key ∧ key < x1) ∨ (r = -3 ∧ x1 < key ∧ key < x2) ∨ (r = -4 ∧ x2 < key))
set_option maxRecDepth 65536 in
set_option maxHeartbeats 40000000 in
theorem rmS3 (l : Launch) (Z : State) (a0 : Array Value) (hw : ∀ d ∈ tables_1, d.before a0 Z = true) (ws : List Jvm.Cond) (t : Addr) (key : Int32) (k : ClassId) (x0 : Int32) (x1 : Int32) (x2 : Int32) (h0 : Heap) (n0 : Nat) (Z0 : n0 ≤ h0.size) (V_t : Arv Z h0 t k .char (4 : Int32) [(.int x0), (.int x1), (.int x2), (.int (0 : Int32))] (.int (0 : Int32))) :
    MetFree l (⟨"java/util/Arrays", "binarySearch", "([CIIC)I"⟩ : MethodName) (head1 (Jvm.Cond.code (⟨"java/util/Arrays", "binarySearch", "([CIIC)I"⟩ : MethodName) jdk_65_method_64_code 4 (some .int) :: ws) ({ frames := 1, cells := 0, slots := 0, locals := 24 } : Room)) (fun a U => a = #[(.ref t), (.int (0 : Int32)), (.int (3 : Int32)), (.int key)] ∧ Z.Warmed39 U.vm ∧ U.heap = h0) (fun _ _ _ _ _ => True) (fun _ U o U' => ∃ v L, o = .returned v ∧ QS3 Z t key k x0 x1 x2 h0 n0 v U'.heap L ∧ FrameEnd U o U' L ({ frames := 1, cells := 0, slots := 0, locals := 24 } : Room).cells ({ frames := 1, cells := 0, slots := 0, locals := 24 } : Room).slots) := by
  refine MetFree.of_bodySF (plainFor_of_name pn_1) hisR ?_
  intro p e s m args below meth c s₁ Bd hml0 hP hK
  obtain ⟨rfl, hZ, hh⟩ := hP
  have hx := Bd.exec
  have hby := Bd.bytes
  have hml : c.maxLocals = 4 := hml0
  have hown : s.vm.findClass "java/util/Arrays" = some m.cls := findClass_of_methodNamed Bd.named
  have hnm := (name_of_methodNamed Bd.named Bd.method).1
  have X0 : Stand p l e ({ frames := 1, cells := 0, slots := 0, locals := 24 } : Room) s m #[(.ref t), (.int (0 : Int32)), (.int (3 : Int32)), (.int key)] below meth c s₁ [] 0 0 := Stand.of_body Bd
  have e0 : s₁.heap = h0 := by rw [← hh, Bd.state]; rfl
  have N0 := Fr.nil n0
  have pre0 : ∀ tg, Steps p.tables e below (s₁.setTop (mkF m 0 #[rv t, iv (0 : Int32), iv (3 : Int32), iv key] [])) tg → Steps p.tables e below (s₁.setTop (entryFrame m #[(.ref t), (.int (0 : Int32)), (.int (3 : Int32)), (.int key)] 4)) tg := fun tg k => castTop (ef_S3 m t key) k
  obtain ⟨cl1, Ar1, q1, S1, M1, -, -⟩ := id V_t
  obtain ⟨_, _, ⟨T2, L2, k2, n2⟩, -, X2, ⟨Lc2, hQ2, l2, y2, z2⟩, st2⟩ := Jvm.LawKit.callS X0 hx (y := (⟨"java/util/Arrays", "rangeCheck", "(III)V"⟩ : MethodName)) hown (mvT hZ (hw _ (List.mem_of_getElem? (i := 29) rfl))) (mvT hZ (hw _ (List.mem_of_getElem? (i := 30) rfl))) (mvT hZ (hw _ (List.mem_of_getElem? (i := 27) rfl))) (mvT hZ (hw _ (List.mem_of_getElem? (i := 31) rfl))) (by decide) (backOf (W := 0) (rmRC l Z a0 hw [] (4 : Int32) (0 : Int32) (3 : Int32) h0 n0 Z0 (by decide) (by decide) (by decide)) hZ (hw _ (List.mem_of_getElem? (i := 31) rfl)) (hw _ (List.mem_of_getElem? (i := 27) rfl)) (by decide) (by decide)) (g := (mkF m 4 #[rv t, iv (0 : Int32), iv (3 : Int32), iv key] [(.int (3 : Int32)), (.int (0 : Int32)), (.int (4 : Int32))])) rfl (by rw [hml]; rfl) (argsL := [(.int (4 : Int32)), (.int (0 : Int32)), (.int (3 : Int32))]) (rest := []) (lenOf pd_0 rfl) rfl (by show 2 * 0 + _ ≤ _; exact Nat.le_of_eq rfl) (hb hby d4_4) (fun _ _ => ⟨rfl, e0, (by decide : 0 + 0 ≤ _), (by decide : 0 + 0 ≤ _)⟩)
  dsimp only [Pt.U, Pt.locs, Pt.cells, Pt.slots] at X2 l2 y2 z2 st2 hQ2
  subst l2 y2 z2
  obtain ⟨rfl, N2q, e2q⟩ := hQ2
  have N2 := Fr.app N0 N2q
  have e2 : T2.heap = h0 := e2q
  obtain ⟨_, _, ⟨T3, L3, k3, n3⟩, -, X3, ⟨Lc3, hQ3, l3, y3, z3⟩, st3⟩ := Jvm.LawKit.callS X2 hx (y := (⟨"java/util/Arrays", "binarySearch0", "([CIIC)I"⟩ : MethodName)) hown (mvT hZ (hw _ (List.mem_of_getElem? (i := 32) rfl))) (mvT hZ (hw _ (List.mem_of_getElem? (i := 33) rfl))) (mvT hZ (hw _ (List.mem_of_getElem? (i := 27) rfl))) (mvT hZ (hw _ (List.mem_of_getElem? (i := 34) rfl))) (by decide) (backOf (W := 0) (rmB3 l Z a0 hw [] t key k x0 x1 x2 h0 n0 Z0 V_t) hZ (hw _ (List.mem_of_getElem? (i := 34) rfl)) (hw _ (List.mem_of_getElem? (i := 27) rfl)) (by decide) (by decide)) (g := (mkF m 11 #[rv t, iv (0 : Int32), iv (3 : Int32), iv key] [(.int key), (.int (3 : Int32)), (.int (0 : Int32)), (.ref t)])) rfl (by rw [hml]; rfl) (argsL := [(.ref t), (.int (0 : Int32)), (.int (3 : Int32)), (.int key)]) (rest := []) (lenOf pd_1 rfl) rfl (by show 2 * 0 + _ ≤ _; exact Nat.le_of_eq rfl) (hb hby d4_11) (fun _ _ => ⟨rfl, e2, (by decide : 0 + 0 ≤ _), (by decide : 0 + 0 ≤ _)⟩)
  dsimp only [Pt.U, Pt.locs, Pt.cells, Pt.slots] at X3 l3 y3 z3 st3 hQ3
  subst l3 y3 z3
  obtain ⟨r3, rfl, N3q, e3q, hD3⟩ := hQ3
  have N3 := Fr.app N2 N3q
  have e3 : T3.heap = h0 := e3q
  have pre4 : ∀ tg, own_S p e below T3 m 14 #[rv t, iv (0 : Int32), iv (3 : Int32), iv key] [(.int r3)] tg → Steps p.tables e below (s₁.setTop (entryFrame m #[(.ref t), (.int (0 : Int32)), (.int (3 : Int32)), (.int key)] 4)) tg := fun tg k => pre0 tg (by
    show own_S p e below s₁ m 0 #[rv t, iv (0 : Int32), iv (3 : Int32), iv key] [] _
    refine XS.aloadN X0.here hx rfl (hb hby d4_0) rfl rfl ?_
    refine X0.arraylength hx (by rw [e0]; exact Ar1.1) (State.isArrayOf_alike hZ.alike Ar1.2.1) (g := (mkF m 1 #[rv t, iv (0 : Int32), iv (3 : Int32), iv key] [(.ref t)])) rfl rfl (hb hby d4_1) _ ?_
    rw [len_of S1 M1]
    refine XS.iloadN X0.here hx rfl (hb hby d4_2) rfl ?_
    show own_S p e below s₁ m 3 #[rv t, iv (0 : Int32), iv (3 : Int32), iv key] [(.int (0 : Int32)), (.int (4 : Int32))] _
    refine XS.iloadN X0.here hx rfl (hb hby d4_3) rfl ?_
    refine st2 _ ?_
    refine XS.aloadN X2.here hx rfl (hb hby d4_7) rfl rfl ?_
    show own_S p e below T2 m 8 #[rv t, iv (0 : Int32), iv (3 : Int32), iv key] [(.ref t)] _
    refine XS.iloadN X2.here hx rfl (hb hby d4_8) rfl ?_
    refine XS.iloadN X2.here hx rfl (hb hby d4_9) rfl ?_
    refine XS.iloadN X2.here hx rfl (hb hby d4_10) rfl ?_
    show own_S p e below T2 m 11 #[rv t, iv (0 : Int32), iv (3 : Int32), iv key] [(.int key), (.int (3 : Int32)), (.int (0 : Int32)), (.ref t)] _
    refine st3 _ ?_
    exact k)
  obtain ⟨fs, hr, hrun, hended, hW, hsame⟩ := X3.leave (v := some (.int r3)) (fun h => by rw [Bd.returns] at h; cases h)
  refine ⟨_, _, pre4 _ ?_, hrun, hended, _, _, rfl, ?_, ⟨_, rfl⟩, hW, hsame.mono (by decide) (by decide)⟩
  · show own_S p e below T3 m 14 #[rv t, iv (0 : Int32), iv (3 : Int32), iv key] [(.int r3)] _
    exact retI X3 hx Bd.returns (hb hby d4_14) hr
  · show QS3 Z t key k x0 x1 x2 h0 n0 _ T3.heap _
    rw [e3]
    exact ⟨_, rfl, N3, rfl, hD3⟩
theorem ef_B4 (m : MethodId) (t : Addr) (key : Int32) : entryFrame m #[(.ref t), (.int (0 : Int32)), (.int (4 : Int32)), (.int key)] 8 = mkF m 0 #[rv t, iv (0 : Int32), iv (4 : Int32), iv key, .unset, .unset, .unset, .unset] [] := by first | (simp [entryFrame, mkF, argsToLocals, Value.category]; done) | rfl
def QB4 (Z : State) (t : Addr) (key : Int32) (k : ClassId) (x0 : Int32) (x1 : Int32) (x2 : Int32) (x3 : Int32) (h0 : Heap) (n0 : Nat) (v : Option Value) (h : Heap) (L : List Loc) : Prop := ∃ r : Int32, v = some (.int r) ∧ Fr n0 L ∧ h = h0 ∧ ((r = 0 ∧ x0 = key) ∨ (r = 1 ∧ x1 = key) ∨ (r = 2 ∧ x2 = key) ∨ (r = 3 ∧ x3 = key) ∨ (r = -1 ∧ key < x0) ∨ (r = -2 ∧ x0 < key ∧ key < x1) ∨ (r = -3 ∧ x1 < key ∧ key < x2) ∨ (r = -4 ∧ x2 < key ∧ key < x3) ∨ (r = -5 ∧ x3 < key))
set_option maxRecDepth 65536 in
set_option maxHeartbeats 40000000 in
theorem rmB4 (l : Launch) (Z : State) (a0 : Array Value) (hw : ∀ d ∈ tables_1, d.before a0 Z = true) (ws : List Jvm.Cond) (t : Addr) (key : Int32) (k : ClassId) (x0 : Int32) (x1 : Int32) (x2 : Int32) (x3 : Int32) (h0 : Heap) (n0 : Nat) (Z0 : n0 ≤ h0.size) (V_t : Arv Z h0 t k .char (4 : Int32) [(.int x0), (.int x1), (.int x2), (.int x3)] (.int (0 : Int32))) :
    MetFree l (⟨"java/util/Arrays", "binarySearch0", "([CIIC)I"⟩ : MethodName) (head1 (Jvm.Cond.code (⟨"java/util/Arrays", "binarySearch0", "([CIIC)I"⟩ : MethodName) jdk_65_method_65_code 8 (some .int) :: ws) ({ frames := 0, cells := 0, slots := 0, locals := 0 } : Room)) (fun a U => a = #[(.ref t), (.int (0 : Int32)), (.int (4 : Int32)), (.int key)] ∧ Z.Warmed39 U.vm ∧ U.heap = h0) (fun _ _ _ _ _ => True) (fun _ U o U' => ∃ v L, o = .returned v ∧ QB4 Z t key k x0 x1 x2 x3 h0 n0 v U'.heap L ∧ FrameEnd U o U' L ({ frames := 0, cells := 0, slots := 0, locals := 0 } : Room).cells ({ frames := 0, cells := 0, slots := 0, locals := 0 } : Room).slots) := by
  refine MetFree.of_bodySF (plainFor_of_name pn_1) hisR ?_
  intro p e s m args below meth c s₁ Bd hml0 hP hK
  obtain ⟨rfl, hZ, hh⟩ := hP
  have hx := Bd.exec
  have hby := Bd.bytes
  have hml : c.maxLocals = 8 := hml0
  have hown : s.vm.findClass "java/util/Arrays" = some m.cls := findClass_of_methodNamed Bd.named
  have hnm := (name_of_methodNamed Bd.named Bd.method).1
  have X0 : Stand p l e ({ frames := 0, cells := 0, slots := 0, locals := 0 } : Room) s m #[(.ref t), (.int (0 : Int32)), (.int (4 : Int32)), (.int key)] below meth c s₁ [] 0 0 := Stand.of_body Bd
  have e0 : s₁.heap = h0 := by rw [← hh, Bd.state]; rfl
  have N0 := Fr.nil n0
  have pre0 : ∀ tg, Steps p.tables e below (s₁.setTop (mkF m 0 #[rv t, iv (0 : Int32), iv (4 : Int32), iv key, .unset, .unset, .unset, .unset] [])) tg → Steps p.tables e below (s₁.setTop (entryFrame m #[(.ref t), (.int (0 : Int32)), (.int (4 : Int32)), (.int key)] 8)) tg := fun tg k => castTop (ef_B4 m t key) k
  obtain ⟨cl1, Ar1, q1, S1, M1, H1, G1⟩ := id V_t
  have hin1 : ¬ ((1 : Int32) < 0 ∨ cl1.slots.size ≤ ((1 : Int32)).toNatClampNeg) := inb_of S1 ⟨by decide, by decide⟩
  have hat1 : cl1.slots[((1 : Int32)).toNatClampNeg]? = some (.int x1) := H1.at hin1 rfl
  have pre3 : ∀ tg, own_S p e below s₁ m 33 #[rv t, iv (0 : Int32), iv (4 : Int32), iv key, iv (0 : Int32), iv (3 : Int32), iv (1 : Int32), iv x1] [(.int key), (.int x1)] tg → Steps p.tables e below (s₁.setTop (entryFrame m #[(.ref t), (.int (0 : Int32)), (.int (4 : Int32)), (.int key)] 8)) tg := fun tg k => pre0 tg (by
    show own_S p e below s₁ m 0 #[rv t, iv (0 : Int32), iv (4 : Int32), iv key, .unset, .unset, .unset, .unset] [] _
    refine XS.iloadN X0.here hx rfl (hb hby d6_0) rfl ?_
    refine XS.istore X0.here hx rfl (hb hby d6_1) rfl (l' := #[rv t, iv (0 : Int32), iv (4 : Int32), iv key, iv (0 : Int32), .unset, .unset, .unset]) rfl ?_
    refine XS.iloadN X0.here hx rfl (hb hby d6_3) rfl ?_
    show own_S p e below s₁ m 4 #[rv t, iv (0 : Int32), iv (4 : Int32), iv key, iv (0 : Int32), .unset, .unset, .unset] [(.int (4 : Int32))] _
    refine XS.iconst X0.here hx rfl (hb hby d6_4) ?_
    refine XS.isub X0.here hx rfl (hb hby d6_5) rfl ?_
    refine XS.istore X0.here hx rfl (hb hby d6_6) rfl (l' := #[rv t, iv (0 : Int32), iv (4 : Int32), iv key, iv (0 : Int32), iv (3 : Int32), .unset, .unset]) rfl ?_
    show own_S p e below s₁ m 8 #[rv t, iv (0 : Int32), iv (4 : Int32), iv key, iv (0 : Int32), iv (3 : Int32), .unset, .unset] [] _
    refine XS.iload X0.here hx rfl (hb hby d6_8) rfl ?_
    refine XS.iload X0.here hx rfl (hb hby d6_10) rfl ?_
    refine XS.icmpNo X0.here hx rfl (hb hby d6_12) rfl (flt (by decide : ¬ ((3 : Int32) < (0 : Int32)))).2.2.1 ?_
    show own_S p e below s₁ m 15 #[rv t, iv (0 : Int32), iv (4 : Int32), iv key, iv (0 : Int32), iv (3 : Int32), .unset, .unset] [] _
    refine XS.iload X0.here hx rfl (hb hby d6_15) rfl ?_
    refine XS.iload X0.here hx rfl (hb hby d6_17) rfl ?_
    refine XS.iadd X0.here hx rfl (hb hby d6_19) rfl ?_
    show own_S p e below s₁ m 20 #[rv t, iv (0 : Int32), iv (4 : Int32), iv key, iv (0 : Int32), iv (3 : Int32), .unset, .unset] [(.int (3 : Int32))] _
    refine XS.iconst X0.here hx rfl (hb hby d6_20) ?_
    refine XS.iushr X0.here hx rfl (hb hby d6_21) rfl ?_
    refine XS.istore X0.here hx rfl (hb hby d6_22) rfl (l' := #[rv t, iv (0 : Int32), iv (4 : Int32), iv key, iv (0 : Int32), iv (3 : Int32), iv (1 : Int32), .unset]) rfl ?_
    show own_S p e below s₁ m 24 #[rv t, iv (0 : Int32), iv (4 : Int32), iv key, iv (0 : Int32), iv (3 : Int32), iv (1 : Int32), .unset] [] _
    refine XS.aloadN X0.here hx rfl (hb hby d6_24) rfl rfl ?_
    refine XS.iload X0.here hx rfl (hb hby d6_25) rfl ?_
    refine X0.caload hx (j := (1 : Int32)) (v := (.int x1)) (by rw [e0]; exact Ar1.1) (State.isArrayOf_alike hZ.alike Ar1.2.1) Ar1.2.2 hin1 hat1 (g := (mkF m 27 #[rv t, iv (0 : Int32), iv (4 : Int32), iv key, iv (0 : Int32), iv (3 : Int32), iv (1 : Int32), .unset] [(.int (1 : Int32)), (.ref t)])) rfl rfl (hb hby d6_27) _ ?_
    show own_S p e below s₁ m 28 #[rv t, iv (0 : Int32), iv (4 : Int32), iv key, iv (0 : Int32), iv (3 : Int32), iv (1 : Int32), .unset] [(.int x1)] _
    refine XS.istore X0.here hx rfl (hb hby d6_28) rfl (l' := #[rv t, iv (0 : Int32), iv (4 : Int32), iv key, iv (0 : Int32), iv (3 : Int32), iv (1 : Int32), iv x1]) rfl ?_
    refine XS.iload X0.here hx rfl (hb hby d6_30) rfl ?_
    refine XS.iloadN X0.here hx rfl (hb hby d6_32) rfl ?_
    exact k)
  by_cases hc33_2 : x1 < key
  ·  -- pc 33 yes
    obtain ⟨cl4, Ar4, q4, S4, M4, H4, G4⟩ := id V_t
    have hin4 : ¬ ((2 : Int32) < 0 ∨ cl4.slots.size ≤ ((2 : Int32)).toNatClampNeg) := inb_of S4 ⟨by decide, by decide⟩
    have hat4 : cl4.slots[((2 : Int32)).toNatClampNeg]? = some (.int x2) := H4.at hin4 rfl
    have pre6 : ∀ tg, own_S p e below s₁ m 33 #[rv t, iv (0 : Int32), iv (4 : Int32), iv key, iv (2 : Int32), iv (3 : Int32), iv (2 : Int32), iv x2] [(.int key), (.int x2)] tg → Steps p.tables e below (s₁.setTop (entryFrame m #[(.ref t), (.int (0 : Int32)), (.int (4 : Int32)), (.int key)] 8)) tg := fun tg k => pre3 tg (by
      show own_S p e below s₁ m 33 #[rv t, iv (0 : Int32), iv (4 : Int32), iv key, iv (0 : Int32), iv (3 : Int32), iv (1 : Int32), iv x1] [(.int key), (.int x1)] _
      refine XS.icmpNo X0.here hx rfl (hb hby d6_33) rfl (tlt hc33_2).2.1 ?_
      refine XS.iload X0.here hx rfl (hb hby d6_36) rfl ?_
      refine XS.iconst X0.here hx rfl (hb hby d6_38) ?_
      show own_S p e below s₁ m 39 #[rv t, iv (0 : Int32), iv (4 : Int32), iv key, iv (0 : Int32), iv (3 : Int32), iv (1 : Int32), iv x1] [(.int (1 : Int32)), (.int (1 : Int32))] _
      refine XS.iadd X0.here hx rfl (hb hby d6_39) rfl ?_
      refine XS.istore X0.here hx rfl (hb hby d6_40) rfl (l' := #[rv t, iv (0 : Int32), iv (4 : Int32), iv key, iv (2 : Int32), iv (3 : Int32), iv (1 : Int32), iv x1]) rfl ?_
      refine XS.goto X0.here hx rfl (pc0 := 42) (pc' := 63) rfl (hb hby d6_42) (by decide) (by decide) ?_
      show own_S p e below s₁ m 63 #[rv t, iv (0 : Int32), iv (4 : Int32), iv key, iv (2 : Int32), iv (3 : Int32), iv (1 : Int32), iv x1] [] _
      refine XS.goto X0.here hx rfl (pc0 := 63) (pc' := 8) rfl (hb hby d6_63) (by decide) (by decide) ?_
      refine XS.iload X0.here hx rfl (hb hby d6_8) rfl ?_
      refine XS.iload X0.here hx rfl (hb hby d6_10) rfl ?_
      show own_S p e below s₁ m 12 #[rv t, iv (0 : Int32), iv (4 : Int32), iv key, iv (2 : Int32), iv (3 : Int32), iv (1 : Int32), iv x1] [(.int (3 : Int32)), (.int (2 : Int32))] _
      refine XS.icmpNo X0.here hx rfl (hb hby d6_12) rfl (flt (by decide : ¬ ((3 : Int32) < (2 : Int32)))).2.2.1 ?_
      refine XS.iload X0.here hx rfl (hb hby d6_15) rfl ?_
      refine XS.iload X0.here hx rfl (hb hby d6_17) rfl ?_
      show own_S p e below s₁ m 19 #[rv t, iv (0 : Int32), iv (4 : Int32), iv key, iv (2 : Int32), iv (3 : Int32), iv (1 : Int32), iv x1] [(.int (3 : Int32)), (.int (2 : Int32))] _
      refine XS.iadd X0.here hx rfl (hb hby d6_19) rfl ?_
      refine XS.iconst X0.here hx rfl (hb hby d6_20) ?_
      refine XS.iushr X0.here hx rfl (hb hby d6_21) rfl ?_
      show own_S p e below s₁ m 22 #[rv t, iv (0 : Int32), iv (4 : Int32), iv key, iv (2 : Int32), iv (3 : Int32), iv (1 : Int32), iv x1] [(.int (2 : Int32))] _
      refine XS.istore X0.here hx rfl (hb hby d6_22) rfl (l' := #[rv t, iv (0 : Int32), iv (4 : Int32), iv key, iv (2 : Int32), iv (3 : Int32), iv (2 : Int32), iv x1]) rfl ?_
      refine XS.aloadN X0.here hx rfl (hb hby d6_24) rfl rfl ?_
      refine XS.iload X0.here hx rfl (hb hby d6_25) rfl ?_
      show own_S p e below s₁ m 27 #[rv t, iv (0 : Int32), iv (4 : Int32), iv key, iv (2 : Int32), iv (3 : Int32), iv (2 : Int32), iv x1] [(.int (2 : Int32)), (.ref t)] _
      refine X0.caload hx (j := (2 : Int32)) (v := (.int x2)) (by rw [e0]; exact Ar4.1) (State.isArrayOf_alike hZ.alike Ar4.2.1) Ar4.2.2 hin4 hat4 (g := (mkF m 27 #[rv t, iv (0 : Int32), iv (4 : Int32), iv key, iv (2 : Int32), iv (3 : Int32), iv (2 : Int32), iv x1] [(.int (2 : Int32)), (.ref t)])) rfl rfl (hb hby d6_27) _ ?_
      refine XS.istore X0.here hx rfl (hb hby d6_28) rfl (l' := #[rv t, iv (0 : Int32), iv (4 : Int32), iv key, iv (2 : Int32), iv (3 : Int32), iv (2 : Int32), iv x2]) rfl ?_
      refine XS.iload X0.here hx rfl (hb hby d6_30) rfl ?_
      show own_S p e below s₁ m 32 #[rv t, iv (0 : Int32), iv (4 : Int32), iv key, iv (2 : Int32), iv (3 : Int32), iv (2 : Int32), iv x2] [(.int x2)] _
      refine XS.iloadN X0.here hx rfl (hb hby d6_32) rfl ?_
      exact k)
    by_cases hc33_5 : x2 < key
    ·  -- pc 33 yes
      obtain ⟨cl7, Ar7, q7, S7, M7, H7, G7⟩ := id V_t
      have hin7 : ¬ ((3 : Int32) < 0 ∨ cl7.slots.size ≤ ((3 : Int32)).toNatClampNeg) := inb_of S7 ⟨by decide, by decide⟩
      have hat7 : cl7.slots[((3 : Int32)).toNatClampNeg]? = some (.int x3) := H7.at hin7 rfl
      have pre9 : ∀ tg, own_S p e below s₁ m 33 #[rv t, iv (0 : Int32), iv (4 : Int32), iv key, iv (3 : Int32), iv (3 : Int32), iv (3 : Int32), iv x3] [(.int key), (.int x3)] tg → Steps p.tables e below (s₁.setTop (entryFrame m #[(.ref t), (.int (0 : Int32)), (.int (4 : Int32)), (.int key)] 8)) tg := fun tg k => pre6 tg (by
        show own_S p e below s₁ m 33 #[rv t, iv (0 : Int32), iv (4 : Int32), iv key, iv (2 : Int32), iv (3 : Int32), iv (2 : Int32), iv x2] [(.int key), (.int x2)] _
        refine XS.icmpNo X0.here hx rfl (hb hby d6_33) rfl (tlt hc33_5).2.1 ?_
        refine XS.iload X0.here hx rfl (hb hby d6_36) rfl ?_
        refine XS.iconst X0.here hx rfl (hb hby d6_38) ?_
        show own_S p e below s₁ m 39 #[rv t, iv (0 : Int32), iv (4 : Int32), iv key, iv (2 : Int32), iv (3 : Int32), iv (2 : Int32), iv x2] [(.int (1 : Int32)), (.int (2 : Int32))] _
        refine XS.iadd X0.here hx rfl (hb hby d6_39) rfl ?_
        refine XS.istore X0.here hx rfl (hb hby d6_40) rfl (l' := #[rv t, iv (0 : Int32), iv (4 : Int32), iv key, iv (3 : Int32), iv (3 : Int32), iv (2 : Int32), iv x2]) rfl ?_
        refine XS.goto X0.here hx rfl (pc0 := 42) (pc' := 63) rfl (hb hby d6_42) (by decide) (by decide) ?_
        show own_S p e below s₁ m 63 #[rv t, iv (0 : Int32), iv (4 : Int32), iv key, iv (3 : Int32), iv (3 : Int32), iv (2 : Int32), iv x2] [] _
        refine XS.goto X0.here hx rfl (pc0 := 63) (pc' := 8) rfl (hb hby d6_63) (by decide) (by decide) ?_
        refine XS.iload X0.here hx rfl (hb hby d6_8) rfl ?_
        refine XS.iload X0.here hx rfl (hb hby d6_10) rfl ?_
        show own_S p e below s₁ m 12 #[rv t, iv (0 : Int32), iv (4 : Int32), iv key, iv (3 : Int32), iv (3 : Int32), iv (2 : Int32), iv x2] [(.int (3 : Int32)), (.int (3 : Int32))] _
        refine XS.icmpNo X0.here hx rfl (hb hby d6_12) rfl (flt (by decide : ¬ ((3 : Int32) < (3 : Int32)))).2.2.1 ?_
        refine XS.iload X0.here hx rfl (hb hby d6_15) rfl ?_
        refine XS.iload X0.here hx rfl (hb hby d6_17) rfl ?_
        show own_S p e below s₁ m 19 #[rv t, iv (0 : Int32), iv (4 : Int32), iv key, iv (3 : Int32), iv (3 : Int32), iv (2 : Int32), iv x2] [(.int (3 : Int32)), (.int (3 : Int32))] _
        refine XS.iadd X0.here hx rfl (hb hby d6_19) rfl ?_
        refine XS.iconst X0.here hx rfl (hb hby d6_20) ?_
        refine XS.iushr X0.here hx rfl (hb hby d6_21) rfl ?_
        show own_S p e below s₁ m 22 #[rv t, iv (0 : Int32), iv (4 : Int32), iv key, iv (3 : Int32), iv (3 : Int32), iv (2 : Int32), iv x2] [(.int (3 : Int32))] _
        refine XS.istore X0.here hx rfl (hb hby d6_22) rfl (l' := #[rv t, iv (0 : Int32), iv (4 : Int32), iv key, iv (3 : Int32), iv (3 : Int32), iv (3 : Int32), iv x2]) rfl ?_
        refine XS.aloadN X0.here hx rfl (hb hby d6_24) rfl rfl ?_
        refine XS.iload X0.here hx rfl (hb hby d6_25) rfl ?_
        show own_S p e below s₁ m 27 #[rv t, iv (0 : Int32), iv (4 : Int32), iv key, iv (3 : Int32), iv (3 : Int32), iv (3 : Int32), iv x2] [(.int (3 : Int32)), (.ref t)] _
        refine X0.caload hx (j := (3 : Int32)) (v := (.int x3)) (by rw [e0]; exact Ar7.1) (State.isArrayOf_alike hZ.alike Ar7.2.1) Ar7.2.2 hin7 hat7 (g := (mkF m 27 #[rv t, iv (0 : Int32), iv (4 : Int32), iv key, iv (3 : Int32), iv (3 : Int32), iv (3 : Int32), iv x2] [(.int (3 : Int32)), (.ref t)])) rfl rfl (hb hby d6_27) _ ?_
        refine XS.istore X0.here hx rfl (hb hby d6_28) rfl (l' := #[rv t, iv (0 : Int32), iv (4 : Int32), iv key, iv (3 : Int32), iv (3 : Int32), iv (3 : Int32), iv x3]) rfl ?_
        refine XS.iload X0.here hx rfl (hb hby d6_30) rfl ?_
        show own_S p e below s₁ m 32 #[rv t, iv (0 : Int32), iv (4 : Int32), iv key, iv (3 : Int32), iv (3 : Int32), iv (3 : Int32), iv x3] [(.int x3)] _
        refine XS.iloadN X0.here hx rfl (hb hby d6_32) rfl ?_
        exact k)
      by_cases hc33_8 : x3 < key
      ·  -- pc 33 yes
        have pre10 : ∀ tg, own_S p e below s₁ m 71 #[rv t, iv (0 : Int32), iv (4 : Int32), iv key, iv (4 : Int32), iv (3 : Int32), iv (3 : Int32), iv x3] [(.int (-5 : Int32))] tg → Steps p.tables e below (s₁.setTop (entryFrame m #[(.ref t), (.int (0 : Int32)), (.int (4 : Int32)), (.int key)] 8)) tg := fun tg k => pre9 tg (by
          show own_S p e below s₁ m 33 #[rv t, iv (0 : Int32), iv (4 : Int32), iv key, iv (3 : Int32), iv (3 : Int32), iv (3 : Int32), iv x3] [(.int key), (.int x3)] _
          refine XS.icmpNo X0.here hx rfl (hb hby d6_33) rfl (tlt hc33_8).2.1 ?_
          refine XS.iload X0.here hx rfl (hb hby d6_36) rfl ?_
          refine XS.iconst X0.here hx rfl (hb hby d6_38) ?_
          show own_S p e below s₁ m 39 #[rv t, iv (0 : Int32), iv (4 : Int32), iv key, iv (3 : Int32), iv (3 : Int32), iv (3 : Int32), iv x3] [(.int (1 : Int32)), (.int (3 : Int32))] _
          refine XS.iadd X0.here hx rfl (hb hby d6_39) rfl ?_
          refine XS.istore X0.here hx rfl (hb hby d6_40) rfl (l' := #[rv t, iv (0 : Int32), iv (4 : Int32), iv key, iv (4 : Int32), iv (3 : Int32), iv (3 : Int32), iv x3]) rfl ?_
          refine XS.goto X0.here hx rfl (pc0 := 42) (pc' := 63) rfl (hb hby d6_42) (by decide) (by decide) ?_
          show own_S p e below s₁ m 63 #[rv t, iv (0 : Int32), iv (4 : Int32), iv key, iv (4 : Int32), iv (3 : Int32), iv (3 : Int32), iv x3] [] _
          refine XS.goto X0.here hx rfl (pc0 := 63) (pc' := 8) rfl (hb hby d6_63) (by decide) (by decide) ?_
          refine XS.iload X0.here hx rfl (hb hby d6_8) rfl ?_
          refine XS.iload X0.here hx rfl (hb hby d6_10) rfl ?_
          show own_S p e below s₁ m 12 #[rv t, iv (0 : Int32), iv (4 : Int32), iv key, iv (4 : Int32), iv (3 : Int32), iv (3 : Int32), iv x3] [(.int (3 : Int32)), (.int (4 : Int32))] _
          refine XS.icmpYes X0.here hx rfl (pc0 := 12) (pc' := 66) rfl (hb hby d6_12) rfl (tlt (by decide : (3 : Int32) < (4 : Int32))).2.2.1 (by decide) (by decide) ?_
          refine XS.iload X0.here hx rfl (hb hby d6_66) rfl ?_
          refine XS.iconst X0.here hx rfl (hb hby d6_68) ?_
          show own_S p e below s₁ m 69 #[rv t, iv (0 : Int32), iv (4 : Int32), iv key, iv (4 : Int32), iv (3 : Int32), iv (3 : Int32), iv x3] [(.int (1 : Int32)), (.int (4 : Int32))] _
          refine XS.iadd X0.here hx rfl (hb hby d6_69) rfl ?_
          refine XS.ineg X0.here hx rfl (hb hby d6_70) rfl ?_
          exact k)
        obtain ⟨fs, hr, hrun, hended, hW, hsame⟩ := X0.leave (v := some (.int (-5 : Int32))) (fun h => by rw [Bd.returns] at h; cases h)
        refine ⟨_, _, pre10 _ ?_, hrun, hended, _, _, rfl, ?_, ⟨_, rfl⟩, hW, hsame.mono (by decide) (by decide)⟩
        · show own_S p e below s₁ m 71 #[rv t, iv (0 : Int32), iv (4 : Int32), iv key, iv (4 : Int32), iv (3 : Int32), iv (3 : Int32), iv x3] [(.int (-5 : Int32))] _
          exact retI X0 hx Bd.returns (hb hby d6_71) hr
        · show QB4 Z t key k x0 x1 x2 x3 h0 n0 _ s₁.heap _
          rw [e0]
          exact ⟨_, rfl, N0, rfl, (Or.inr (Or.inr (Or.inr (Or.inr (Or.inr (Or.inr (Or.inr (Or.inr (⟨rfl, hc33_8⟩)))))))))⟩
      ·  -- pc 33 no
        have pre12 : ∀ tg, own_S p e below s₁ m 48 #[rv t, iv (0 : Int32), iv (4 : Int32), iv key, iv (3 : Int32), iv (3 : Int32), iv (3 : Int32), iv x3] [(.int key), (.int x3)] tg → Steps p.tables e below (s₁.setTop (entryFrame m #[(.ref t), (.int (0 : Int32)), (.int (4 : Int32)), (.int key)] 8)) tg := fun tg k => pre9 tg (by
          show own_S p e below s₁ m 33 #[rv t, iv (0 : Int32), iv (4 : Int32), iv key, iv (3 : Int32), iv (3 : Int32), iv (3 : Int32), iv x3] [(.int key), (.int x3)] _
          refine XS.icmpYes X0.here hx rfl (pc0 := 33) (pc' := 45) rfl (hb hby d6_33) rfl (flt hc33_8).2.1 (by decide) (by decide) ?_
          refine XS.iload X0.here hx rfl (hb hby d6_45) rfl ?_
          refine XS.iloadN X0.here hx rfl (hb hby d6_47) rfl ?_
          exact k)
        by_cases hc48_11 : key < x3
        ·  -- pc 48 yes
          have pre13 : ∀ tg, own_S p e below s₁ m 71 #[rv t, iv (0 : Int32), iv (4 : Int32), iv key, iv (3 : Int32), iv (2 : Int32), iv (3 : Int32), iv x3] [(.int (-4 : Int32))] tg → Steps p.tables e below (s₁.setTop (entryFrame m #[(.ref t), (.int (0 : Int32)), (.int (4 : Int32)), (.int key)] 8)) tg := fun tg k => pre12 tg (by
            show own_S p e below s₁ m 48 #[rv t, iv (0 : Int32), iv (4 : Int32), iv key, iv (3 : Int32), iv (3 : Int32), iv (3 : Int32), iv x3] [(.int key), (.int x3)] _
            refine XS.icmpNo X0.here hx rfl (hb hby d6_48) rfl (tlt hc48_11).2.2.2 ?_
            refine XS.iload X0.here hx rfl (hb hby d6_51) rfl ?_
            refine XS.iconst X0.here hx rfl (hb hby d6_53) ?_
            show own_S p e below s₁ m 54 #[rv t, iv (0 : Int32), iv (4 : Int32), iv key, iv (3 : Int32), iv (3 : Int32), iv (3 : Int32), iv x3] [(.int (1 : Int32)), (.int (3 : Int32))] _
            refine XS.isub X0.here hx rfl (hb hby d6_54) rfl ?_
            refine XS.istore X0.here hx rfl (hb hby d6_55) rfl (l' := #[rv t, iv (0 : Int32), iv (4 : Int32), iv key, iv (3 : Int32), iv (2 : Int32), iv (3 : Int32), iv x3]) rfl ?_
            refine XS.goto X0.here hx rfl (pc0 := 57) (pc' := 63) rfl (hb hby d6_57) (by decide) (by decide) ?_
            show own_S p e below s₁ m 63 #[rv t, iv (0 : Int32), iv (4 : Int32), iv key, iv (3 : Int32), iv (2 : Int32), iv (3 : Int32), iv x3] [] _
            refine XS.goto X0.here hx rfl (pc0 := 63) (pc' := 8) rfl (hb hby d6_63) (by decide) (by decide) ?_
            refine XS.iload X0.here hx rfl (hb hby d6_8) rfl ?_
            refine XS.iload X0.here hx rfl (hb hby d6_10) rfl ?_
            show own_S p e below s₁ m 12 #[rv t, iv (0 : Int32), iv (4 : Int32), iv key, iv (3 : Int32), iv (2 : Int32), iv (3 : Int32), iv x3] [(.int (2 : Int32)), (.int (3 : Int32))] _
            refine XS.icmpYes X0.here hx rfl (pc0 := 12) (pc' := 66) rfl (hb hby d6_12) rfl (tlt (by decide : (2 : Int32) < (3 : Int32))).2.2.1 (by decide) (by decide) ?_
            refine XS.iload X0.here hx rfl (hb hby d6_66) rfl ?_
            refine XS.iconst X0.here hx rfl (hb hby d6_68) ?_
            show own_S p e below s₁ m 69 #[rv t, iv (0 : Int32), iv (4 : Int32), iv key, iv (3 : Int32), iv (2 : Int32), iv (3 : Int32), iv x3] [(.int (1 : Int32)), (.int (3 : Int32))] _
            refine XS.iadd X0.here hx rfl (hb hby d6_69) rfl ?_
            refine XS.ineg X0.here hx rfl (hb hby d6_70) rfl ?_
            exact k)
          obtain ⟨fs, hr, hrun, hended, hW, hsame⟩ := X0.leave (v := some (.int (-4 : Int32))) (fun h => by rw [Bd.returns] at h; cases h)
          refine ⟨_, _, pre13 _ ?_, hrun, hended, _, _, rfl, ?_, ⟨_, rfl⟩, hW, hsame.mono (by decide) (by decide)⟩
          · show own_S p e below s₁ m 71 #[rv t, iv (0 : Int32), iv (4 : Int32), iv key, iv (3 : Int32), iv (2 : Int32), iv (3 : Int32), iv x3] [(.int (-4 : Int32))] _
            exact retI X0 hx Bd.returns (hb hby d6_71) hr
          · show QB4 Z t key k x0 x1 x2 x3 h0 n0 _ s₁.heap _
            rw [e0]
            exact ⟨_, rfl, N0, rfl, (Or.inr (Or.inr (Or.inr (Or.inr (Or.inr (Or.inr (Or.inr (Or.inl ⟨rfl, hc33_5, hc48_11⟩))))))))⟩
        ·  -- pc 48 no
          have pre14 : ∀ tg, own_S p e below s₁ m 62 #[rv t, iv (0 : Int32), iv (4 : Int32), iv key, iv (3 : Int32), iv (3 : Int32), iv (3 : Int32), iv x3] [(.int (3 : Int32))] tg → Steps p.tables e below (s₁.setTop (entryFrame m #[(.ref t), (.int (0 : Int32)), (.int (4 : Int32)), (.int key)] 8)) tg := fun tg k => pre12 tg (by
            show own_S p e below s₁ m 48 #[rv t, iv (0 : Int32), iv (4 : Int32), iv key, iv (3 : Int32), iv (3 : Int32), iv (3 : Int32), iv x3] [(.int key), (.int x3)] _
            refine XS.icmpYes X0.here hx rfl (pc0 := 48) (pc' := 60) rfl (hb hby d6_48) rfl (flt hc48_11).2.2.2 (by decide) (by decide) ?_
            refine XS.iload X0.here hx rfl (hb hby d6_60) rfl ?_
            exact k)
          obtain ⟨fs, hr, hrun, hended, hW, hsame⟩ := X0.leave (v := some (.int (3 : Int32))) (fun h => by rw [Bd.returns] at h; cases h)
          refine ⟨_, _, pre14 _ ?_, hrun, hended, _, _, rfl, ?_, ⟨_, rfl⟩, hW, hsame.mono (by decide) (by decide)⟩
          · show own_S p e below s₁ m 62 #[rv t, iv (0 : Int32), iv (4 : Int32), iv key, iv (3 : Int32), iv (3 : Int32), iv (3 : Int32), iv x3] [(.int (3 : Int32))] _
            exact retI X0 hx Bd.returns (hb hby d6_62) hr
          · show QB4 Z t key k x0 x1 x2 x3 h0 n0 _ s₁.heap _
            rw [e0]
            exact ⟨_, rfl, N0, rfl, (Or.inr (Or.inr (Or.inr (Or.inl ⟨rfl, own_eq hc33_8 hc48_11⟩))))⟩
    ·  -- pc 33 no
      have pre16 : ∀ tg, own_S p e below s₁ m 48 #[rv t, iv (0 : Int32), iv (4 : Int32), iv key, iv (2 : Int32), iv (3 : Int32), iv (2 : Int32), iv x2] [(.int key), (.int x2)] tg → Steps p.tables e below (s₁.setTop (entryFrame m #[(.ref t), (.int (0 : Int32)), (.int (4 : Int32)), (.int key)] 8)) tg := fun tg k => pre6 tg (by
        show own_S p e below s₁ m 33 #[rv t, iv (0 : Int32), iv (4 : Int32), iv key, iv (2 : Int32), iv (3 : Int32), iv (2 : Int32), iv x2] [(.int key), (.int x2)] _
        refine XS.icmpYes X0.here hx rfl (pc0 := 33) (pc' := 45) rfl (hb hby d6_33) rfl (flt hc33_5).2.1 (by decide) (by decide) ?_
        refine XS.iload X0.here hx rfl (hb hby d6_45) rfl ?_
        refine XS.iloadN X0.here hx rfl (hb hby d6_47) rfl ?_
        exact k)
      by_cases hc48_15 : key < x2
      ·  -- pc 48 yes
        have pre17 : ∀ tg, own_S p e below s₁ m 71 #[rv t, iv (0 : Int32), iv (4 : Int32), iv key, iv (2 : Int32), iv (1 : Int32), iv (2 : Int32), iv x2] [(.int (-3 : Int32))] tg → Steps p.tables e below (s₁.setTop (entryFrame m #[(.ref t), (.int (0 : Int32)), (.int (4 : Int32)), (.int key)] 8)) tg := fun tg k => pre16 tg (by
          show own_S p e below s₁ m 48 #[rv t, iv (0 : Int32), iv (4 : Int32), iv key, iv (2 : Int32), iv (3 : Int32), iv (2 : Int32), iv x2] [(.int key), (.int x2)] _
          refine XS.icmpNo X0.here hx rfl (hb hby d6_48) rfl (tlt hc48_15).2.2.2 ?_
          refine XS.iload X0.here hx rfl (hb hby d6_51) rfl ?_
          refine XS.iconst X0.here hx rfl (hb hby d6_53) ?_
          show own_S p e below s₁ m 54 #[rv t, iv (0 : Int32), iv (4 : Int32), iv key, iv (2 : Int32), iv (3 : Int32), iv (2 : Int32), iv x2] [(.int (1 : Int32)), (.int (2 : Int32))] _
          refine XS.isub X0.here hx rfl (hb hby d6_54) rfl ?_
          refine XS.istore X0.here hx rfl (hb hby d6_55) rfl (l' := #[rv t, iv (0 : Int32), iv (4 : Int32), iv key, iv (2 : Int32), iv (1 : Int32), iv (2 : Int32), iv x2]) rfl ?_
          refine XS.goto X0.here hx rfl (pc0 := 57) (pc' := 63) rfl (hb hby d6_57) (by decide) (by decide) ?_
          show own_S p e below s₁ m 63 #[rv t, iv (0 : Int32), iv (4 : Int32), iv key, iv (2 : Int32), iv (1 : Int32), iv (2 : Int32), iv x2] [] _
          refine XS.goto X0.here hx rfl (pc0 := 63) (pc' := 8) rfl (hb hby d6_63) (by decide) (by decide) ?_
          refine XS.iload X0.here hx rfl (hb hby d6_8) rfl ?_
          refine XS.iload X0.here hx rfl (hb hby d6_10) rfl ?_
          show own_S p e below s₁ m 12 #[rv t, iv (0 : Int32), iv (4 : Int32), iv key, iv (2 : Int32), iv (1 : Int32), iv (2 : Int32), iv x2] [(.int (1 : Int32)), (.int (2 : Int32))] _
          refine XS.icmpYes X0.here hx rfl (pc0 := 12) (pc' := 66) rfl (hb hby d6_12) rfl (tlt (by decide : (1 : Int32) < (2 : Int32))).2.2.1 (by decide) (by decide) ?_
          refine XS.iload X0.here hx rfl (hb hby d6_66) rfl ?_
          refine XS.iconst X0.here hx rfl (hb hby d6_68) ?_
          show own_S p e below s₁ m 69 #[rv t, iv (0 : Int32), iv (4 : Int32), iv key, iv (2 : Int32), iv (1 : Int32), iv (2 : Int32), iv x2] [(.int (1 : Int32)), (.int (2 : Int32))] _
          refine XS.iadd X0.here hx rfl (hb hby d6_69) rfl ?_
          refine XS.ineg X0.here hx rfl (hb hby d6_70) rfl ?_
          exact k)
        obtain ⟨fs, hr, hrun, hended, hW, hsame⟩ := X0.leave (v := some (.int (-3 : Int32))) (fun h => by rw [Bd.returns] at h; cases h)
        refine ⟨_, _, pre17 _ ?_, hrun, hended, _, _, rfl, ?_, ⟨_, rfl⟩, hW, hsame.mono (by decide) (by decide)⟩
        · show own_S p e below s₁ m 71 #[rv t, iv (0 : Int32), iv (4 : Int32), iv key, iv (2 : Int32), iv (1 : Int32), iv (2 : Int32), iv x2] [(.int (-3 : Int32))] _
          exact retI X0 hx Bd.returns (hb hby d6_71) hr
        · show QB4 Z t key k x0 x1 x2 x3 h0 n0 _ s₁.heap _
          rw [e0]
          exact ⟨_, rfl, N0, rfl, (Or.inr (Or.inr (Or.inr (Or.inr (Or.inr (Or.inr (Or.inl ⟨rfl, hc33_2, hc48_15⟩)))))))⟩
      ·  -- pc 48 no
        have pre18 : ∀ tg, own_S p e below s₁ m 62 #[rv t, iv (0 : Int32), iv (4 : Int32), iv key, iv (2 : Int32), iv (3 : Int32), iv (2 : Int32), iv x2] [(.int (2 : Int32))] tg → Steps p.tables e below (s₁.setTop (entryFrame m #[(.ref t), (.int (0 : Int32)), (.int (4 : Int32)), (.int key)] 8)) tg := fun tg k => pre16 tg (by
          show own_S p e below s₁ m 48 #[rv t, iv (0 : Int32), iv (4 : Int32), iv key, iv (2 : Int32), iv (3 : Int32), iv (2 : Int32), iv x2] [(.int key), (.int x2)] _
          refine XS.icmpYes X0.here hx rfl (pc0 := 48) (pc' := 60) rfl (hb hby d6_48) rfl (flt hc48_15).2.2.2 (by decide) (by decide) ?_
          refine XS.iload X0.here hx rfl (hb hby d6_60) rfl ?_
          exact k)
        obtain ⟨fs, hr, hrun, hended, hW, hsame⟩ := X0.leave (v := some (.int (2 : Int32))) (fun h => by rw [Bd.returns] at h; cases h)
        refine ⟨_, _, pre18 _ ?_, hrun, hended, _, _, rfl, ?_, ⟨_, rfl⟩, hW, hsame.mono (by decide) (by decide)⟩
        · show own_S p e below s₁ m 62 #[rv t, iv (0 : Int32), iv (4 : Int32), iv key, iv (2 : Int32), iv (3 : Int32), iv (2 : Int32), iv x2] [(.int (2 : Int32))] _
          exact retI X0 hx Bd.returns (hb hby d6_62) hr
        · show QB4 Z t key k x0 x1 x2 x3 h0 n0 _ s₁.heap _
          rw [e0]
          exact ⟨_, rfl, N0, rfl, (Or.inr (Or.inr (Or.inl ⟨rfl, own_eq hc33_5 hc48_15⟩)))⟩
  ·  -- pc 33 no
    have pre20 : ∀ tg, own_S p e below s₁ m 48 #[rv t, iv (0 : Int32), iv (4 : Int32), iv key, iv (0 : Int32), iv (3 : Int32), iv (1 : Int32), iv x1] [(.int key), (.int x1)] tg → Steps p.tables e below (s₁.setTop (entryFrame m #[(.ref t), (.int (0 : Int32)), (.int (4 : Int32)), (.int key)] 8)) tg := fun tg k => pre3 tg (by
      show own_S p e below s₁ m 33 #[rv t, iv (0 : Int32), iv (4 : Int32), iv key, iv (0 : Int32), iv (3 : Int32), iv (1 : Int32), iv x1] [(.int key), (.int x1)] _
      refine XS.icmpYes X0.here hx rfl (pc0 := 33) (pc' := 45) rfl (hb hby d6_33) rfl (flt hc33_2).2.1 (by decide) (by decide) ?_
      refine XS.iload X0.here hx rfl (hb hby d6_45) rfl ?_
      refine XS.iloadN X0.here hx rfl (hb hby d6_47) rfl ?_
      exact k)
    by_cases hc48_19 : key < x1
    ·  -- pc 48 yes
      obtain ⟨cl21, Ar21, q21, S21, M21, H21, G21⟩ := id V_t
      have hin21 : ¬ ((0 : Int32) < 0 ∨ cl21.slots.size ≤ ((0 : Int32)).toNatClampNeg) := inb_of S21 ⟨by decide, by decide⟩
      have hat21 : cl21.slots[((0 : Int32)).toNatClampNeg]? = some (.int x0) := H21.at hin21 rfl
      have pre23 : ∀ tg, own_S p e below s₁ m 33 #[rv t, iv (0 : Int32), iv (4 : Int32), iv key, iv (0 : Int32), iv (0 : Int32), iv (0 : Int32), iv x0] [(.int key), (.int x0)] tg → Steps p.tables e below (s₁.setTop (entryFrame m #[(.ref t), (.int (0 : Int32)), (.int (4 : Int32)), (.int key)] 8)) tg := fun tg k => pre20 tg (by
        show own_S p e below s₁ m 48 #[rv t, iv (0 : Int32), iv (4 : Int32), iv key, iv (0 : Int32), iv (3 : Int32), iv (1 : Int32), iv x1] [(.int key), (.int x1)] _
        refine XS.icmpNo X0.here hx rfl (hb hby d6_48) rfl (tlt hc48_19).2.2.2 ?_
        refine XS.iload X0.here hx rfl (hb hby d6_51) rfl ?_
        refine XS.iconst X0.here hx rfl (hb hby d6_53) ?_
        show own_S p e below s₁ m 54 #[rv t, iv (0 : Int32), iv (4 : Int32), iv key, iv (0 : Int32), iv (3 : Int32), iv (1 : Int32), iv x1] [(.int (1 : Int32)), (.int (1 : Int32))] _
        refine XS.isub X0.here hx rfl (hb hby d6_54) rfl ?_
        refine XS.istore X0.here hx rfl (hb hby d6_55) rfl (l' := #[rv t, iv (0 : Int32), iv (4 : Int32), iv key, iv (0 : Int32), iv (0 : Int32), iv (1 : Int32), iv x1]) rfl ?_
        refine XS.goto X0.here hx rfl (pc0 := 57) (pc' := 63) rfl (hb hby d6_57) (by decide) (by decide) ?_
        show own_S p e below s₁ m 63 #[rv t, iv (0 : Int32), iv (4 : Int32), iv key, iv (0 : Int32), iv (0 : Int32), iv (1 : Int32), iv x1] [] _
        refine XS.goto X0.here hx rfl (pc0 := 63) (pc' := 8) rfl (hb hby d6_63) (by decide) (by decide) ?_
        refine XS.iload X0.here hx rfl (hb hby d6_8) rfl ?_
        refine XS.iload X0.here hx rfl (hb hby d6_10) rfl ?_
        show own_S p e below s₁ m 12 #[rv t, iv (0 : Int32), iv (4 : Int32), iv key, iv (0 : Int32), iv (0 : Int32), iv (1 : Int32), iv x1] [(.int (0 : Int32)), (.int (0 : Int32))] _
        refine XS.icmpNo X0.here hx rfl (hb hby d6_12) rfl (flt (by decide : ¬ ((0 : Int32) < (0 : Int32)))).2.2.1 ?_
        refine XS.iload X0.here hx rfl (hb hby d6_15) rfl ?_
        refine XS.iload X0.here hx rfl (hb hby d6_17) rfl ?_
        show own_S p e below s₁ m 19 #[rv t, iv (0 : Int32), iv (4 : Int32), iv key, iv (0 : Int32), iv (0 : Int32), iv (1 : Int32), iv x1] [(.int (0 : Int32)), (.int (0 : Int32))] _
        refine XS.iadd X0.here hx rfl (hb hby d6_19) rfl ?_
        refine XS.iconst X0.here hx rfl (hb hby d6_20) ?_
        refine XS.iushr X0.here hx rfl (hb hby d6_21) rfl ?_
        show own_S p e below s₁ m 22 #[rv t, iv (0 : Int32), iv (4 : Int32), iv key, iv (0 : Int32), iv (0 : Int32), iv (1 : Int32), iv x1] [(.int (0 : Int32))] _
        refine XS.istore X0.here hx rfl (hb hby d6_22) rfl (l' := #[rv t, iv (0 : Int32), iv (4 : Int32), iv key, iv (0 : Int32), iv (0 : Int32), iv (0 : Int32), iv x1]) rfl ?_
        refine XS.aloadN X0.here hx rfl (hb hby d6_24) rfl rfl ?_
        refine XS.iload X0.here hx rfl (hb hby d6_25) rfl ?_
        show own_S p e below s₁ m 27 #[rv t, iv (0 : Int32), iv (4 : Int32), iv key, iv (0 : Int32), iv (0 : Int32), iv (0 : Int32), iv x1] [(.int (0 : Int32)), (.ref t)] _
        refine X0.caload hx (j := (0 : Int32)) (v := (.int x0)) (by rw [e0]; exact Ar21.1) (State.isArrayOf_alike hZ.alike Ar21.2.1) Ar21.2.2 hin21 hat21 (g := (mkF m 27 #[rv t, iv (0 : Int32), iv (4 : Int32), iv key, iv (0 : Int32), iv (0 : Int32), iv (0 : Int32), iv x1] [(.int (0 : Int32)), (.ref t)])) rfl rfl (hb hby d6_27) _ ?_
        refine XS.istore X0.here hx rfl (hb hby d6_28) rfl (l' := #[rv t, iv (0 : Int32), iv (4 : Int32), iv key, iv (0 : Int32), iv (0 : Int32), iv (0 : Int32), iv x0]) rfl ?_
        refine XS.iload X0.here hx rfl (hb hby d6_30) rfl ?_
        show own_S p e below s₁ m 32 #[rv t, iv (0 : Int32), iv (4 : Int32), iv key, iv (0 : Int32), iv (0 : Int32), iv (0 : Int32), iv x0] [(.int x0)] _
        refine XS.iloadN X0.here hx rfl (hb hby d6_32) rfl ?_
        exact k)
      by_cases hc33_22 : x0 < key
      ·  -- pc 33 yes
        have pre24 : ∀ tg, own_S p e below s₁ m 71 #[rv t, iv (0 : Int32), iv (4 : Int32), iv key, iv (1 : Int32), iv (0 : Int32), iv (0 : Int32), iv x0] [(.int (-2 : Int32))] tg → Steps p.tables e below (s₁.setTop (entryFrame m #[(.ref t), (.int (0 : Int32)), (.int (4 : Int32)), (.int key)] 8)) tg := fun tg k => pre23 tg (by
          show own_S p e below s₁ m 33 #[rv t, iv (0 : Int32), iv (4 : Int32), iv key, iv (0 : Int32), iv (0 : Int32), iv (0 : Int32), iv x0] [(.int key), (.int x0)] _
          refine XS.icmpNo X0.here hx rfl (hb hby d6_33) rfl (tlt hc33_22).2.1 ?_
          refine XS.iload X0.here hx rfl (hb hby d6_36) rfl ?_
          refine XS.iconst X0.here hx rfl (hb hby d6_38) ?_
          show own_S p e below s₁ m 39 #[rv t, iv (0 : Int32), iv (4 : Int32), iv key, iv (0 : Int32), iv (0 : Int32), iv (0 : Int32), iv x0] [(.int (1 : Int32)), (.int (0 : Int32))] _
          refine XS.iadd X0.here hx rfl (hb hby d6_39) rfl ?_
          refine XS.istore X0.here hx rfl (hb hby d6_40) rfl (l' := #[rv t, iv (0 : Int32), iv (4 : Int32), iv key, iv (1 : Int32), iv (0 : Int32), iv (0 : Int32), iv x0]) rfl ?_
          refine XS.goto X0.here hx rfl (pc0 := 42) (pc' := 63) rfl (hb hby d6_42) (by decide) (by decide) ?_
          show own_S p e below s₁ m 63 #[rv t, iv (0 : Int32), iv (4 : Int32), iv key, iv (1 : Int32), iv (0 : Int32), iv (0 : Int32), iv x0] [] _
          refine XS.goto X0.here hx rfl (pc0 := 63) (pc' := 8) rfl (hb hby d6_63) (by decide) (by decide) ?_
          refine XS.iload X0.here hx rfl (hb hby d6_8) rfl ?_
          refine XS.iload X0.here hx rfl (hb hby d6_10) rfl ?_
          show own_S p e below s₁ m 12 #[rv t, iv (0 : Int32), iv (4 : Int32), iv key, iv (1 : Int32), iv (0 : Int32), iv (0 : Int32), iv x0] [(.int (0 : Int32)), (.int (1 : Int32))] _
          refine XS.icmpYes X0.here hx rfl (pc0 := 12) (pc' := 66) rfl (hb hby d6_12) rfl (tlt (by decide : (0 : Int32) < (1 : Int32))).2.2.1 (by decide) (by decide) ?_
          refine XS.iload X0.here hx rfl (hb hby d6_66) rfl ?_
          refine XS.iconst X0.here hx rfl (hb hby d6_68) ?_
          show own_S p e below s₁ m 69 #[rv t, iv (0 : Int32), iv (4 : Int32), iv key, iv (1 : Int32), iv (0 : Int32), iv (0 : Int32), iv x0] [(.int (1 : Int32)), (.int (1 : Int32))] _
          refine XS.iadd X0.here hx rfl (hb hby d6_69) rfl ?_
          refine XS.ineg X0.here hx rfl (hb hby d6_70) rfl ?_
          exact k)
        obtain ⟨fs, hr, hrun, hended, hW, hsame⟩ := X0.leave (v := some (.int (-2 : Int32))) (fun h => by rw [Bd.returns] at h; cases h)
        refine ⟨_, _, pre24 _ ?_, hrun, hended, _, _, rfl, ?_, ⟨_, rfl⟩, hW, hsame.mono (by decide) (by decide)⟩
        · show own_S p e below s₁ m 71 #[rv t, iv (0 : Int32), iv (4 : Int32), iv key, iv (1 : Int32), iv (0 : Int32), iv (0 : Int32), iv x0] [(.int (-2 : Int32))] _
          exact retI X0 hx Bd.returns (hb hby d6_71) hr
        · show QB4 Z t key k x0 x1 x2 x3 h0 n0 _ s₁.heap _
          rw [e0]
          exact ⟨_, rfl, N0, rfl, (Or.inr (Or.inr (Or.inr (Or.inr (Or.inr (Or.inl ⟨rfl, hc33_22, hc48_19⟩))))))⟩
      ·  -- pc 33 no
        have pre26 : ∀ tg, own_S p e below s₁ m 48 #[rv t, iv (0 : Int32), iv (4 : Int32), iv key, iv (0 : Int32), iv (0 : Int32), iv (0 : Int32), iv x0] [(.int key), (.int x0)] tg → Steps p.tables e below (s₁.setTop (entryFrame m #[(.ref t), (.int (0 : Int32)), (.int (4 : Int32)), (.int key)] 8)) tg := fun tg k => pre23 tg (by
          show own_S p e below s₁ m 33 #[rv t, iv (0 : Int32), iv (4 : Int32), iv key, iv (0 : Int32), iv (0 : Int32), iv (0 : Int32), iv x0] [(.int key), (.int x0)] _
          refine XS.icmpYes X0.here hx rfl (pc0 := 33) (pc' := 45) rfl (hb hby d6_33) rfl (flt hc33_22).2.1 (by decide) (by decide) ?_
          refine XS.iload X0.here hx rfl (hb hby d6_45) rfl ?_
          refine XS.iloadN X0.here hx rfl (hb hby d6_47) rfl ?_
          exact k)
        by_cases hc48_25 : key < x0
        ·  -- pc 48 yes
          have pre27 : ∀ tg, own_S p e below s₁ m 71 #[rv t, iv (0 : Int32), iv (4 : Int32), iv key, iv (0 : Int32), iv (-1 : Int32), iv (0 : Int32), iv x0] [(.int (-1 : Int32))] tg → Steps p.tables e below (s₁.setTop (entryFrame m #[(.ref t), (.int (0 : Int32)), (.int (4 : Int32)), (.int key)] 8)) tg := fun tg k => pre26 tg (by
            show own_S p e below s₁ m 48 #[rv t, iv (0 : Int32), iv (4 : Int32), iv key, iv (0 : Int32), iv (0 : Int32), iv (0 : Int32), iv x0] [(.int key), (.int x0)] _
            refine XS.icmpNo X0.here hx rfl (hb hby d6_48) rfl (tlt hc48_25).2.2.2 ?_
            refine XS.iload X0.here hx rfl (hb hby d6_51) rfl ?_
            refine XS.iconst X0.here hx rfl (hb hby d6_53) ?_
            show own_S p e below s₁ m 54 #[rv t, iv (0 : Int32), iv (4 : Int32), iv key, iv (0 : Int32), iv (0 : Int32), iv (0 : Int32), iv x0] [(.int (1 : Int32)), (.int (0 : Int32))] _
            refine XS.isub X0.here hx rfl (hb hby d6_54) rfl ?_
            refine XS.istore X0.here hx rfl (hb hby d6_55) rfl (l' := #[rv t, iv (0 : Int32), iv (4 : Int32), iv key, iv (0 : Int32), iv (-1 : Int32), iv (0 : Int32), iv x0]) rfl ?_
            refine XS.goto X0.here hx rfl (pc0 := 57) (pc' := 63) rfl (hb hby d6_57) (by decide) (by decide) ?_
            show own_S p e below s₁ m 63 #[rv t, iv (0 : Int32), iv (4 : Int32), iv key, iv (0 : Int32), iv (-1 : Int32), iv (0 : Int32), iv x0] [] _
            refine XS.goto X0.here hx rfl (pc0 := 63) (pc' := 8) rfl (hb hby d6_63) (by decide) (by decide) ?_
            refine XS.iload X0.here hx rfl (hb hby d6_8) rfl ?_
            refine XS.iload X0.here hx rfl (hb hby d6_10) rfl ?_
            show own_S p e below s₁ m 12 #[rv t, iv (0 : Int32), iv (4 : Int32), iv key, iv (0 : Int32), iv (-1 : Int32), iv (0 : Int32), iv x0] [(.int (-1 : Int32)), (.int (0 : Int32))] _
            refine XS.icmpYes X0.here hx rfl (pc0 := 12) (pc' := 66) rfl (hb hby d6_12) rfl (tlt (by decide : (-1 : Int32) < (0 : Int32))).2.2.1 (by decide) (by decide) ?_
            refine XS.iload X0.here hx rfl (hb hby d6_66) rfl ?_
            refine XS.iconst X0.here hx rfl (hb hby d6_68) ?_
            show own_S p e below s₁ m 69 #[rv t, iv (0 : Int32), iv (4 : Int32), iv key, iv (0 : Int32), iv (-1 : Int32), iv (0 : Int32), iv x0] [(.int (1 : Int32)), (.int (0 : Int32))] _
            refine XS.iadd X0.here hx rfl (hb hby d6_69) rfl ?_
            refine XS.ineg X0.here hx rfl (hb hby d6_70) rfl ?_
            exact k)
          obtain ⟨fs, hr, hrun, hended, hW, hsame⟩ := X0.leave (v := some (.int (-1 : Int32))) (fun h => by rw [Bd.returns] at h; cases h)
          refine ⟨_, _, pre27 _ ?_, hrun, hended, _, _, rfl, ?_, ⟨_, rfl⟩, hW, hsame.mono (by decide) (by decide)⟩
          · show own_S p e below s₁ m 71 #[rv t, iv (0 : Int32), iv (4 : Int32), iv key, iv (0 : Int32), iv (-1 : Int32), iv (0 : Int32), iv x0] [(.int (-1 : Int32))] _
            exact retI X0 hx Bd.returns (hb hby d6_71) hr
          · show QB4 Z t key k x0 x1 x2 x3 h0 n0 _ s₁.heap _
            rw [e0]
            exact ⟨_, rfl, N0, rfl, (Or.inr (Or.inr (Or.inr (Or.inr (Or.inl ⟨rfl, hc48_25⟩)))))⟩
        ·  -- pc 48 no
          have pre28 : ∀ tg, own_S p e below s₁ m 62 #[rv t, iv (0 : Int32), iv (4 : Int32), iv key, iv (0 : Int32), iv (0 : Int32), iv (0 : Int32), iv x0] [(.int (0 : Int32))] tg → Steps p.tables e below (s₁.setTop (entryFrame m #[(.ref t), (.int (0 : Int32)), (.int (4 : Int32)), (.int key)] 8)) tg := fun tg k => pre26 tg (by
            show own_S p e below s₁ m 48 #[rv t, iv (0 : Int32), iv (4 : Int32), iv key, iv (0 : Int32), iv (0 : Int32), iv (0 : Int32), iv x0] [(.int key), (.int x0)] _
            refine XS.icmpYes X0.here hx rfl (pc0 := 48) (pc' := 60) rfl (hb hby d6_48) rfl (flt hc48_25).2.2.2 (by decide) (by decide) ?_
            refine XS.iload X0.here hx rfl (hb hby d6_60) rfl ?_
            exact k)
          obtain ⟨fs, hr, hrun, hended, hW, hsame⟩ := X0.leave (v := some (.int (0 : Int32))) (fun h => by rw [Bd.returns] at h; cases h)
          refine ⟨_, _, pre28 _ ?_, hrun, hended, _, _, rfl, ?_, ⟨_, rfl⟩, hW, hsame.mono (by decide) (by decide)⟩
          · show own_S p e below s₁ m 62 #[rv t, iv (0 : Int32), iv (4 : Int32), iv key, iv (0 : Int32), iv (0 : Int32), iv (0 : Int32), iv x0] [(.int (0 : Int32))] _
            exact retI X0 hx Bd.returns (hb hby d6_62) hr
          · show QB4 Z t key k x0 x1 x2 x3 h0 n0 _ s₁.heap _
            rw [e0]
            exact ⟨_, rfl, N0, rfl, (Or.inl ⟨rfl, own_eq hc33_22 hc48_25⟩)⟩
    ·  -- pc 48 no
      have pre29 : ∀ tg, own_S p e below s₁ m 62 #[rv t, iv (0 : Int32), iv (4 : Int32), iv key, iv (0 : Int32), iv (3 : Int32), iv (1 : Int32), iv x1] [(.int (1 : Int32))] tg → Steps p.tables e below (s₁.setTop (entryFrame m #[(.ref t), (.int (0 : Int32)), (.int (4 : Int32)), (.int key)] 8)) tg := fun tg k => pre20 tg (by
        show own_S p e below s₁ m 48 #[rv t, iv (0 : Int32), iv (4 : Int32), iv key, iv (0 : Int32), iv (3 : Int32), iv (1 : Int32), iv x1] [(.int key), (.int x1)] _
        refine XS.icmpYes X0.here hx rfl (pc0 := 48) (pc' := 60) rfl (hb hby d6_48) rfl (flt hc48_19).2.2.2 (by decide) (by decide) ?_
        refine XS.iload X0.here hx rfl (hb hby d6_60) rfl ?_
        exact k)
      obtain ⟨fs, hr, hrun, hended, hW, hsame⟩ := X0.leave (v := some (.int (1 : Int32))) (fun h => by rw [Bd.returns] at h; cases h)
      refine ⟨_, _, pre29 _ ?_, hrun, hended, _, _, rfl, ?_, ⟨_, rfl⟩, hW, hsame.mono (by decide) (by decide)⟩
      · show own_S p e below s₁ m 62 #[rv t, iv (0 : Int32), iv (4 : Int32), iv key, iv (0 : Int32), iv (3 : Int32), iv (1 : Int32), iv x1] [(.int (1 : Int32))] _
        exact retI X0 hx Bd.returns (hb hby d6_62) hr
      · show QB4 Z t key k x0 x1 x2 x3 h0 n0 _ s₁.heap _
        rw [e0]
        exact ⟨_, rfl, N0, rfl, (Or.inr (Or.inl ⟨rfl, own_eq hc33_2 hc48_19⟩))⟩
theorem ef_S4 (m : MethodId) (t : Addr) (key : Int32) : entryFrame m #[(.ref t), (.int (0 : Int32)), (.int (4 : Int32)), (.int key)] 4 = mkF m 0 #[rv t, iv (0 : Int32), iv (4 : Int32), iv key] [] := by first | (simp [entryFrame, mkF, argsToLocals, Value.category]; done) | rfl
def QS4 (Z : State) (t : Addr) (key : Int32) (k : ClassId) (x0 : Int32) (x1 : Int32) (x2 : Int32) (x3 : Int32) (h0 : Heap) (n0 : Nat) (v : Option Value) (h : Heap) (L : List Loc) : Prop := ∃ r : Int32, v = some (.int r) ∧ Fr n0 L ∧ h = h0 ∧ ((r = 0 ∧ x0 = key) ∨ (r = 1 ∧ x1 = key) ∨ (r = 2 ∧ x2 = key) ∨ (r = 3 ∧ x3 = key) ∨ (r = -1 ∧ key < x0) ∨ (r = -2 ∧ x0 < key ∧ key < x1) ∨ (r = -3 ∧ x1 < key ∧ key < x2) ∨ (r = -4 ∧ x2 < key ∧ key < x3) ∨ (r = -5 ∧ x3 < key))
set_option maxRecDepth 65536 in
set_option maxHeartbeats 40000000 in
theorem rmS4 (l : Launch) (Z : State) (a0 : Array Value) (hw : ∀ d ∈ tables_1, d.before a0 Z = true) (ws : List Jvm.Cond) (t : Addr) (key : Int32) (k : ClassId) (x0 : Int32) (x1 : Int32) (x2 : Int32) (x3 : Int32) (h0 : Heap) (n0 : Nat) (Z0 : n0 ≤ h0.size) (V_t : Arv Z h0 t k .char (4 : Int32) [(.int x0), (.int x1), (.int x2), (.int x3)] (.int (0 : Int32))) :
    MetFree l (⟨"java/util/Arrays", "binarySearch", "([CIIC)I"⟩ : MethodName) (head1 (Jvm.Cond.code (⟨"java/util/Arrays", "binarySearch", "([CIIC)I"⟩ : MethodName) jdk_65_method_64_code 4 (some .int) :: ws) ({ frames := 1, cells := 0, slots := 0, locals := 24 } : Room)) (fun a U => a = #[(.ref t), (.int (0 : Int32)), (.int (4 : Int32)), (.int key)] ∧ Z.Warmed39 U.vm ∧ U.heap = h0) (fun _ _ _ _ _ => True) (fun _ U o U' => ∃ v L, o = .returned v ∧ QS4 Z t key k x0 x1 x2 x3 h0 n0 v U'.heap L ∧ FrameEnd U o U' L ({ frames := 1, cells := 0, slots := 0, locals := 24 } : Room).cells ({ frames := 1, cells := 0, slots := 0, locals := 24 } : Room).slots) := by
  refine MetFree.of_bodySF (plainFor_of_name pn_1) hisR ?_
  intro p e s m args below meth c s₁ Bd hml0 hP hK
  obtain ⟨rfl, hZ, hh⟩ := hP
  have hx := Bd.exec
  have hby := Bd.bytes
  have hml : c.maxLocals = 4 := hml0
  have hown : s.vm.findClass "java/util/Arrays" = some m.cls := findClass_of_methodNamed Bd.named
  have hnm := (name_of_methodNamed Bd.named Bd.method).1
  have X0 : Stand p l e ({ frames := 1, cells := 0, slots := 0, locals := 24 } : Room) s m #[(.ref t), (.int (0 : Int32)), (.int (4 : Int32)), (.int key)] below meth c s₁ [] 0 0 := Stand.of_body Bd
  have e0 : s₁.heap = h0 := by rw [← hh, Bd.state]; rfl
  have N0 := Fr.nil n0
  have pre0 : ∀ tg, Steps p.tables e below (s₁.setTop (mkF m 0 #[rv t, iv (0 : Int32), iv (4 : Int32), iv key] [])) tg → Steps p.tables e below (s₁.setTop (entryFrame m #[(.ref t), (.int (0 : Int32)), (.int (4 : Int32)), (.int key)] 4)) tg := fun tg k => castTop (ef_S4 m t key) k
  obtain ⟨cl1, Ar1, q1, S1, M1, -, -⟩ := id V_t
  obtain ⟨_, _, ⟨T2, L2, k2, n2⟩, -, X2, ⟨Lc2, hQ2, l2, y2, z2⟩, st2⟩ := Jvm.LawKit.callS X0 hx (y := (⟨"java/util/Arrays", "rangeCheck", "(III)V"⟩ : MethodName)) hown (mvT hZ (hw _ (List.mem_of_getElem? (i := 29) rfl))) (mvT hZ (hw _ (List.mem_of_getElem? (i := 30) rfl))) (mvT hZ (hw _ (List.mem_of_getElem? (i := 27) rfl))) (mvT hZ (hw _ (List.mem_of_getElem? (i := 31) rfl))) (by decide) (backOf (W := 0) (rmRC l Z a0 hw [] (4 : Int32) (0 : Int32) (4 : Int32) h0 n0 Z0 (by decide) (by decide) (by decide)) hZ (hw _ (List.mem_of_getElem? (i := 31) rfl)) (hw _ (List.mem_of_getElem? (i := 27) rfl)) (by decide) (by decide)) (g := (mkF m 4 #[rv t, iv (0 : Int32), iv (4 : Int32), iv key] [(.int (4 : Int32)), (.int (0 : Int32)), (.int (4 : Int32))])) rfl (by rw [hml]; rfl) (argsL := [(.int (4 : Int32)), (.int (0 : Int32)), (.int (4 : Int32))]) (rest := []) (lenOf pd_0 rfl) rfl (by show 2 * 0 + _ ≤ _; exact Nat.le_of_eq rfl) (hb hby d4_4) (fun _ _ => ⟨rfl, e0, (by decide : 0 + 0 ≤ _), (by decide : 0 + 0 ≤ _)⟩)
  dsimp only [Pt.U, Pt.locs, Pt.cells, Pt.slots] at X2 l2 y2 z2 st2 hQ2
  subst l2 y2 z2
  obtain ⟨rfl, N2q, e2q⟩ := hQ2
  have N2 := Fr.app N0 N2q
  have e2 : T2.heap = h0 := e2q
  obtain ⟨_, _, ⟨T3, L3, k3, n3⟩, -, X3, ⟨Lc3, hQ3, l3, y3, z3⟩, st3⟩ := Jvm.LawKit.callS X2 hx (y := (⟨"java/util/Arrays", "binarySearch0", "([CIIC)I"⟩ : MethodName)) hown (mvT hZ (hw _ (List.mem_of_getElem? (i := 32) rfl))) (mvT hZ (hw _ (List.mem_of_getElem? (i := 33) rfl))) (mvT hZ (hw _ (List.mem_of_getElem? (i := 27) rfl))) (mvT hZ (hw _ (List.mem_of_getElem? (i := 34) rfl))) (by decide) (backOf (W := 0) (rmB4 l Z a0 hw [] t key k x0 x1 x2 x3 h0 n0 Z0 V_t) hZ (hw _ (List.mem_of_getElem? (i := 34) rfl)) (hw _ (List.mem_of_getElem? (i := 27) rfl)) (by decide) (by decide)) (g := (mkF m 11 #[rv t, iv (0 : Int32), iv (4 : Int32), iv key] [(.int key), (.int (4 : Int32)), (.int (0 : Int32)), (.ref t)])) rfl (by rw [hml]; rfl) (argsL := [(.ref t), (.int (0 : Int32)), (.int (4 : Int32)), (.int key)]) (rest := []) (lenOf pd_1 rfl) rfl (by show 2 * 0 + _ ≤ _; exact Nat.le_of_eq rfl) (hb hby d4_11) (fun _ _ => ⟨rfl, e2, (by decide : 0 + 0 ≤ _), (by decide : 0 + 0 ≤ _)⟩)
  dsimp only [Pt.U, Pt.locs, Pt.cells, Pt.slots] at X3 l3 y3 z3 st3 hQ3
  subst l3 y3 z3
  obtain ⟨r3, rfl, N3q, e3q, hD3⟩ := hQ3
  have N3 := Fr.app N2 N3q
  have e3 : T3.heap = h0 := e3q
  have pre4 : ∀ tg, own_S p e below T3 m 14 #[rv t, iv (0 : Int32), iv (4 : Int32), iv key] [(.int r3)] tg → Steps p.tables e below (s₁.setTop (entryFrame m #[(.ref t), (.int (0 : Int32)), (.int (4 : Int32)), (.int key)] 4)) tg := fun tg k => pre0 tg (by
    show own_S p e below s₁ m 0 #[rv t, iv (0 : Int32), iv (4 : Int32), iv key] [] _
    refine XS.aloadN X0.here hx rfl (hb hby d4_0) rfl rfl ?_
    refine X0.arraylength hx (by rw [e0]; exact Ar1.1) (State.isArrayOf_alike hZ.alike Ar1.2.1) (g := (mkF m 1 #[rv t, iv (0 : Int32), iv (4 : Int32), iv key] [(.ref t)])) rfl rfl (hb hby d4_1) _ ?_
    rw [len_of S1 M1]
    refine XS.iloadN X0.here hx rfl (hb hby d4_2) rfl ?_
    show own_S p e below s₁ m 3 #[rv t, iv (0 : Int32), iv (4 : Int32), iv key] [(.int (0 : Int32)), (.int (4 : Int32))] _
    refine XS.iloadN X0.here hx rfl (hb hby d4_3) rfl ?_
    refine st2 _ ?_
    refine XS.aloadN X2.here hx rfl (hb hby d4_7) rfl rfl ?_
    show own_S p e below T2 m 8 #[rv t, iv (0 : Int32), iv (4 : Int32), iv key] [(.ref t)] _
    refine XS.iloadN X2.here hx rfl (hb hby d4_8) rfl ?_
    refine XS.iloadN X2.here hx rfl (hb hby d4_9) rfl ?_
    refine XS.iloadN X2.here hx rfl (hb hby d4_10) rfl ?_
    show own_S p e below T2 m 11 #[rv t, iv (0 : Int32), iv (4 : Int32), iv key] [(.int key), (.int (4 : Int32)), (.int (0 : Int32)), (.ref t)] _
    refine st3 _ ?_
    exact k)
  obtain ⟨fs, hr, hrun, hended, hW, hsame⟩ := X3.leave (v := some (.int r3)) (fun h => by rw [Bd.returns] at h; cases h)
  refine ⟨_, _, pre4 _ ?_, hrun, hended, _, _, rfl, ?_, ⟨_, rfl⟩, hW, hsame.mono (by decide) (by decide)⟩
  · show own_S p e below T3 m 14 #[rv t, iv (0 : Int32), iv (4 : Int32), iv key] [(.int r3)] _
    exact retI X3 hx Bd.returns (hb hby d4_14) hr
  · show QS4 Z t key k x0 x1 x2 x3 h0 n0 _ T3.heap _
    rw [e3]
    exact ⟨_, rfl, N3, rfl, hD3⟩
def own_min (p q : Int32) : Int32 := if q < p then q else p
theorem ef_Min (m : MethodId) (p1 : Int32) (p2 : Int32) : entryFrame m #[(.int p1), (.int p2)] 2 = mkF m 0 #[iv p1, iv p2] [] := by first | (simp [entryFrame, mkF, argsToLocals, Value.category]; done) | rfl
def QMin (Z : State) (p1 : Int32) (p2 : Int32) (h0 : Heap) (n0 : Nat) (v : Option Value) (h : Heap) (L : List Loc) : Prop := v = some (.int (own_min p1 p2)) ∧ Fr n0 L ∧ h = h0
theorem d9_0 : decode jdk_29_method_69_code 0 = .ok (.iload_n 0, 1) := by decide +kernel
theorem d9_1 : decode jdk_29_method_69_code 1 = .ok (.iload_n 1, 1) := by decide +kernel
theorem d9_2 : decode jdk_29_method_69_code 2 = .ok (.if_icmp .gt 7, 3) := by decide +kernel
theorem d9_9 : decode jdk_29_method_69_code 9 = .ok (.iload_n 1, 1) := by decide +kernel
theorem d9_10 : decode jdk_29_method_69_code 10 = .ok (.ireturn, 1) := by decide +kernel
theorem d9_5 : decode jdk_29_method_69_code 5 = .ok (.iload_n 0, 1) := by decide +kernel
theorem d9_6 : decode jdk_29_method_69_code 6 = .ok (.goto 4, 3) := by decide +kernel
set_option maxRecDepth 65536 in
set_option maxHeartbeats 40000000 in
theorem rmMin (l : Launch) (Z : State) (a0 : Array Value) (hw : ∀ d ∈ tables_1, d.before a0 Z = true) (ws : List Jvm.Cond) (p1 : Int32) (p2 : Int32) (h0 : Heap) (n0 : Nat) (Z0 : n0 ≤ h0.size)  :
    MetFree l (⟨"java/lang/Math", "min", "(II)I"⟩ : MethodName) (head1 (Jvm.Cond.code (⟨"java/lang/Math", "min", "(II)I"⟩ : MethodName) jdk_29_method_69_code 2 (some .int) :: ws) ({ frames := 0, cells := 0, slots := 0, locals := 0 } : Room)) (fun a U => a = #[(.int p1), (.int p2)] ∧ Z.Warmed39 U.vm ∧ U.heap = h0) (fun _ _ _ _ _ => True) (fun _ U o U' => ∃ v L, o = .returned v ∧ QMin Z p1 p2 h0 n0 v U'.heap L ∧ FrameEnd U o U' L ({ frames := 0, cells := 0, slots := 0, locals := 0 } : Room).cells ({ frames := 0, cells := 0, slots := 0, locals := 0 } : Room).slots) := by
  refine MetFree.of_bodySF (Jvm.Free.JP.mathPlain rfl (by decide +kernel)) hisR ?_
  intro p e s m args below meth c s₁ Bd hml0 hP hK
  obtain ⟨rfl, hZ, hh⟩ := hP
  have hx := Bd.exec
  have hby := Bd.bytes
  have hml : c.maxLocals = 2 := hml0
  have hown : s.vm.findClass "java/lang/Math" = some m.cls := findClass_of_methodNamed Bd.named
  have hnm := (name_of_methodNamed Bd.named Bd.method).1
  have X0 : Stand p l e ({ frames := 0, cells := 0, slots := 0, locals := 0 } : Room) s m #[(.int p1), (.int p2)] below meth c s₁ [] 0 0 := Stand.of_body Bd
  have e0 : s₁.heap = h0 := by rw [← hh, Bd.state]; rfl
  have N0 := Fr.nil n0
  have pre0 : ∀ tg, Steps p.tables e below (s₁.setTop (mkF m 0 #[iv p1, iv p2] [])) tg → Steps p.tables e below (s₁.setTop (entryFrame m #[(.int p1), (.int p2)] 2)) tg := fun tg k => castTop (ef_Min m p1 p2) k
  have pre2 : ∀ tg, own_S p e below s₁ m 2 #[iv p1, iv p2] [(.int p2), (.int p1)] tg → Steps p.tables e below (s₁.setTop (entryFrame m #[(.int p1), (.int p2)] 2)) tg := fun tg k => pre0 tg (by
    show own_S p e below s₁ m 0 #[iv p1, iv p2] [] _
    refine XS.iloadN X0.here hx rfl (hb hby d9_0) rfl ?_
    refine XS.iloadN X0.here hx rfl (hb hby d9_1) rfl ?_
    exact k)
  by_cases hc2_1 : p2 < p1
  ·  -- pc 2 yes
    have pre3 : ∀ tg, own_S p e below s₁ m 10 #[iv p1, iv p2] [(.int p2)] tg → Steps p.tables e below (s₁.setTop (entryFrame m #[(.int p1), (.int p2)] 2)) tg := fun tg k => pre2 tg (by
      show own_S p e below s₁ m 2 #[iv p1, iv p2] [(.int p2), (.int p1)] _
      refine XS.icmpYes X0.here hx rfl (pc0 := 2) (pc' := 9) rfl (hb hby d9_2) rfl (tlt hc2_1).2.2.1 (by decide) (by decide) ?_
      refine XS.iloadN X0.here hx rfl (hb hby d9_9) rfl ?_
      exact k)
    obtain ⟨fs, hr, hrun, hended, hW, hsame⟩ := X0.leave (v := some (.int p2)) (fun h => by rw [Bd.returns] at h; cases h)
    refine ⟨_, _, pre3 _ ?_, hrun, hended, _, _, rfl, ?_, ⟨_, rfl⟩, hW, hsame.mono (by decide) (by decide)⟩
    · show own_S p e below s₁ m 10 #[iv p1, iv p2] [(.int p2)] _
      exact retI X0 hx Bd.returns (hb hby d9_10) hr
    · show QMin Z p1 p2 h0 n0 _ s₁.heap _
      rw [e0]
      exact ⟨by simp [own_min, hc2_1], N0, rfl⟩
  ·  -- pc 2 no
    have pre4 : ∀ tg, own_S p e below s₁ m 10 #[iv p1, iv p2] [(.int p1)] tg → Steps p.tables e below (s₁.setTop (entryFrame m #[(.int p1), (.int p2)] 2)) tg := fun tg k => pre2 tg (by
      show own_S p e below s₁ m 2 #[iv p1, iv p2] [(.int p2), (.int p1)] _
      refine XS.icmpNo X0.here hx rfl (hb hby d9_2) rfl (flt hc2_1).2.2.1 ?_
      refine XS.iloadN X0.here hx rfl (hb hby d9_5) rfl ?_
      refine XS.goto X0.here hx rfl (pc0 := 6) (pc' := 10) rfl (hb hby d9_6) (by decide) (by decide) ?_
      exact k)
    obtain ⟨fs, hr, hrun, hended, hW, hsame⟩ := X0.leave (v := some (.int p1)) (fun h => by rw [Bd.returns] at h; cases h)
    refine ⟨_, _, pre4 _ ?_, hrun, hended, _, _, rfl, ?_, ⟨_, rfl⟩, hW, hsame.mono (by decide) (by decide)⟩
    · show own_S p e below s₁ m 10 #[iv p1, iv p2] [(.int p1)] _
      exact retI X0 hx Bd.returns (hb hby d9_10) hr
    · show QMin Z p1 p2 h0 n0 _ s₁.heap _
      rw [e0]
      exact ⟨by simp [own_min, hc2_1], N0, rfl⟩
theorem ef_Co (m : MethodId) (t : Addr) : entryFrame m #[(.ref t), (.int (8 : Int32))] 3 = mkF m 0 #[rv t, iv (8 : Int32), .unset] [] := by first | (simp [entryFrame, mkF, argsToLocals, Value.category]; done) | rfl
def QCo (Z : State) (t : Addr) (k : ClassId) (x0 : Int32) (x1 : Int32) (x2 : Int32) (x3 : Int32) (h0 : Heap) (n0 : Nat) (v : Option Value) (h : Heap) (L : List Loc) : Prop := ∃ (b : Addr) (kb : ClassId), v = some (.ref b) ∧ Fr n0 L ∧ Keep h0 h [] ∧ Arv Z h b kb .char (8 : Int32) [(.int x0), (.int x1), (.int x2), (.int x3), (.int (0 : Int32)), (.int (0 : Int32)), (.int (0 : Int32)), (.int (0 : Int32))] (.int (0 : Int32)) ∧ n0 ≤ b ∧ h0.size ≤ b
theorem d10_0 : decode jdk_65_method_125_code 0 = .ok (.iload_n 1, 1) := by decide +kernel
theorem d10_1 : decode jdk_65_method_125_code 1 = .ok (.aload_n 0, 1) := by decide +kernel
theorem d10_2 : decode jdk_65_method_125_code 2 = .ok (.arraylength, 1) := by decide +kernel
theorem d10_3 : decode jdk_65_method_125_code 3 = .ok (.if_icmp .ne 11, 3) := by decide +kernel
theorem d10_14 : decode jdk_65_method_125_code 14 = .ok (.iload_n 1, 1) := by decide +kernel
theorem d10_15 : decode jdk_65_method_125_code 15 = .ok (.newarray .char, 2) := by decide +kernel
theorem d10_17 : decode jdk_65_method_125_code 17 = .ok (.astore_n 2, 1) := by decide +kernel
theorem d10_18 : decode jdk_65_method_125_code 18 = .ok (.aload_n 0, 1) := by decide +kernel
theorem d10_19 : decode jdk_65_method_125_code 19 = .ok (.iconst 0, 1) := by decide +kernel
theorem d10_20 : decode jdk_65_method_125_code 20 = .ok (.aload_n 2, 1) := by decide +kernel
theorem d10_21 : decode jdk_65_method_125_code 21 = .ok (.iconst 0, 1) := by decide +kernel
theorem d10_22 : decode jdk_65_method_125_code 22 = .ok (.aload_n 0, 1) := by decide +kernel
theorem d10_23 : decode jdk_65_method_125_code 23 = .ok (.arraylength, 1) := by decide +kernel
theorem d10_24 : decode jdk_65_method_125_code 24 = .ok (.iload_n 1, 1) := by decide +kernel
theorem d10_25 : decode jdk_65_method_125_code 25 = .ok (.invokestatic 304, 3) := by decide +kernel
theorem pd_2 : parseMethodDescriptor "(II)I" = some ⟨[.int, .int], some .int⟩ := by decide +kernel
theorem d10_28 : decode jdk_65_method_125_code 28 = .ok (.invokestatic 150, 3) := by decide +kernel
theorem d10_31 : decode jdk_65_method_125_code 31 = .ok (.aload_n 2, 1) := by decide +kernel
theorem d10_32 : decode jdk_65_method_125_code 32 = .ok (.areturn, 1) := by decide +kernel
set_option maxRecDepth 65536 in
set_option maxHeartbeats 40000000 in
theorem rmCo (l : Launch) (Z : State) (a0 : Array Value) (hw : ∀ d ∈ tables_1, d.before a0 Z = true) (ws : List Jvm.Cond) (t : Addr) (k : ClassId) (x0 : Int32) (x1 : Int32) (x2 : Int32) (x3 : Int32) (h0 : Heap) (n0 : Nat) (Z0 : n0 ≤ h0.size) (V_t : Arv Z h0 t k .char (4 : Int32) [(.int x0), (.int x1), (.int x2), (.int x3)] (.int (0 : Int32))) :
    MetFree l (⟨"java/util/Arrays", "copyOf", "([CI)[C"⟩ : MethodName) (head1 (Jvm.Cond.code (⟨"java/util/Arrays", "copyOf", "([CI)[C"⟩ : MethodName) jdk_65_method_125_code 3 (some (.array .char)) :: ws) ({ frames := 1, cells := 1, slots := 8, locals := 64 } : Room)) (fun a U => a = #[(.ref t), (.int (8 : Int32))] ∧ Z.Warmed39 U.vm ∧ U.heap = h0) (fun _ _ _ _ _ => True) (fun _ U o U' => ∃ v L, o = .returned v ∧ QCo Z t k x0 x1 x2 x3 h0 n0 v U'.heap L ∧ FrameEnd U o U' L ({ frames := 1, cells := 1, slots := 8, locals := 64 } : Room).cells ({ frames := 1, cells := 1, slots := 8, locals := 64 } : Room).slots) := by
  refine MetFree.of_bodySF (plainFor_of_name pn_1) hisR ?_
  intro p e s m args below meth c s₁ Bd hml0 hP hK
  obtain ⟨rfl, hZ, hh⟩ := hP
  have hx := Bd.exec
  have hby := Bd.bytes
  have hml : c.maxLocals = 3 := hml0
  have hown : s.vm.findClass "java/util/Arrays" = some m.cls := findClass_of_methodNamed Bd.named
  have hnm := (name_of_methodNamed Bd.named Bd.method).1
  have X0 : Stand p l e ({ frames := 1, cells := 1, slots := 8, locals := 64 } : Room) s m #[(.ref t), (.int (8 : Int32))] below meth c s₁ [] 0 0 := Stand.of_body Bd
  have e0 : s₁.heap = h0 := by rw [← hh, Bd.state]; rfl
  have N0 := Fr.nil n0
  have pre0 : ∀ tg, Steps p.tables e below (s₁.setTop (mkF m 0 #[rv t, iv (8 : Int32), .unset] [])) tg → Steps p.tables e below (s₁.setTop (entryFrame m #[(.ref t), (.int (8 : Int32))] 3)) tg := fun tg k => castTop (ef_Co m t) k
  obtain ⟨cl1, Ar1, q1, S1, M1, -, -⟩ := id V_t
  obtain ⟨T2, h2, k2, X2, e2, E2, A2, st2⟩ := newP X0 hx hZ (hw _ (List.mem_of_getElem? (i := 11) rfl)) e0 (g := (mkF m 15 #[rv t, iv (8 : Int32), .unset] [(.int (8 : Int32))])) rfl (hb hby d10_15) rfl (by decide) (cap := 8) (by decide) (by decide) (by decide) (by decide)
  obtain ⟨b2, g2⟩ : ∃ z, z = h0.size := ⟨_, rfl⟩
  rw [← g2] at A2 st2
  have g_b2 : n0 ≤ b2 := Nat.le_trans Z0 (Nat.le_of_eq g2.symm)
  have sz_b2 : h0.size ≤ b2 := Nat.le_trans ((Keep.refl h0 [])).1 (Nat.le_of_eq g2.symm)
  have ne_t_b2 : t ≠ b2 := Nat.ne_of_lt (Nat.lt_of_lt_of_le V_t.lt (Nat.le_of_eq g2.symm))
  have V_b2 : Arv Z h2 b2 k2 .char (8 : Int32) [(.int (0 : Int32)), (.int (0 : Int32)), (.int (0 : Int32)), (.int (0 : Int32)), (.int (0 : Int32)), (.int (0 : Int32)), (.int (0 : Int32)), (.int (0 : Int32))] (.int (0 : Int32)) := (Arv.new A2 (by decide)).pad (pad_rep [] (.int (0 : Int32)) 8)
  have Vn_3 := (V_t.ext E2)
  obtain ⟨cl4, Ar4, q4, S4, M4, -, -⟩ := id Vn_3
  have Zs6 : n0 ≤ h2.size := (Nat.le_trans Z0 E2.1)
  obtain ⟨_, _, ⟨T5, L5, k5, n5⟩, -, X5, ⟨Lc5, hQ5, l5, y5, z5⟩, st5⟩ := Jvm.LawKit.callS X2 hx (y := (⟨"java/lang/Math", "min", "(II)I"⟩ : MethodName)) hown (mvT hZ (hw _ (List.mem_of_getElem? (i := 57) rfl))) (mvT hZ (hw _ (List.mem_of_getElem? (i := 52) rfl))) (mvT hZ (hw _ (List.mem_of_getElem? (i := 41) rfl))) (mvT hZ (hw _ (List.mem_of_getElem? (i := 53) rfl))) (by decide) (backOf (W := 4) (rmMin l Z a0 hw [] (4 : Int32) (8 : Int32) h2 n0 Zs6 ) hZ (hw _ (List.mem_of_getElem? (i := 53) rfl)) (hw _ (List.mem_of_getElem? (i := 41) rfl)) (by decide) (by decide)) (g := (mkF m 25 #[rv t, iv (8 : Int32), rv b2] [(.int (8 : Int32)), (.int (4 : Int32)), (.int (0 : Int32)), (.ref b2), (.int (0 : Int32)), (.ref t)])) rfl (by rw [hml]; rfl) (argsL := [(.int (4 : Int32)), (.int (8 : Int32))]) (rest := [(.int (0 : Int32)), (.ref b2), (.int (0 : Int32)), (.ref t)]) (lenOf pd_2 rfl) rfl (by show 2 * 0 + _ ≤ _; exact Nat.le_of_eq rfl) (hb hby d10_25) (fun _ _ => ⟨rfl, e2, (by decide : 1 + 0 ≤ _), (by decide : 8 + 0 ≤ _)⟩)
  dsimp only [Pt.U, Pt.locs, Pt.cells, Pt.slots] at X5 l5 y5 z5 st5 hQ5
  subst l5 y5 z5
  obtain ⟨hv5, N5q, e5q⟩ := hQ5
  have N5 := Fr.app N0 N5q
  rw [show own_min (4 : Int32) (8 : Int32) = (4 : Int32) from by decide] at hv5
  subst hv5
  have e5 : T5.heap = h2 := e5q
  obtain ⟨T7, h7, L7, X7, e7, N7, K7, Vc7, st7⟩ := cpA X5 hx hZ hown (hw _ (List.mem_of_getElem? (i := 58) rfl)) (hw _ (List.mem_of_getElem? (i := 38) rfl)) (hw _ (List.mem_of_getElem? (i := 36) rfl)) (hw _ (List.mem_of_getElem? (i := 37) rfl)) e5 (us := [(.int x0), (.int x1), (.int x2), (.int x3)]) (sp := (0 : Int32)) (dp := (0 : Int32)) (nn := (4 : Int32)) Vn_3 V_b2 (Or.inl ⟨rfl, rfl⟩) (by decide) (by decide) (by decide) (by decide) (by decide) rfl (Nat.le_of_ble_eq_true rfl) N5 g_b2 (g := (mkF m 28 #[rv t, iv (8 : Int32), rv b2] [(.int (4 : Int32)), (.int (0 : Int32)), (.ref b2), (.int (0 : Int32)), (.ref t)])) rfl (by rw [hml]; rfl) rfl (hb hby d10_28) (by decide) (W := 0) (by show 2 * 0 + _ ≤ _; exact Nat.le_of_eq rfl) (by decide)
  have V7 : Arv Z h7 b2 k2 .char (8 : Int32) [(.int x0), (.int x1), (.int x2), (.int x3), (.int (0 : Int32)), (.int (0 : Int32)), (.int (0 : Int32)), (.int (0 : Int32))] (.int (0 : Int32)) := Vc7
  have pre8 : ∀ tg, own_S p e below T7 m 32 #[rv t, iv (8 : Int32), rv b2] [(.ref b2)] tg → Steps p.tables e below (s₁.setTop (entryFrame m #[(.ref t), (.int (8 : Int32))] 3)) tg := fun tg k => pre0 tg (by
    show own_S p e below s₁ m 0 #[rv t, iv (8 : Int32), .unset] [] _
    refine XS.iloadN X0.here hx rfl (hb hby d10_0) rfl ?_
    refine XS.aloadN X0.here hx rfl (hb hby d10_1) rfl rfl ?_
    refine X0.arraylength hx (by rw [e0]; exact Ar1.1) (State.isArrayOf_alike hZ.alike Ar1.2.1) (g := (mkF m 2 #[rv t, iv (8 : Int32), .unset] [(.ref t), (.int (8 : Int32))])) rfl rfl (hb hby d10_2) _ ?_
    rw [len_of S1 M1]
    show own_S p e below s₁ m 3 #[rv t, iv (8 : Int32), .unset] [(.int (4 : Int32)), (.int (8 : Int32))] _
    refine XS.icmpYes X0.here hx rfl (pc0 := 3) (pc' := 14) rfl (hb hby d10_3) rfl (feq (by decide : ¬ ((8 : Int32) = (4 : Int32)))).2 (by decide) (by decide) ?_
    refine XS.iloadN X0.here hx rfl (hb hby d10_14) rfl ?_
    refine st2 _ ?_
    show own_S p e below T2 m 17 #[rv t, iv (8 : Int32), .unset] [(.ref b2)] _
    refine XS.astoreN X2.here hx rfl (hb hby d10_17) rfl rfl (l' := #[rv t, iv (8 : Int32), rv b2]) rfl ?_
    refine XS.aloadN X2.here hx rfl (hb hby d10_18) rfl rfl ?_
    refine XS.iconst X2.here hx rfl (hb hby d10_19) ?_
    show own_S p e below T2 m 20 #[rv t, iv (8 : Int32), rv b2] [(.int (0 : Int32)), (.ref t)] _
    refine XS.aloadN X2.here hx rfl (hb hby d10_20) rfl rfl ?_
    refine XS.iconst X2.here hx rfl (hb hby d10_21) ?_
    refine XS.aloadN X2.here hx rfl (hb hby d10_22) rfl rfl ?_
    show own_S p e below T2 m 23 #[rv t, iv (8 : Int32), rv b2] [(.ref t), (.int (0 : Int32)), (.ref b2), (.int (0 : Int32)), (.ref t)] _
    refine X2.arraylength hx (by rw [e2]; exact Ar4.1) (State.isArrayOf_alike hZ.alike Ar4.2.1) (g := (mkF m 23 #[rv t, iv (8 : Int32), rv b2] [(.ref t), (.int (0 : Int32)), (.ref b2), (.int (0 : Int32)), (.ref t)])) rfl rfl (hb hby d10_23) _ ?_
    rw [len_of S4 M4]
    refine XS.iloadN X2.here hx rfl (hb hby d10_24) rfl ?_
    refine st5 _ ?_
    show own_S p e below T5 m 28 #[rv t, iv (8 : Int32), rv b2] [(.int (4 : Int32)), (.int (0 : Int32)), (.ref b2), (.int (0 : Int32)), (.ref t)] _
    refine st7 _ ?_
    refine XS.aloadN X7.here hx rfl (hb hby d10_31) rfl rfl ?_
    exact k)
  obtain ⟨fs, hr, hrun, hended, hW, hsame⟩ := X7.leave (v := some (.ref b2)) (fun h => by rw [Bd.returns] at h; cases h)
  refine ⟨_, _, pre8 _ ?_, hrun, hended, _, _, rfl, ?_, ⟨_, rfl⟩, hW, hsame.mono (by decide) (by decide)⟩
  · show own_S p e below T7 m 32 #[rv t, iv (8 : Int32), rv b2] [(.ref b2)] _
    exact retOut X7 hx (t := (.array .char)) Bd.returns rfl (Or.inr (Or.inr (Or.inr (Or.inr ⟨rfl, rfl, rfl⟩)))) (hb hby d10_32) hr
  · show QCo Z t k x0 x1 x2 x3 h0 n0 _ T7.heap _
    rw [e7]
    exact ⟨b2, _, rfl, N7, (((Keep.refl h0 []).ext E2).trans K7 (allS (Or.inr sz_b2) all0)), V7, g_b2, sz_b2⟩
theorem ef_Add (m : MethodId) (a1 : Addr) (p2 : Int32) : entryFrame m #[(.ref a1), (.int p2)] 4 = mkF m 0 #[rv a1, iv p2, .unset, .unset] [] := by first | (simp [entryFrame, mkF, argsToLocals, Value.category]; done) | rfl
def QAdd (Z : State) (a1 : Addr) (p2 : Int32) (t : Addr) (k : ClassId) (xs : List Int32) (h0 : Heap) (n0 : Nat) (v : Option Value) (h : Heap) (L : List Loc) : Prop := ∃ (ys : List Int32) (u : Addr) (ku : ClassId), v = some (.ref a1) ∧ Fr n0 L ∧ Keep h0 h [a1, t] ∧ Exa Z h a1 "com/example/bitstrata/bitstrata/ArrayContainer" ∧ Fld Z h a1 "com/example/bitstrata/bitstrata/ArrayContainer" "values" "[C" (.ref u) ∧ Fld Z h a1 "com/example/bitstrata/bitstrata/ArrayContainer" "cardinality" "I" (.int (Int32.ofNat ys.length)) ∧ Arv Z h u ku .char (own_z ys) (own_vs ys) (.int 0) ∧ n0 ≤ u ∧ u ≠ a1 ∧ (u = t ∨ h0.size ≤ u) ∧ 1 ≤ ys.length ∧ ys.length ≤ xs.length + 1 ∧ own_srt ys ∧ own_chs ys ∧ ∀ x, x ∈ ys ↔ (x ∈ xs ∨ x = p2)
theorem d3_0 : decode prog_1_method_15_code 0 = .ok (.aload_n 0, 1) := by decide +kernel
theorem d3_1 : decode prog_1_method_15_code 1 = .ok (.getfield 9, 3) := by decide +kernel
theorem d3_4 : decode prog_1_method_15_code 4 = .ok (.iconst 0, 1) := by decide +kernel
theorem d3_5 : decode prog_1_method_15_code 5 = .ok (.aload_n 0, 1) := by decide +kernel
theorem d3_6 : decode prog_1_method_15_code 6 = .ok (.getfield 13, 3) := by decide +kernel
theorem d3_9 : decode prog_1_method_15_code 9 = .ok (.iload_n 1, 1) := by decide +kernel
theorem d3_10 : decode prog_1_method_15_code 10 = .ok (.invokestatic 51, 3) := by decide +kernel
theorem d3_13 : decode prog_1_method_15_code 13 = .ok (.istore_n 2, 1) := by decide +kernel
theorem d3_14 : decode prog_1_method_15_code 14 = .ok (.iload_n 2, 1) := by decide +kernel
theorem d3_15 : decode prog_1_method_15_code 15 = .ok (.ifCond .lt 5, 3) := by decide +kernel
theorem d3_18 : decode prog_1_method_15_code 18 = .ok (.aload_n 0, 1) := by decide +kernel
theorem d3_19 : decode prog_1_method_15_code 19 = .ok (.areturn, 1) := by decide +kernel
theorem d3_20 : decode prog_1_method_15_code 20 = .ok (.aload_n 0, 1) := by decide +kernel
theorem d3_21 : decode prog_1_method_15_code 21 = .ok (.getfield 13, 3) := by decide +kernel
theorem d3_24 : decode prog_1_method_15_code 24 = .ok (.sipush 4096, 3) := by decide +kernel
theorem d3_27 : decode prog_1_method_15_code 27 = .ok (.if_icmp .ne 15, 3) := by decide +kernel
theorem d3_42 : decode prog_1_method_15_code 42 = .ok (.iload_n 2, 1) := by decide +kernel
theorem d3_43 : decode prog_1_method_15_code 43 = .ok (.ineg, 1) := by decide +kernel
theorem d3_44 : decode prog_1_method_15_code 44 = .ok (.iconst 1, 1) := by decide +kernel
theorem d3_45 : decode prog_1_method_15_code 45 = .ok (.isub, 1) := by decide +kernel
theorem d3_46 : decode prog_1_method_15_code 46 = .ok (.istore_n 3, 1) := by decide +kernel
theorem d3_47 : decode prog_1_method_15_code 47 = .ok (.aload_n 0, 1) := by decide +kernel
theorem d3_48 : decode prog_1_method_15_code 48 = .ok (.getfield 13, 3) := by decide +kernel
theorem d3_51 : decode prog_1_method_15_code 51 = .ok (.aload_n 0, 1) := by decide +kernel
theorem d3_52 : decode prog_1_method_15_code 52 = .ok (.getfield 9, 3) := by decide +kernel
theorem d3_55 : decode prog_1_method_15_code 55 = .ok (.arraylength, 1) := by decide +kernel
theorem d3_56 : decode prog_1_method_15_code 56 = .ok (.if_icmp .ne 27, 3) := by decide +kernel
theorem d3_83 : decode prog_1_method_15_code 83 = .ok (.aload_n 0, 1) := by decide +kernel
theorem d3_84 : decode prog_1_method_15_code 84 = .ok (.getfield 9, 3) := by decide +kernel
theorem d3_87 : decode prog_1_method_15_code 87 = .ok (.iload_n 3, 1) := by decide +kernel
theorem d3_88 : decode prog_1_method_15_code 88 = .ok (.aload_n 0, 1) := by decide +kernel
theorem d3_89 : decode prog_1_method_15_code 89 = .ok (.getfield 9, 3) := by decide +kernel
theorem d3_92 : decode prog_1_method_15_code 92 = .ok (.iload_n 3, 1) := by decide +kernel
theorem d3_93 : decode prog_1_method_15_code 93 = .ok (.iconst 1, 1) := by decide +kernel
theorem d3_94 : decode prog_1_method_15_code 94 = .ok (.iadd, 1) := by decide +kernel
theorem d3_95 : decode prog_1_method_15_code 95 = .ok (.aload_n 0, 1) := by decide +kernel
theorem d3_96 : decode prog_1_method_15_code 96 = .ok (.getfield 13, 3) := by decide +kernel
theorem d3_99 : decode prog_1_method_15_code 99 = .ok (.iload_n 3, 1) := by decide +kernel
theorem d3_100 : decode prog_1_method_15_code 100 = .ok (.isub, 1) := by decide +kernel
theorem d3_101 : decode prog_1_method_15_code 101 = .ok (.invokestatic 80, 3) := by decide +kernel
theorem d3_104 : decode prog_1_method_15_code 104 = .ok (.aload_n 0, 1) := by decide +kernel
theorem d3_105 : decode prog_1_method_15_code 105 = .ok (.getfield 9, 3) := by decide +kernel
theorem d3_108 : decode prog_1_method_15_code 108 = .ok (.iload_n 3, 1) := by decide +kernel
theorem d3_109 : decode prog_1_method_15_code 109 = .ok (.iload_n 1, 1) := by decide +kernel
theorem d3_110 : decode prog_1_method_15_code 110 = .ok (.castore, 1) := by decide +kernel
theorem d3_111 : decode prog_1_method_15_code 111 = .ok (.aload_n 0, 1) := by decide +kernel
theorem d3_112 : decode prog_1_method_15_code 112 = .ok (.dup, 1) := by decide +kernel
theorem d3_113 : decode prog_1_method_15_code 113 = .ok (.getfield 13, 3) := by decide +kernel
theorem d3_116 : decode prog_1_method_15_code 116 = .ok (.iconst 1, 1) := by decide +kernel
theorem d3_117 : decode prog_1_method_15_code 117 = .ok (.iadd, 1) := by decide +kernel
theorem d3_118 : decode prog_1_method_15_code 118 = .ok (.putfield 13, 3) := by decide +kernel
theorem d3_121 : decode prog_1_method_15_code 121 = .ok (.aload_n 0, 1) := by decide +kernel
theorem d3_122 : decode prog_1_method_15_code 122 = .ok (.areturn, 1) := by decide +kernel
theorem d3_59 : decode prog_1_method_15_code 59 = .ok (.aload_n 0, 1) := by decide +kernel
theorem d3_60 : decode prog_1_method_15_code 60 = .ok (.aload_n 0, 1) := by decide +kernel
theorem d3_61 : decode prog_1_method_15_code 61 = .ok (.getfield 9, 3) := by decide +kernel
theorem d3_64 : decode prog_1_method_15_code 64 = .ok (.iconst 2, 1) := by decide +kernel
theorem d3_65 : decode prog_1_method_15_code 65 = .ok (.aload_n 0, 1) := by decide +kernel
theorem d3_66 : decode prog_1_method_15_code 66 = .ok (.getfield 9, 3) := by decide +kernel
theorem d3_69 : decode prog_1_method_15_code 69 = .ok (.arraylength, 1) := by decide +kernel
theorem d3_70 : decode prog_1_method_15_code 70 = .ok (.imul, 1) := by decide +kernel
theorem d3_71 : decode prog_1_method_15_code 71 = .ok (.sipush 4096, 3) := by decide +kernel
theorem d3_74 : decode prog_1_method_15_code 74 = .ok (.invokestatic 70, 3) := by decide +kernel
theorem d3_77 : decode prog_1_method_15_code 77 = .ok (.invokestatic 76, 3) := by decide +kernel
theorem pd_3 : parseMethodDescriptor "([CI)[C" = some ⟨[(.array .char), .int], some (.array .char)⟩ := by decide +kernel
theorem d3_80 : decode prog_1_method_15_code 80 = .ok (.putfield 9, 3) := by decide +kernel
set_option maxRecDepth 65536 in
set_option maxHeartbeats 40000000 in
theorem rmAdd (l : Launch) (Z : State) (a0 : Array Value) (hw : ∀ d ∈ tables_1, d.before a0 Z = true) (ws : List Jvm.Cond) (a1 : Addr) (p2 : Int32) (t : Addr) (k : ClassId) (xs : List Int32) (h0 : Heap) (n0 : Nat) (Z0 : n0 ≤ h0.size) (E_a1 : Exa Z h0 a1 "com/example/bitstrata/bitstrata/ArrayContainer") (g_a1 : n0 ≤ a1) (g_t : n0 ≤ t) (F_v : Fld Z h0 a1 "com/example/bitstrata/bitstrata/ArrayContainer" "values" "[C" (.ref t)) (F_c : Fld Z h0 a1 "com/example/bitstrata/bitstrata/ArrayContainer" "cardinality" "I" (.int (Int32.ofNat xs.length))) (V_t : Arv Z h0 t k .char (own_z xs) (own_vs xs) (.int 0)) (hne : t ≠ a1) (hl1 : 1 ≤ xs.length) (hl2 : xs.length ≤ 4) (hs : own_srt xs) (hch : own_chs xs) (hk : nar .char p2 = p2) :
    MetFree l (⟨"com/example/bitstrata/bitstrata/ArrayContainer", "add", "(C)Lcom/example/bitstrata/bitstrata/Container;"⟩ : MethodName) (head1 (Jvm.Cond.code (⟨"com/example/bitstrata/bitstrata/ArrayContainer", "add", "(C)Lcom/example/bitstrata/bitstrata/Container;"⟩ : MethodName) prog_1_method_15_code 4 (some (.object "com/example/bitstrata/bitstrata/Container")) :: ws) ({ frames := 3, cells := 1, slots := 8, locals := 100 } : Room)) (fun a U => a = #[(.ref a1), (.int p2)] ∧ Z.Warmed39 U.vm ∧ U.heap = h0) (fun _ _ _ _ _ => True) (fun _ U o U' => ∃ v L, o = .returned v ∧ QAdd Z a1 p2 t k xs h0 n0 v U'.heap L ∧ FrameEnd U o U' L ({ frames := 3, cells := 1, slots := 8, locals := 100 } : Room).cells ({ frames := 3, cells := 1, slots := 8, locals := 100 } : Room).slots) := by
  refine MetFree.of_bodySF (plainFor_of_name pn_0) hisR ?_
  intro p e s m args below meth c s₁ Bd hml0 hP hK
  obtain ⟨rfl, hZ, hh⟩ := hP
  have hx := Bd.exec
  have hby := Bd.bytes
  have hml : c.maxLocals = 4 := hml0
  have hown : s.vm.findClass "com/example/bitstrata/bitstrata/ArrayContainer" = some m.cls := findClass_of_methodNamed Bd.named
  have hnm := (name_of_methodNamed Bd.named Bd.method).1
  have X0 : Stand p l e ({ frames := 3, cells := 1, slots := 8, locals := 100 } : Room) s m #[(.ref a1), (.int p2)] below meth c s₁ [] 0 0 := Stand.of_body Bd
  have e0 : s₁.heap = h0 := by rw [← hh, Bd.state]; rfl
  have N0 := Fr.nil n0
  have pre0 : ∀ tg, Steps p.tables e below (s₁.setTop (mkF m 0 #[rv a1, iv p2, .unset, .unset] [])) tg → Steps p.tables e below (s₁.setTop (entryFrame m #[(.ref a1), (.int p2)] 4)) tg := fun tg k => castTop (ef_Add m a1 p2) k
  have hlen : xs.length = 1 ∨ xs.length = 2 ∨ xs.length = 3 ∨ xs.length = 4 := by omega
  rcases hlen with hl | hl | hl | hl
  ·  -- case
    obtain ⟨x0, rfl⟩ := own_len1 hl
    have F_c' : Fld Z h0 a1 "com/example/bitstrata/bitstrata/ArrayContainer" "cardinality" "I" (.int (1 : Int32)) := F_c
    have V_t' : Arv Z h0 t k .char (4 : Int32) [(.int x0), (.int (0 : Int32)), (.int (0 : Int32)), (.int (0 : Int32))] (.int (0 : Int32)) := V_t
    clear hs
    obtain ⟨T1, X1, e1, st1⟩ := getF X0 hx hZ hown (host := "") (Or.inl (hw _ (List.mem_of_getElem? (i := 12) rfl))) Via.refl e0 F_v (g := (mkF m 1 #[rv a1, iv p2, .unset, .unset] [(.ref a1)])) rfl rfl (hb hby d3_1)
    obtain ⟨T2, X2, e2, st2⟩ := getF X1 hx hZ hown (host := "") (Or.inl (hw _ (List.mem_of_getElem? (i := 14) rfl))) Via.refl e1 F_c' (g := (mkF m 6 #[rv a1, iv p2, .unset, .unset] [(.ref a1), (.int (0 : Int32)), (.ref t)])) rfl rfl (hb hby d3_6)
    obtain ⟨_, _, ⟨T3, L3, k3, n3⟩, -, X3, ⟨Lc3, hQ3, l3, y3, z3⟩, st3⟩ := Jvm.LawKit.callS X2 hx (y := (⟨"java/util/Arrays", "binarySearch", "([CIIC)I"⟩ : MethodName)) hown (mvT hZ (hw _ (List.mem_of_getElem? (i := 25) rfl))) (mvT hZ (hw _ (List.mem_of_getElem? (i := 26) rfl))) (mvT hZ (hw _ (List.mem_of_getElem? (i := 27) rfl))) (mvT hZ (hw _ (List.mem_of_getElem? (i := 28) rfl))) (by decide) (backOf (W := 0) (rmS1 l Z a0 hw [] t p2 k x0 h0 n0 Z0 V_t') hZ (hw _ (List.mem_of_getElem? (i := 28) rfl)) (hw _ (List.mem_of_getElem? (i := 27) rfl)) (by decide) (by decide)) (g := (mkF m 10 #[rv a1, iv p2, .unset, .unset] [(.int p2), (.int (1 : Int32)), (.int (0 : Int32)), (.ref t)])) rfl (by rw [hml]; rfl) (argsL := [(.ref t), (.int (0 : Int32)), (.int (1 : Int32)), (.int p2)]) (rest := []) (lenOf pd_1 rfl) rfl (by show 2 * 0 + _ ≤ _; exact Nat.le_of_eq rfl) (hb hby d3_10) (fun _ _ => ⟨rfl, e2, (by decide : 0 + 0 ≤ _), (by decide : 0 + 0 ≤ _)⟩)
    dsimp only [Pt.U, Pt.locs, Pt.cells, Pt.slots] at X3 l3 y3 z3 st3 hQ3
    subst l3 y3 z3
    obtain ⟨r3, rfl, N3q, e3q, hD3⟩ := hQ3
    have N3 := Fr.app N0 N3q
    have e3 : T3.heap = h0 := e3q
    have pre4 : ∀ tg, own_S p e below T3 m 13 #[rv a1, iv p2, .unset, .unset] [(.int r3)] tg → Steps p.tables e below (s₁.setTop (entryFrame m #[(.ref a1), (.int p2)] 4)) tg := fun tg k => pre0 tg (by
      show own_S p e below s₁ m 0 #[rv a1, iv p2, .unset, .unset] [] _
      refine XS.aloadN X0.here hx rfl (hb hby d3_0) rfl rfl ?_
      refine st1 _ ?_
      refine XS.iconst X1.here hx rfl (hb hby d3_4) ?_
      show own_S p e below T1 m 5 #[rv a1, iv p2, .unset, .unset] [(.int (0 : Int32)), (.ref t)] _
      refine XS.aloadN X1.here hx rfl (hb hby d3_5) rfl rfl ?_
      refine st2 _ ?_
      refine XS.iloadN X2.here hx rfl (hb hby d3_9) rfl ?_
      show own_S p e below T2 m 10 #[rv a1, iv p2, .unset, .unset] [(.int p2), (.int (1 : Int32)), (.int (0 : Int32)), (.ref t)] _
      refine st3 _ ?_
      exact k)
    rcases hD3 with ⟨rfl, q0⟩ | ⟨rfl, q0⟩ | ⟨rfl, q0⟩
    ·  -- case
      have pre5 : ∀ tg, own_S p e below T3 m 19 #[rv a1, iv p2, iv (0 : Int32), .unset] [(.ref a1)] tg → Steps p.tables e below (s₁.setTop (entryFrame m #[(.ref a1), (.int p2)] 4)) tg := fun tg k => pre4 tg (by
        show own_S p e below T3 m 13 #[rv a1, iv p2, .unset, .unset] [(.int (0 : Int32))] _
        refine XS.istoreN X3.here hx rfl (hb hby d3_13) rfl (l' := #[rv a1, iv p2, iv (0 : Int32), .unset]) rfl ?_
        refine XS.iloadN X3.here hx rfl (hb hby d3_14) rfl ?_
        refine XS.ifNo X3.here hx rfl (hb hby d3_15) rfl ((if0 _ _).trans (flt (by decide : ¬ ((0 : Int32) < (0 : Int32)))).1) ?_
        show own_S p e below T3 m 18 #[rv a1, iv p2, iv (0 : Int32), .unset] [] _
        refine XS.aloadN X3.here hx rfl (hb hby d3_18) rfl rfl ?_
        exact k)
      obtain ⟨fs, hr, hrun, hended, hW, hsame⟩ := X3.leave (v := some (.ref a1)) (fun h => by rw [Bd.returns] at h; cases h)
      refine ⟨_, _, pre5 _ ?_, hrun, hended, _, _, rfl, ?_, ⟨_, rfl⟩, hW, hsame.mono (by decide) (by decide)⟩
      · show own_S p e below T3 m 19 #[rv a1, iv p2, iv (0 : Int32), .unset] [(.ref a1)] _
        exact retOut X3 hx (t := (.object "com/example/bitstrata/bitstrata/Container")) Bd.returns rfl (Or.inr (Or.inr (Or.inr (Or.inr ⟨rfl, rfl, rfl⟩)))) (hb hby d3_19) hr
      · show QAdd Z a1 p2 t k [x0] h0 n0 _ T3.heap _
        rw [e3]
        refine ⟨[x0], t, _, rfl, N3, (Keep.refl h0 [a1, t]), E_a1, F_v, F_c', V_t', g_t, hne, Or.inl rfl, Nat.le_of_ble_eq_true rfl, Nat.le_of_ble_eq_true rfl, ?_, ?_, ?_⟩
        · exact trivial
        · exact hch
        · intro x; simp only [List.mem_cons, List.not_mem_nil, or_false]
          constructor
          · intro h; exact Or.inl h
          · intro h; rcases h with h | h
            · exact h
            · simp [h, ← q0]
    ·  -- case
      obtain ⟨T6, X6, e6, st6⟩ := getF X3 hx hZ hown (host := "") (Or.inl (hw _ (List.mem_of_getElem? (i := 14) rfl))) Via.refl e3 F_c' (g := (mkF m 21 #[rv a1, iv p2, iv (-1 : Int32), .unset] [(.ref a1)])) rfl rfl (hb hby d3_21)
      obtain ⟨T7, X7, e7, st7⟩ := getF X6 hx hZ hown (host := "") (Or.inl (hw _ (List.mem_of_getElem? (i := 14) rfl))) Via.refl e6 F_c' (g := (mkF m 48 #[rv a1, iv p2, iv (-1 : Int32), iv (0 : Int32)] [(.ref a1)])) rfl rfl (hb hby d3_48)
      obtain ⟨T8, X8, e8, st8⟩ := getF X7 hx hZ hown (host := "") (Or.inl (hw _ (List.mem_of_getElem? (i := 12) rfl))) Via.refl e7 F_v (g := (mkF m 52 #[rv a1, iv p2, iv (-1 : Int32), iv (0 : Int32)] [(.ref a1), (.int (1 : Int32))])) rfl rfl (hb hby d3_52)
      obtain ⟨cl9, Ar9, q9, S9, M9, -, -⟩ := id V_t'
      obtain ⟨T10, X10, e10, st10⟩ := getF X8 hx hZ hown (host := "") (Or.inl (hw _ (List.mem_of_getElem? (i := 12) rfl))) Via.refl e8 F_v (g := (mkF m 84 #[rv a1, iv p2, iv (-1 : Int32), iv (0 : Int32)] [(.ref a1)])) rfl rfl (hb hby d3_84)
      obtain ⟨T11, X11, e11, st11⟩ := getF X10 hx hZ hown (host := "") (Or.inl (hw _ (List.mem_of_getElem? (i := 12) rfl))) Via.refl e10 F_v (g := (mkF m 89 #[rv a1, iv p2, iv (-1 : Int32), iv (0 : Int32)] [(.ref a1), (.int (0 : Int32)), (.ref t)])) rfl rfl (hb hby d3_89)
      obtain ⟨T12, X12, e12, st12⟩ := getF X11 hx hZ hown (host := "") (Or.inl (hw _ (List.mem_of_getElem? (i := 14) rfl))) Via.refl e11 F_c' (g := (mkF m 96 #[rv a1, iv p2, iv (-1 : Int32), iv (0 : Int32)] [(.ref a1), (.int (1 : Int32)), (.ref t), (.int (0 : Int32)), (.ref t)])) rfl rfl (hb hby d3_96)
      obtain ⟨T13, h13, L13, X13, e13, N13, K13, Vc13, st13⟩ := cpA X12 hx hZ hown (hw _ (List.mem_of_getElem? (i := 35) rfl)) (hw _ (List.mem_of_getElem? (i := 38) rfl)) (hw _ (List.mem_of_getElem? (i := 36) rfl)) (hw _ (List.mem_of_getElem? (i := 37) rfl)) e12 (us := [(.int x0)]) (sp := (0 : Int32)) (dp := (1 : Int32)) (nn := (1 : Int32)) V_t' V_t' (Or.inl ⟨rfl, rfl⟩) (by decide) (by decide) (by decide) (by decide) (by decide) rfl (Nat.le_of_ble_eq_true rfl) N3 g_t (g := (mkF m 101 #[rv a1, iv p2, iv (-1 : Int32), iv (0 : Int32)] [(.int (1 : Int32)), (.int (1 : Int32)), (.ref t), (.int (0 : Int32)), (.ref t)])) rfl (by rw [hml]; rfl) rfl (hb hby d3_101) (by decide) (W := 0) (by show 2 * 0 + _ ≤ _; exact Nat.le_of_eq rfl) (by decide)
      have V13 : Arv Z h13 t k .char (4 : Int32) [(.int x0), (.int x0), (.int (0 : Int32)), (.int (0 : Int32))] (.int (0 : Int32)) := Vc13
      have Fn_14 := (F_v.keep K13 (ninS (Ne.symm hne) nin0))
      obtain ⟨T15, X15, e15, st15⟩ := getF X13 hx hZ hown (host := "") (Or.inl (hw _ (List.mem_of_getElem? (i := 12) rfl))) Via.refl e13 Fn_14 (g := (mkF m 105 #[rv a1, iv p2, iv (-1 : Int32), iv (0 : Int32)] [(.ref a1)])) rfl rfl (hb hby d3_105)
      obtain ⟨cl16, Ar16, q16, S16, M16, H16, G16⟩ := id V13
      have hin16 : ¬ ((0 : Int32) < 0 ∨ cl16.slots.size ≤ ((0 : Int32)).toNatClampNeg) := inb_of S16 ⟨by decide, by decide⟩
      obtain ⟨T16, h16, X16, e16, W16, st16⟩ := stC X15 hx hZ e15 Ar16 (j := (0 : Int32)) hin16 (g := (mkF m 110 #[rv a1, iv p2, iv (-1 : Int32), iv (0 : Int32)] [(.int p2), (.int (0 : Int32)), (.ref t)])) rfl rfl (hb hby d3_110)
      have V16 : Arv Z h16 t k .char (4 : Int32) [(.int (nar .char p2)), (.int x0), (.int (0 : Int32)), (.int (0 : Int32))] (.int (0 : Int32)) := Arv.set Ar16 q16 S16 M16 H16 G16 (fits_nar_char _) W16 0 rfl (Nat.le_of_ble_eq_true rfl)
      have N16 := Fr.snoc X16 N13 g_t
      have Fn_17 := ((F_c'.keep K13 (ninS (Ne.symm hne) nin0)).other W16 (Or.inl (Ne.symm hne)))
      obtain ⟨T18, X18, e18, st18⟩ := getF X16 hx hZ hown (host := "") (Or.inl (hw _ (List.mem_of_getElem? (i := 14) rfl))) Via.refl e16 Fn_17 (g := (mkF m 113 #[rv a1, iv p2, iv (-1 : Int32), iv (0 : Int32)] [(.ref a1), (.ref a1)])) rfl rfl (hb hby d3_113)
      have En_19 := ((E_a1.keep K13).wr W16)
      obtain ⟨T20, h20, X20, e20, W20, st20⟩ := putF X18 hx hZ hown (host := "") (Or.inl (hw _ (List.mem_of_getElem? (i := 14) rfl))) Via.refl e18 Fn_17 En_19 (Or.inl (hw _ (List.mem_of_getElem? (i := 15) rfl))) (hw _ (List.mem_of_getElem? (i := 3) rfl)) (ty := .int) (by decide) rfl rfl (g := (mkF m 118 #[rv a1, iv p2, iv (-1 : Int32), iv (0 : Int32)] [(.int (2 : Int32)), (.ref a1)])) rfl rfl (hb hby d3_118)
      have Fw20 := Fn_17.same W20
      have N20 := Fr.snoc X20 N16 g_a1
      have pre21 : ∀ tg, own_S p e below T20 m 122 #[rv a1, iv p2, iv (-1 : Int32), iv (0 : Int32)] [(.ref a1)] tg → Steps p.tables e below (s₁.setTop (entryFrame m #[(.ref a1), (.int p2)] 4)) tg := fun tg k => pre4 tg (by
        show own_S p e below T3 m 13 #[rv a1, iv p2, .unset, .unset] [(.int (-1 : Int32))] _
        refine XS.istoreN X3.here hx rfl (hb hby d3_13) rfl (l' := #[rv a1, iv p2, iv (-1 : Int32), .unset]) rfl ?_
        refine XS.iloadN X3.here hx rfl (hb hby d3_14) rfl ?_
        refine XS.ifYes X3.here hx rfl (pc0 := 15) (pc' := 20) rfl (hb hby d3_15) rfl ((if0 _ _).trans (tlt (by decide : (-1 : Int32) < (0 : Int32))).1) (by decide) (by decide) ?_
        show own_S p e below T3 m 20 #[rv a1, iv p2, iv (-1 : Int32), .unset] [] _
        refine XS.aloadN X3.here hx rfl (hb hby d3_20) rfl rfl ?_
        refine st6 _ ?_
        refine XS.sipush X6.here hx rfl (hb hby d3_24) ?_
        show own_S p e below T6 m 27 #[rv a1, iv p2, iv (-1 : Int32), .unset] [(.int (4096 : Int32)), (.int (1 : Int32))] _
        refine XS.icmpYes X6.here hx rfl (pc0 := 27) (pc' := 42) rfl (hb hby d3_27) rfl (feq (by decide : ¬ ((1 : Int32) = (4096 : Int32)))).2 (by decide) (by decide) ?_
        refine XS.iloadN X6.here hx rfl (hb hby d3_42) rfl ?_
        refine XS.ineg X6.here hx rfl (hb hby d3_43) rfl ?_
        show own_S p e below T6 m 44 #[rv a1, iv p2, iv (-1 : Int32), .unset] [(.int (1 : Int32))] _
        refine XS.iconst X6.here hx rfl (hb hby d3_44) ?_
        refine XS.isub X6.here hx rfl (hb hby d3_45) rfl ?_
        refine XS.istoreN X6.here hx rfl (hb hby d3_46) rfl (l' := #[rv a1, iv p2, iv (-1 : Int32), iv (0 : Int32)]) rfl ?_
        show own_S p e below T6 m 47 #[rv a1, iv p2, iv (-1 : Int32), iv (0 : Int32)] [] _
        refine XS.aloadN X6.here hx rfl (hb hby d3_47) rfl rfl ?_
        refine st7 _ ?_
        refine XS.aloadN X7.here hx rfl (hb hby d3_51) rfl rfl ?_
        show own_S p e below T7 m 52 #[rv a1, iv p2, iv (-1 : Int32), iv (0 : Int32)] [(.ref a1), (.int (1 : Int32))] _
        refine st8 _ ?_
        refine X8.arraylength hx (by rw [e8]; exact Ar9.1) (State.isArrayOf_alike hZ.alike Ar9.2.1) (g := (mkF m 55 #[rv a1, iv p2, iv (-1 : Int32), iv (0 : Int32)] [(.ref t), (.int (1 : Int32))])) rfl rfl (hb hby d3_55) _ ?_
        rw [len_of S9 M9]
        refine XS.icmpYes X8.here hx rfl (pc0 := 56) (pc' := 83) rfl (hb hby d3_56) rfl (feq (by decide : ¬ ((1 : Int32) = (4 : Int32)))).2 (by decide) (by decide) ?_
        show own_S p e below T8 m 83 #[rv a1, iv p2, iv (-1 : Int32), iv (0 : Int32)] [] _
        refine XS.aloadN X8.here hx rfl (hb hby d3_83) rfl rfl ?_
        refine st10 _ ?_
        refine XS.iloadN X10.here hx rfl (hb hby d3_87) rfl ?_
        show own_S p e below T10 m 88 #[rv a1, iv p2, iv (-1 : Int32), iv (0 : Int32)] [(.int (0 : Int32)), (.ref t)] _
        refine XS.aloadN X10.here hx rfl (hb hby d3_88) rfl rfl ?_
        refine st11 _ ?_
        refine XS.iloadN X11.here hx rfl (hb hby d3_92) rfl ?_
        show own_S p e below T11 m 93 #[rv a1, iv p2, iv (-1 : Int32), iv (0 : Int32)] [(.int (0 : Int32)), (.ref t), (.int (0 : Int32)), (.ref t)] _
        refine XS.iconst X11.here hx rfl (hb hby d3_93) ?_
        refine XS.iadd X11.here hx rfl (hb hby d3_94) rfl ?_
        refine XS.aloadN X11.here hx rfl (hb hby d3_95) rfl rfl ?_
        show own_S p e below T11 m 96 #[rv a1, iv p2, iv (-1 : Int32), iv (0 : Int32)] [(.ref a1), (.int (1 : Int32)), (.ref t), (.int (0 : Int32)), (.ref t)] _
        refine st12 _ ?_
        refine XS.iloadN X12.here hx rfl (hb hby d3_99) rfl ?_
        refine XS.isub X12.here hx rfl (hb hby d3_100) rfl ?_
        show own_S p e below T12 m 101 #[rv a1, iv p2, iv (-1 : Int32), iv (0 : Int32)] [(.int (1 : Int32)), (.int (1 : Int32)), (.ref t), (.int (0 : Int32)), (.ref t)] _
        refine st13 _ ?_
        refine XS.aloadN X13.here hx rfl (hb hby d3_104) rfl rfl ?_
        refine st15 _ ?_
        show own_S p e below T15 m 108 #[rv a1, iv p2, iv (-1 : Int32), iv (0 : Int32)] [(.ref t)] _
        refine XS.iloadN X15.here hx rfl (hb hby d3_108) rfl ?_
        refine XS.iloadN X15.here hx rfl (hb hby d3_109) rfl ?_
        refine st16 _ ?_
        show own_S p e below T16 m 111 #[rv a1, iv p2, iv (-1 : Int32), iv (0 : Int32)] [] _
        refine XS.aloadN X16.here hx rfl (hb hby d3_111) rfl rfl ?_
        refine XS.dup X16.here hx rfl (hb hby d3_112) rfl rfl ?_
        refine st18 _ ?_
        show own_S p e below T18 m 116 #[rv a1, iv p2, iv (-1 : Int32), iv (0 : Int32)] [(.int (1 : Int32)), (.ref a1)] _
        refine XS.iconst X18.here hx rfl (hb hby d3_116) ?_
        refine XS.iadd X18.here hx rfl (hb hby d3_117) rfl ?_
        refine st20 _ ?_
        show own_S p e below T20 m 121 #[rv a1, iv p2, iv (-1 : Int32), iv (0 : Int32)] [] _
        refine XS.aloadN X20.here hx rfl (hb hby d3_121) rfl rfl ?_
        exact k)
      obtain ⟨fs, hr, hrun, hended, hW, hsame⟩ := X20.leave (v := some (.ref a1)) (fun h => by rw [Bd.returns] at h; cases h)
      refine ⟨_, _, pre21 _ ?_, hrun, hended, _, _, rfl, ?_, ⟨_, rfl⟩, hW, hsame.mono (by decide) (by decide)⟩
      · show own_S p e below T20 m 122 #[rv a1, iv p2, iv (-1 : Int32), iv (0 : Int32)] [(.ref a1)] _
        exact retOut X20 hx (t := (.object "com/example/bitstrata/bitstrata/Container")) Bd.returns rfl (Or.inr (Or.inr (Or.inr (Or.inr ⟨rfl, rfl, rfl⟩)))) (hb hby d3_122) hr
      · show QAdd Z a1 p2 t k [x0] h0 n0 _ T20.heap _
        rw [e20]
        have En_22 := (En_19.wr W20)
        have Fn_23 := ((Fn_14.other W16 (Or.inl (Ne.symm hne))).other W20 (Or.inr (slot_ne (Or.inl (hw _ (List.mem_of_getElem? (i := 13) rfl))) (Or.inl (hw _ (List.mem_of_getElem? (i := 15) rfl))) (by decide) (t := (.array .char)) (t' := .int) (by decide) (by decide))))
        have Vn_24 := (V16.other W20 hne)
        rw [hk] at Vn_24
        refine ⟨[p2, x0], t, _, rfl, N20, ((((Keep.refl h0 [a1, t]).trans K13 (allS (Or.inl (List.mem_of_getElem? (i := 1) rfl)) all0)).wr W16 (Or.inl (List.mem_of_getElem? (i := 1) rfl))).wr W20 (Or.inl (List.mem_of_getElem? (i := 0) rfl))), En_22, Fn_23, Fw20, Vn_24, g_t, hne, Or.inl rfl, Nat.le_of_ble_eq_true rfl, Nat.le_of_ble_eq_true rfl, ?_, ?_, ?_⟩
        · exact ⟨(by first | assumption | exact own_tr (by assumption) (by assumption)), trivial⟩
        · intro x hx; simp only [List.mem_cons, List.not_mem_nil, or_false] at hx; rcases hx with rfl | rfl <;> first | exact hk | exact hch _ (by simp)
        · intro x; simp only [List.mem_cons, List.not_mem_nil, or_false]; try (constructor; (intro h; rcases h with h | h <;> simp [h]); (intro h; rcases h with h | h <;> simp [h]))
    ·  -- case
      obtain ⟨T25, X25, e25, st25⟩ := getF X3 hx hZ hown (host := "") (Or.inl (hw _ (List.mem_of_getElem? (i := 14) rfl))) Via.refl e3 F_c' (g := (mkF m 21 #[rv a1, iv p2, iv (-2 : Int32), .unset] [(.ref a1)])) rfl rfl (hb hby d3_21)
      obtain ⟨T26, X26, e26, st26⟩ := getF X25 hx hZ hown (host := "") (Or.inl (hw _ (List.mem_of_getElem? (i := 14) rfl))) Via.refl e25 F_c' (g := (mkF m 48 #[rv a1, iv p2, iv (-2 : Int32), iv (1 : Int32)] [(.ref a1)])) rfl rfl (hb hby d3_48)
      obtain ⟨T27, X27, e27, st27⟩ := getF X26 hx hZ hown (host := "") (Or.inl (hw _ (List.mem_of_getElem? (i := 12) rfl))) Via.refl e26 F_v (g := (mkF m 52 #[rv a1, iv p2, iv (-2 : Int32), iv (1 : Int32)] [(.ref a1), (.int (1 : Int32))])) rfl rfl (hb hby d3_52)
      obtain ⟨cl28, Ar28, q28, S28, M28, -, -⟩ := id V_t'
      obtain ⟨T29, X29, e29, st29⟩ := getF X27 hx hZ hown (host := "") (Or.inl (hw _ (List.mem_of_getElem? (i := 12) rfl))) Via.refl e27 F_v (g := (mkF m 84 #[rv a1, iv p2, iv (-2 : Int32), iv (1 : Int32)] [(.ref a1)])) rfl rfl (hb hby d3_84)
      obtain ⟨T30, X30, e30, st30⟩ := getF X29 hx hZ hown (host := "") (Or.inl (hw _ (List.mem_of_getElem? (i := 12) rfl))) Via.refl e29 F_v (g := (mkF m 89 #[rv a1, iv p2, iv (-2 : Int32), iv (1 : Int32)] [(.ref a1), (.int (1 : Int32)), (.ref t)])) rfl rfl (hb hby d3_89)
      obtain ⟨T31, X31, e31, st31⟩ := getF X30 hx hZ hown (host := "") (Or.inl (hw _ (List.mem_of_getElem? (i := 14) rfl))) Via.refl e30 F_c' (g := (mkF m 96 #[rv a1, iv p2, iv (-2 : Int32), iv (1 : Int32)] [(.ref a1), (.int (2 : Int32)), (.ref t), (.int (1 : Int32)), (.ref t)])) rfl rfl (hb hby d3_96)
      obtain ⟨T32, h32, L32, X32, e32, N32, K32, Vc32, st32⟩ := cpA X31 hx hZ hown (hw _ (List.mem_of_getElem? (i := 35) rfl)) (hw _ (List.mem_of_getElem? (i := 38) rfl)) (hw _ (List.mem_of_getElem? (i := 36) rfl)) (hw _ (List.mem_of_getElem? (i := 37) rfl)) e31 (us := []) (sp := (1 : Int32)) (dp := (2 : Int32)) (nn := (0 : Int32)) V_t' V_t' (Or.inl ⟨rfl, rfl⟩) (by decide) (by decide) (by decide) (by decide) (by decide) rfl (Nat.le_of_ble_eq_true rfl) N3 g_t (g := (mkF m 101 #[rv a1, iv p2, iv (-2 : Int32), iv (1 : Int32)] [(.int (0 : Int32)), (.int (2 : Int32)), (.ref t), (.int (1 : Int32)), (.ref t)])) rfl (by rw [hml]; rfl) rfl (hb hby d3_101) (by decide) (W := 0) (by show 2 * 0 + _ ≤ _; exact Nat.le_of_eq rfl) (by decide)
      have V32 : Arv Z h32 t k .char (4 : Int32) [(.int x0), (.int (0 : Int32)), (.int (0 : Int32)), (.int (0 : Int32))] (.int (0 : Int32)) := Vc32
      have Fn_33 := (F_v.keep K32 (ninS (Ne.symm hne) nin0))
      obtain ⟨T34, X34, e34, st34⟩ := getF X32 hx hZ hown (host := "") (Or.inl (hw _ (List.mem_of_getElem? (i := 12) rfl))) Via.refl e32 Fn_33 (g := (mkF m 105 #[rv a1, iv p2, iv (-2 : Int32), iv (1 : Int32)] [(.ref a1)])) rfl rfl (hb hby d3_105)
      obtain ⟨cl35, Ar35, q35, S35, M35, H35, G35⟩ := id V32
      have hin35 : ¬ ((1 : Int32) < 0 ∨ cl35.slots.size ≤ ((1 : Int32)).toNatClampNeg) := inb_of S35 ⟨by decide, by decide⟩
      obtain ⟨T35, h35, X35, e35, W35, st35⟩ := stC X34 hx hZ e34 Ar35 (j := (1 : Int32)) hin35 (g := (mkF m 110 #[rv a1, iv p2, iv (-2 : Int32), iv (1 : Int32)] [(.int p2), (.int (1 : Int32)), (.ref t)])) rfl rfl (hb hby d3_110)
      have V35 : Arv Z h35 t k .char (4 : Int32) [(.int x0), (.int (nar .char p2)), (.int (0 : Int32)), (.int (0 : Int32))] (.int (0 : Int32)) := Arv.set Ar35 q35 S35 M35 H35 G35 (fits_nar_char _) W35 1 rfl (Nat.le_of_ble_eq_true rfl)
      have N35 := Fr.snoc X35 N32 g_t
      have Fn_36 := ((F_c'.keep K32 (ninS (Ne.symm hne) nin0)).other W35 (Or.inl (Ne.symm hne)))
      obtain ⟨T37, X37, e37, st37⟩ := getF X35 hx hZ hown (host := "") (Or.inl (hw _ (List.mem_of_getElem? (i := 14) rfl))) Via.refl e35 Fn_36 (g := (mkF m 113 #[rv a1, iv p2, iv (-2 : Int32), iv (1 : Int32)] [(.ref a1), (.ref a1)])) rfl rfl (hb hby d3_113)
      have En_38 := ((E_a1.keep K32).wr W35)
      obtain ⟨T39, h39, X39, e39, W39, st39⟩ := putF X37 hx hZ hown (host := "") (Or.inl (hw _ (List.mem_of_getElem? (i := 14) rfl))) Via.refl e37 Fn_36 En_38 (Or.inl (hw _ (List.mem_of_getElem? (i := 15) rfl))) (hw _ (List.mem_of_getElem? (i := 3) rfl)) (ty := .int) (by decide) rfl rfl (g := (mkF m 118 #[rv a1, iv p2, iv (-2 : Int32), iv (1 : Int32)] [(.int (2 : Int32)), (.ref a1)])) rfl rfl (hb hby d3_118)
      have Fw39 := Fn_36.same W39
      have N39 := Fr.snoc X39 N35 g_a1
      have pre40 : ∀ tg, own_S p e below T39 m 122 #[rv a1, iv p2, iv (-2 : Int32), iv (1 : Int32)] [(.ref a1)] tg → Steps p.tables e below (s₁.setTop (entryFrame m #[(.ref a1), (.int p2)] 4)) tg := fun tg k => pre4 tg (by
        show own_S p e below T3 m 13 #[rv a1, iv p2, .unset, .unset] [(.int (-2 : Int32))] _
        refine XS.istoreN X3.here hx rfl (hb hby d3_13) rfl (l' := #[rv a1, iv p2, iv (-2 : Int32), .unset]) rfl ?_
        refine XS.iloadN X3.here hx rfl (hb hby d3_14) rfl ?_
        refine XS.ifYes X3.here hx rfl (pc0 := 15) (pc' := 20) rfl (hb hby d3_15) rfl ((if0 _ _).trans (tlt (by decide : (-2 : Int32) < (0 : Int32))).1) (by decide) (by decide) ?_
        show own_S p e below T3 m 20 #[rv a1, iv p2, iv (-2 : Int32), .unset] [] _
        refine XS.aloadN X3.here hx rfl (hb hby d3_20) rfl rfl ?_
        refine st25 _ ?_
        refine XS.sipush X25.here hx rfl (hb hby d3_24) ?_
        show own_S p e below T25 m 27 #[rv a1, iv p2, iv (-2 : Int32), .unset] [(.int (4096 : Int32)), (.int (1 : Int32))] _
        refine XS.icmpYes X25.here hx rfl (pc0 := 27) (pc' := 42) rfl (hb hby d3_27) rfl (feq (by decide : ¬ ((1 : Int32) = (4096 : Int32)))).2 (by decide) (by decide) ?_
        refine XS.iloadN X25.here hx rfl (hb hby d3_42) rfl ?_
        refine XS.ineg X25.here hx rfl (hb hby d3_43) rfl ?_
        show own_S p e below T25 m 44 #[rv a1, iv p2, iv (-2 : Int32), .unset] [(.int (2 : Int32))] _
        refine XS.iconst X25.here hx rfl (hb hby d3_44) ?_
        refine XS.isub X25.here hx rfl (hb hby d3_45) rfl ?_
        refine XS.istoreN X25.here hx rfl (hb hby d3_46) rfl (l' := #[rv a1, iv p2, iv (-2 : Int32), iv (1 : Int32)]) rfl ?_
        show own_S p e below T25 m 47 #[rv a1, iv p2, iv (-2 : Int32), iv (1 : Int32)] [] _
        refine XS.aloadN X25.here hx rfl (hb hby d3_47) rfl rfl ?_
        refine st26 _ ?_
        refine XS.aloadN X26.here hx rfl (hb hby d3_51) rfl rfl ?_
        show own_S p e below T26 m 52 #[rv a1, iv p2, iv (-2 : Int32), iv (1 : Int32)] [(.ref a1), (.int (1 : Int32))] _
        refine st27 _ ?_
        refine X27.arraylength hx (by rw [e27]; exact Ar28.1) (State.isArrayOf_alike hZ.alike Ar28.2.1) (g := (mkF m 55 #[rv a1, iv p2, iv (-2 : Int32), iv (1 : Int32)] [(.ref t), (.int (1 : Int32))])) rfl rfl (hb hby d3_55) _ ?_
        rw [len_of S28 M28]
        refine XS.icmpYes X27.here hx rfl (pc0 := 56) (pc' := 83) rfl (hb hby d3_56) rfl (feq (by decide : ¬ ((1 : Int32) = (4 : Int32)))).2 (by decide) (by decide) ?_
        show own_S p e below T27 m 83 #[rv a1, iv p2, iv (-2 : Int32), iv (1 : Int32)] [] _
        refine XS.aloadN X27.here hx rfl (hb hby d3_83) rfl rfl ?_
        refine st29 _ ?_
        refine XS.iloadN X29.here hx rfl (hb hby d3_87) rfl ?_
        show own_S p e below T29 m 88 #[rv a1, iv p2, iv (-2 : Int32), iv (1 : Int32)] [(.int (1 : Int32)), (.ref t)] _
        refine XS.aloadN X29.here hx rfl (hb hby d3_88) rfl rfl ?_
        refine st30 _ ?_
        refine XS.iloadN X30.here hx rfl (hb hby d3_92) rfl ?_
        show own_S p e below T30 m 93 #[rv a1, iv p2, iv (-2 : Int32), iv (1 : Int32)] [(.int (1 : Int32)), (.ref t), (.int (1 : Int32)), (.ref t)] _
        refine XS.iconst X30.here hx rfl (hb hby d3_93) ?_
        refine XS.iadd X30.here hx rfl (hb hby d3_94) rfl ?_
        refine XS.aloadN X30.here hx rfl (hb hby d3_95) rfl rfl ?_
        show own_S p e below T30 m 96 #[rv a1, iv p2, iv (-2 : Int32), iv (1 : Int32)] [(.ref a1), (.int (2 : Int32)), (.ref t), (.int (1 : Int32)), (.ref t)] _
        refine st31 _ ?_
        refine XS.iloadN X31.here hx rfl (hb hby d3_99) rfl ?_
        refine XS.isub X31.here hx rfl (hb hby d3_100) rfl ?_
        show own_S p e below T31 m 101 #[rv a1, iv p2, iv (-2 : Int32), iv (1 : Int32)] [(.int (0 : Int32)), (.int (2 : Int32)), (.ref t), (.int (1 : Int32)), (.ref t)] _
        refine st32 _ ?_
        refine XS.aloadN X32.here hx rfl (hb hby d3_104) rfl rfl ?_
        refine st34 _ ?_
        show own_S p e below T34 m 108 #[rv a1, iv p2, iv (-2 : Int32), iv (1 : Int32)] [(.ref t)] _
        refine XS.iloadN X34.here hx rfl (hb hby d3_108) rfl ?_
        refine XS.iloadN X34.here hx rfl (hb hby d3_109) rfl ?_
        refine st35 _ ?_
        show own_S p e below T35 m 111 #[rv a1, iv p2, iv (-2 : Int32), iv (1 : Int32)] [] _
        refine XS.aloadN X35.here hx rfl (hb hby d3_111) rfl rfl ?_
        refine XS.dup X35.here hx rfl (hb hby d3_112) rfl rfl ?_
        refine st37 _ ?_
        show own_S p e below T37 m 116 #[rv a1, iv p2, iv (-2 : Int32), iv (1 : Int32)] [(.int (1 : Int32)), (.ref a1)] _
        refine XS.iconst X37.here hx rfl (hb hby d3_116) ?_
        refine XS.iadd X37.here hx rfl (hb hby d3_117) rfl ?_
        refine st39 _ ?_
        show own_S p e below T39 m 121 #[rv a1, iv p2, iv (-2 : Int32), iv (1 : Int32)] [] _
        refine XS.aloadN X39.here hx rfl (hb hby d3_121) rfl rfl ?_
        exact k)
      obtain ⟨fs, hr, hrun, hended, hW, hsame⟩ := X39.leave (v := some (.ref a1)) (fun h => by rw [Bd.returns] at h; cases h)
      refine ⟨_, _, pre40 _ ?_, hrun, hended, _, _, rfl, ?_, ⟨_, rfl⟩, hW, hsame.mono (by decide) (by decide)⟩
      · show own_S p e below T39 m 122 #[rv a1, iv p2, iv (-2 : Int32), iv (1 : Int32)] [(.ref a1)] _
        exact retOut X39 hx (t := (.object "com/example/bitstrata/bitstrata/Container")) Bd.returns rfl (Or.inr (Or.inr (Or.inr (Or.inr ⟨rfl, rfl, rfl⟩)))) (hb hby d3_122) hr
      · show QAdd Z a1 p2 t k [x0] h0 n0 _ T39.heap _
        rw [e39]
        have En_41 := (En_38.wr W39)
        have Fn_42 := ((Fn_33.other W35 (Or.inl (Ne.symm hne))).other W39 (Or.inr (slot_ne (Or.inl (hw _ (List.mem_of_getElem? (i := 13) rfl))) (Or.inl (hw _ (List.mem_of_getElem? (i := 15) rfl))) (by decide) (t := (.array .char)) (t' := .int) (by decide) (by decide))))
        have Vn_43 := (V35.other W39 hne)
        rw [hk] at Vn_43
        refine ⟨[x0, p2], t, _, rfl, N39, ((((Keep.refl h0 [a1, t]).trans K32 (allS (Or.inl (List.mem_of_getElem? (i := 1) rfl)) all0)).wr W35 (Or.inl (List.mem_of_getElem? (i := 1) rfl))).wr W39 (Or.inl (List.mem_of_getElem? (i := 0) rfl))), En_41, Fn_42, Fw39, Vn_43, g_t, hne, Or.inl rfl, Nat.le_of_ble_eq_true rfl, Nat.le_of_ble_eq_true rfl, ?_, ?_, ?_⟩
        · exact ⟨(by first | assumption | exact own_tr (by assumption) (by assumption)), trivial⟩
        · intro x hx; simp only [List.mem_cons, List.not_mem_nil, or_false] at hx; rcases hx with rfl | rfl <;> first | exact hk | exact hch _ (by simp)
        · intro x; simp only [List.mem_cons, List.not_mem_nil, or_false]; try (constructor; (intro h; rcases h with h | h <;> simp [h]); (intro h; rcases h with h | h <;> simp [h]))
  ·  -- case
    obtain ⟨x0, x1, rfl⟩ := own_len2 hl
    have F_c' : Fld Z h0 a1 "com/example/bitstrata/bitstrata/ArrayContainer" "cardinality" "I" (.int (2 : Int32)) := F_c
    have V_t' : Arv Z h0 t k .char (4 : Int32) [(.int x0), (.int x1), (.int (0 : Int32)), (.int (0 : Int32))] (.int (0 : Int32)) := V_t
    have s01 : x0 < x1 := hs.1
    obtain ⟨T44, X44, e44, st44⟩ := getF X0 hx hZ hown (host := "") (Or.inl (hw _ (List.mem_of_getElem? (i := 12) rfl))) Via.refl e0 F_v (g := (mkF m 1 #[rv a1, iv p2, .unset, .unset] [(.ref a1)])) rfl rfl (hb hby d3_1)
    obtain ⟨T45, X45, e45, st45⟩ := getF X44 hx hZ hown (host := "") (Or.inl (hw _ (List.mem_of_getElem? (i := 14) rfl))) Via.refl e44 F_c' (g := (mkF m 6 #[rv a1, iv p2, .unset, .unset] [(.ref a1), (.int (0 : Int32)), (.ref t)])) rfl rfl (hb hby d3_6)
    obtain ⟨_, _, ⟨T46, L46, k46, n46⟩, -, X46, ⟨Lc46, hQ46, l46, y46, z46⟩, st46⟩ := Jvm.LawKit.callS X45 hx (y := (⟨"java/util/Arrays", "binarySearch", "([CIIC)I"⟩ : MethodName)) hown (mvT hZ (hw _ (List.mem_of_getElem? (i := 25) rfl))) (mvT hZ (hw _ (List.mem_of_getElem? (i := 26) rfl))) (mvT hZ (hw _ (List.mem_of_getElem? (i := 27) rfl))) (mvT hZ (hw _ (List.mem_of_getElem? (i := 28) rfl))) (by decide) (backOf (W := 0) (rmS2 l Z a0 hw [] t p2 k x0 x1 h0 n0 Z0 V_t') hZ (hw _ (List.mem_of_getElem? (i := 28) rfl)) (hw _ (List.mem_of_getElem? (i := 27) rfl)) (by decide) (by decide)) (g := (mkF m 10 #[rv a1, iv p2, .unset, .unset] [(.int p2), (.int (2 : Int32)), (.int (0 : Int32)), (.ref t)])) rfl (by rw [hml]; rfl) (argsL := [(.ref t), (.int (0 : Int32)), (.int (2 : Int32)), (.int p2)]) (rest := []) (lenOf pd_1 rfl) rfl (by show 2 * 0 + _ ≤ _; exact Nat.le_of_eq rfl) (hb hby d3_10) (fun _ _ => ⟨rfl, e45, (by decide : 0 + 0 ≤ _), (by decide : 0 + 0 ≤ _)⟩)
    dsimp only [Pt.U, Pt.locs, Pt.cells, Pt.slots] at X46 l46 y46 z46 st46 hQ46
    subst l46 y46 z46
    obtain ⟨r46, rfl, N46q, e46q, hD46⟩ := hQ46
    have N46 := Fr.app N0 N46q
    have e46 : T46.heap = h0 := e46q
    have pre47 : ∀ tg, own_S p e below T46 m 13 #[rv a1, iv p2, .unset, .unset] [(.int r46)] tg → Steps p.tables e below (s₁.setTop (entryFrame m #[(.ref a1), (.int p2)] 4)) tg := fun tg k => pre0 tg (by
      show own_S p e below s₁ m 0 #[rv a1, iv p2, .unset, .unset] [] _
      refine XS.aloadN X0.here hx rfl (hb hby d3_0) rfl rfl ?_
      refine st44 _ ?_
      refine XS.iconst X44.here hx rfl (hb hby d3_4) ?_
      show own_S p e below T44 m 5 #[rv a1, iv p2, .unset, .unset] [(.int (0 : Int32)), (.ref t)] _
      refine XS.aloadN X44.here hx rfl (hb hby d3_5) rfl rfl ?_
      refine st45 _ ?_
      refine XS.iloadN X45.here hx rfl (hb hby d3_9) rfl ?_
      show own_S p e below T45 m 10 #[rv a1, iv p2, .unset, .unset] [(.int p2), (.int (2 : Int32)), (.int (0 : Int32)), (.ref t)] _
      refine st46 _ ?_
      exact k)
    rcases hD46 with ⟨rfl, q0⟩ | ⟨rfl, q0⟩ | ⟨rfl, q0⟩ | ⟨rfl, q0, q1⟩ | ⟨rfl, q0⟩
    ·  -- case
      have pre48 : ∀ tg, own_S p e below T46 m 19 #[rv a1, iv p2, iv (0 : Int32), .unset] [(.ref a1)] tg → Steps p.tables e below (s₁.setTop (entryFrame m #[(.ref a1), (.int p2)] 4)) tg := fun tg k => pre47 tg (by
        show own_S p e below T46 m 13 #[rv a1, iv p2, .unset, .unset] [(.int (0 : Int32))] _
        refine XS.istoreN X46.here hx rfl (hb hby d3_13) rfl (l' := #[rv a1, iv p2, iv (0 : Int32), .unset]) rfl ?_
        refine XS.iloadN X46.here hx rfl (hb hby d3_14) rfl ?_
        refine XS.ifNo X46.here hx rfl (hb hby d3_15) rfl ((if0 _ _).trans (flt (by decide : ¬ ((0 : Int32) < (0 : Int32)))).1) ?_
        show own_S p e below T46 m 18 #[rv a1, iv p2, iv (0 : Int32), .unset] [] _
        refine XS.aloadN X46.here hx rfl (hb hby d3_18) rfl rfl ?_
        exact k)
      obtain ⟨fs, hr, hrun, hended, hW, hsame⟩ := X46.leave (v := some (.ref a1)) (fun h => by rw [Bd.returns] at h; cases h)
      refine ⟨_, _, pre48 _ ?_, hrun, hended, _, _, rfl, ?_, ⟨_, rfl⟩, hW, hsame.mono (by decide) (by decide)⟩
      · show own_S p e below T46 m 19 #[rv a1, iv p2, iv (0 : Int32), .unset] [(.ref a1)] _
        exact retOut X46 hx (t := (.object "com/example/bitstrata/bitstrata/Container")) Bd.returns rfl (Or.inr (Or.inr (Or.inr (Or.inr ⟨rfl, rfl, rfl⟩)))) (hb hby d3_19) hr
      · show QAdd Z a1 p2 t k [x0, x1] h0 n0 _ T46.heap _
        rw [e46]
        refine ⟨[x0, x1], t, _, rfl, N46, (Keep.refl h0 [a1, t]), E_a1, F_v, F_c', V_t', g_t, hne, Or.inl rfl, Nat.le_of_ble_eq_true rfl, Nat.le_of_ble_eq_true rfl, ?_, ?_, ?_⟩
        · exact ⟨(by first | assumption | exact own_tr (by assumption) (by assumption)), trivial⟩
        · exact hch
        · intro x; simp only [List.mem_cons, List.not_mem_nil, or_false]
          constructor
          · intro h; exact Or.inl h
          · intro h; rcases h with h | h
            · exact h
            · simp [h, ← q0]
    ·  -- case
      have pre49 : ∀ tg, own_S p e below T46 m 19 #[rv a1, iv p2, iv (1 : Int32), .unset] [(.ref a1)] tg → Steps p.tables e below (s₁.setTop (entryFrame m #[(.ref a1), (.int p2)] 4)) tg := fun tg k => pre47 tg (by
        show own_S p e below T46 m 13 #[rv a1, iv p2, .unset, .unset] [(.int (1 : Int32))] _
        refine XS.istoreN X46.here hx rfl (hb hby d3_13) rfl (l' := #[rv a1, iv p2, iv (1 : Int32), .unset]) rfl ?_
        refine XS.iloadN X46.here hx rfl (hb hby d3_14) rfl ?_
        refine XS.ifNo X46.here hx rfl (hb hby d3_15) rfl ((if0 _ _).trans (flt (by decide : ¬ ((1 : Int32) < (0 : Int32)))).1) ?_
        show own_S p e below T46 m 18 #[rv a1, iv p2, iv (1 : Int32), .unset] [] _
        refine XS.aloadN X46.here hx rfl (hb hby d3_18) rfl rfl ?_
        exact k)
      obtain ⟨fs, hr, hrun, hended, hW, hsame⟩ := X46.leave (v := some (.ref a1)) (fun h => by rw [Bd.returns] at h; cases h)
      refine ⟨_, _, pre49 _ ?_, hrun, hended, _, _, rfl, ?_, ⟨_, rfl⟩, hW, hsame.mono (by decide) (by decide)⟩
      · show own_S p e below T46 m 19 #[rv a1, iv p2, iv (1 : Int32), .unset] [(.ref a1)] _
        exact retOut X46 hx (t := (.object "com/example/bitstrata/bitstrata/Container")) Bd.returns rfl (Or.inr (Or.inr (Or.inr (Or.inr ⟨rfl, rfl, rfl⟩)))) (hb hby d3_19) hr
      · show QAdd Z a1 p2 t k [x0, x1] h0 n0 _ T46.heap _
        rw [e46]
        refine ⟨[x0, x1], t, _, rfl, N46, (Keep.refl h0 [a1, t]), E_a1, F_v, F_c', V_t', g_t, hne, Or.inl rfl, Nat.le_of_ble_eq_true rfl, Nat.le_of_ble_eq_true rfl, ?_, ?_, ?_⟩
        · exact ⟨(by first | assumption | exact own_tr (by assumption) (by assumption)), trivial⟩
        · exact hch
        · intro x; simp only [List.mem_cons, List.not_mem_nil, or_false]
          constructor
          · intro h; exact Or.inl h
          · intro h; rcases h with h | h
            · exact h
            · simp [h, ← q0]
    ·  -- case
      obtain ⟨T50, X50, e50, st50⟩ := getF X46 hx hZ hown (host := "") (Or.inl (hw _ (List.mem_of_getElem? (i := 14) rfl))) Via.refl e46 F_c' (g := (mkF m 21 #[rv a1, iv p2, iv (-1 : Int32), .unset] [(.ref a1)])) rfl rfl (hb hby d3_21)
      obtain ⟨T51, X51, e51, st51⟩ := getF X50 hx hZ hown (host := "") (Or.inl (hw _ (List.mem_of_getElem? (i := 14) rfl))) Via.refl e50 F_c' (g := (mkF m 48 #[rv a1, iv p2, iv (-1 : Int32), iv (0 : Int32)] [(.ref a1)])) rfl rfl (hb hby d3_48)
      obtain ⟨T52, X52, e52, st52⟩ := getF X51 hx hZ hown (host := "") (Or.inl (hw _ (List.mem_of_getElem? (i := 12) rfl))) Via.refl e51 F_v (g := (mkF m 52 #[rv a1, iv p2, iv (-1 : Int32), iv (0 : Int32)] [(.ref a1), (.int (2 : Int32))])) rfl rfl (hb hby d3_52)
      obtain ⟨cl53, Ar53, q53, S53, M53, -, -⟩ := id V_t'
      obtain ⟨T54, X54, e54, st54⟩ := getF X52 hx hZ hown (host := "") (Or.inl (hw _ (List.mem_of_getElem? (i := 12) rfl))) Via.refl e52 F_v (g := (mkF m 84 #[rv a1, iv p2, iv (-1 : Int32), iv (0 : Int32)] [(.ref a1)])) rfl rfl (hb hby d3_84)
      obtain ⟨T55, X55, e55, st55⟩ := getF X54 hx hZ hown (host := "") (Or.inl (hw _ (List.mem_of_getElem? (i := 12) rfl))) Via.refl e54 F_v (g := (mkF m 89 #[rv a1, iv p2, iv (-1 : Int32), iv (0 : Int32)] [(.ref a1), (.int (0 : Int32)), (.ref t)])) rfl rfl (hb hby d3_89)
      obtain ⟨T56, X56, e56, st56⟩ := getF X55 hx hZ hown (host := "") (Or.inl (hw _ (List.mem_of_getElem? (i := 14) rfl))) Via.refl e55 F_c' (g := (mkF m 96 #[rv a1, iv p2, iv (-1 : Int32), iv (0 : Int32)] [(.ref a1), (.int (1 : Int32)), (.ref t), (.int (0 : Int32)), (.ref t)])) rfl rfl (hb hby d3_96)
      obtain ⟨T57, h57, L57, X57, e57, N57, K57, Vc57, st57⟩ := cpA X56 hx hZ hown (hw _ (List.mem_of_getElem? (i := 35) rfl)) (hw _ (List.mem_of_getElem? (i := 38) rfl)) (hw _ (List.mem_of_getElem? (i := 36) rfl)) (hw _ (List.mem_of_getElem? (i := 37) rfl)) e56 (us := [(.int x0), (.int x1)]) (sp := (0 : Int32)) (dp := (1 : Int32)) (nn := (2 : Int32)) V_t' V_t' (Or.inl ⟨rfl, rfl⟩) (by decide) (by decide) (by decide) (by decide) (by decide) rfl (Nat.le_of_ble_eq_true rfl) N46 g_t (g := (mkF m 101 #[rv a1, iv p2, iv (-1 : Int32), iv (0 : Int32)] [(.int (2 : Int32)), (.int (1 : Int32)), (.ref t), (.int (0 : Int32)), (.ref t)])) rfl (by rw [hml]; rfl) rfl (hb hby d3_101) (by decide) (W := 0) (by show 2 * 0 + _ ≤ _; exact Nat.le_of_eq rfl) (by decide)
      have V57 : Arv Z h57 t k .char (4 : Int32) [(.int x0), (.int x0), (.int x1), (.int (0 : Int32))] (.int (0 : Int32)) := Vc57
      have Fn_58 := (F_v.keep K57 (ninS (Ne.symm hne) nin0))
      obtain ⟨T59, X59, e59, st59⟩ := getF X57 hx hZ hown (host := "") (Or.inl (hw _ (List.mem_of_getElem? (i := 12) rfl))) Via.refl e57 Fn_58 (g := (mkF m 105 #[rv a1, iv p2, iv (-1 : Int32), iv (0 : Int32)] [(.ref a1)])) rfl rfl (hb hby d3_105)
      obtain ⟨cl60, Ar60, q60, S60, M60, H60, G60⟩ := id V57
      have hin60 : ¬ ((0 : Int32) < 0 ∨ cl60.slots.size ≤ ((0 : Int32)).toNatClampNeg) := inb_of S60 ⟨by decide, by decide⟩
      obtain ⟨T60, h60, X60, e60, W60, st60⟩ := stC X59 hx hZ e59 Ar60 (j := (0 : Int32)) hin60 (g := (mkF m 110 #[rv a1, iv p2, iv (-1 : Int32), iv (0 : Int32)] [(.int p2), (.int (0 : Int32)), (.ref t)])) rfl rfl (hb hby d3_110)
      have V60 : Arv Z h60 t k .char (4 : Int32) [(.int (nar .char p2)), (.int x0), (.int x1), (.int (0 : Int32))] (.int (0 : Int32)) := Arv.set Ar60 q60 S60 M60 H60 G60 (fits_nar_char _) W60 0 rfl (Nat.le_of_ble_eq_true rfl)
      have N60 := Fr.snoc X60 N57 g_t
      have Fn_61 := ((F_c'.keep K57 (ninS (Ne.symm hne) nin0)).other W60 (Or.inl (Ne.symm hne)))
      obtain ⟨T62, X62, e62, st62⟩ := getF X60 hx hZ hown (host := "") (Or.inl (hw _ (List.mem_of_getElem? (i := 14) rfl))) Via.refl e60 Fn_61 (g := (mkF m 113 #[rv a1, iv p2, iv (-1 : Int32), iv (0 : Int32)] [(.ref a1), (.ref a1)])) rfl rfl (hb hby d3_113)
      have En_63 := ((E_a1.keep K57).wr W60)
      obtain ⟨T64, h64, X64, e64, W64, st64⟩ := putF X62 hx hZ hown (host := "") (Or.inl (hw _ (List.mem_of_getElem? (i := 14) rfl))) Via.refl e62 Fn_61 En_63 (Or.inl (hw _ (List.mem_of_getElem? (i := 15) rfl))) (hw _ (List.mem_of_getElem? (i := 3) rfl)) (ty := .int) (by decide) rfl rfl (g := (mkF m 118 #[rv a1, iv p2, iv (-1 : Int32), iv (0 : Int32)] [(.int (3 : Int32)), (.ref a1)])) rfl rfl (hb hby d3_118)
      have Fw64 := Fn_61.same W64
      have N64 := Fr.snoc X64 N60 g_a1
      have pre65 : ∀ tg, own_S p e below T64 m 122 #[rv a1, iv p2, iv (-1 : Int32), iv (0 : Int32)] [(.ref a1)] tg → Steps p.tables e below (s₁.setTop (entryFrame m #[(.ref a1), (.int p2)] 4)) tg := fun tg k => pre47 tg (by
        show own_S p e below T46 m 13 #[rv a1, iv p2, .unset, .unset] [(.int (-1 : Int32))] _
        refine XS.istoreN X46.here hx rfl (hb hby d3_13) rfl (l' := #[rv a1, iv p2, iv (-1 : Int32), .unset]) rfl ?_
        refine XS.iloadN X46.here hx rfl (hb hby d3_14) rfl ?_
        refine XS.ifYes X46.here hx rfl (pc0 := 15) (pc' := 20) rfl (hb hby d3_15) rfl ((if0 _ _).trans (tlt (by decide : (-1 : Int32) < (0 : Int32))).1) (by decide) (by decide) ?_
        show own_S p e below T46 m 20 #[rv a1, iv p2, iv (-1 : Int32), .unset] [] _
        refine XS.aloadN X46.here hx rfl (hb hby d3_20) rfl rfl ?_
        refine st50 _ ?_
        refine XS.sipush X50.here hx rfl (hb hby d3_24) ?_
        show own_S p e below T50 m 27 #[rv a1, iv p2, iv (-1 : Int32), .unset] [(.int (4096 : Int32)), (.int (2 : Int32))] _
        refine XS.icmpYes X50.here hx rfl (pc0 := 27) (pc' := 42) rfl (hb hby d3_27) rfl (feq (by decide : ¬ ((2 : Int32) = (4096 : Int32)))).2 (by decide) (by decide) ?_
        refine XS.iloadN X50.here hx rfl (hb hby d3_42) rfl ?_
        refine XS.ineg X50.here hx rfl (hb hby d3_43) rfl ?_
        show own_S p e below T50 m 44 #[rv a1, iv p2, iv (-1 : Int32), .unset] [(.int (1 : Int32))] _
        refine XS.iconst X50.here hx rfl (hb hby d3_44) ?_
        refine XS.isub X50.here hx rfl (hb hby d3_45) rfl ?_
        refine XS.istoreN X50.here hx rfl (hb hby d3_46) rfl (l' := #[rv a1, iv p2, iv (-1 : Int32), iv (0 : Int32)]) rfl ?_
        show own_S p e below T50 m 47 #[rv a1, iv p2, iv (-1 : Int32), iv (0 : Int32)] [] _
        refine XS.aloadN X50.here hx rfl (hb hby d3_47) rfl rfl ?_
        refine st51 _ ?_
        refine XS.aloadN X51.here hx rfl (hb hby d3_51) rfl rfl ?_
        show own_S p e below T51 m 52 #[rv a1, iv p2, iv (-1 : Int32), iv (0 : Int32)] [(.ref a1), (.int (2 : Int32))] _
        refine st52 _ ?_
        refine X52.arraylength hx (by rw [e52]; exact Ar53.1) (State.isArrayOf_alike hZ.alike Ar53.2.1) (g := (mkF m 55 #[rv a1, iv p2, iv (-1 : Int32), iv (0 : Int32)] [(.ref t), (.int (2 : Int32))])) rfl rfl (hb hby d3_55) _ ?_
        rw [len_of S53 M53]
        refine XS.icmpYes X52.here hx rfl (pc0 := 56) (pc' := 83) rfl (hb hby d3_56) rfl (feq (by decide : ¬ ((2 : Int32) = (4 : Int32)))).2 (by decide) (by decide) ?_
        show own_S p e below T52 m 83 #[rv a1, iv p2, iv (-1 : Int32), iv (0 : Int32)] [] _
        refine XS.aloadN X52.here hx rfl (hb hby d3_83) rfl rfl ?_
        refine st54 _ ?_
        refine XS.iloadN X54.here hx rfl (hb hby d3_87) rfl ?_
        show own_S p e below T54 m 88 #[rv a1, iv p2, iv (-1 : Int32), iv (0 : Int32)] [(.int (0 : Int32)), (.ref t)] _
        refine XS.aloadN X54.here hx rfl (hb hby d3_88) rfl rfl ?_
        refine st55 _ ?_
        refine XS.iloadN X55.here hx rfl (hb hby d3_92) rfl ?_
        show own_S p e below T55 m 93 #[rv a1, iv p2, iv (-1 : Int32), iv (0 : Int32)] [(.int (0 : Int32)), (.ref t), (.int (0 : Int32)), (.ref t)] _
        refine XS.iconst X55.here hx rfl (hb hby d3_93) ?_
        refine XS.iadd X55.here hx rfl (hb hby d3_94) rfl ?_
        refine XS.aloadN X55.here hx rfl (hb hby d3_95) rfl rfl ?_
        show own_S p e below T55 m 96 #[rv a1, iv p2, iv (-1 : Int32), iv (0 : Int32)] [(.ref a1), (.int (1 : Int32)), (.ref t), (.int (0 : Int32)), (.ref t)] _
        refine st56 _ ?_
        refine XS.iloadN X56.here hx rfl (hb hby d3_99) rfl ?_
        refine XS.isub X56.here hx rfl (hb hby d3_100) rfl ?_
        show own_S p e below T56 m 101 #[rv a1, iv p2, iv (-1 : Int32), iv (0 : Int32)] [(.int (2 : Int32)), (.int (1 : Int32)), (.ref t), (.int (0 : Int32)), (.ref t)] _
        refine st57 _ ?_
        refine XS.aloadN X57.here hx rfl (hb hby d3_104) rfl rfl ?_
        refine st59 _ ?_
        show own_S p e below T59 m 108 #[rv a1, iv p2, iv (-1 : Int32), iv (0 : Int32)] [(.ref t)] _
        refine XS.iloadN X59.here hx rfl (hb hby d3_108) rfl ?_
        refine XS.iloadN X59.here hx rfl (hb hby d3_109) rfl ?_
        refine st60 _ ?_
        show own_S p e below T60 m 111 #[rv a1, iv p2, iv (-1 : Int32), iv (0 : Int32)] [] _
        refine XS.aloadN X60.here hx rfl (hb hby d3_111) rfl rfl ?_
        refine XS.dup X60.here hx rfl (hb hby d3_112) rfl rfl ?_
        refine st62 _ ?_
        show own_S p e below T62 m 116 #[rv a1, iv p2, iv (-1 : Int32), iv (0 : Int32)] [(.int (2 : Int32)), (.ref a1)] _
        refine XS.iconst X62.here hx rfl (hb hby d3_116) ?_
        refine XS.iadd X62.here hx rfl (hb hby d3_117) rfl ?_
        refine st64 _ ?_
        show own_S p e below T64 m 121 #[rv a1, iv p2, iv (-1 : Int32), iv (0 : Int32)] [] _
        refine XS.aloadN X64.here hx rfl (hb hby d3_121) rfl rfl ?_
        exact k)
      obtain ⟨fs, hr, hrun, hended, hW, hsame⟩ := X64.leave (v := some (.ref a1)) (fun h => by rw [Bd.returns] at h; cases h)
      refine ⟨_, _, pre65 _ ?_, hrun, hended, _, _, rfl, ?_, ⟨_, rfl⟩, hW, hsame.mono (by decide) (by decide)⟩
      · show own_S p e below T64 m 122 #[rv a1, iv p2, iv (-1 : Int32), iv (0 : Int32)] [(.ref a1)] _
        exact retOut X64 hx (t := (.object "com/example/bitstrata/bitstrata/Container")) Bd.returns rfl (Or.inr (Or.inr (Or.inr (Or.inr ⟨rfl, rfl, rfl⟩)))) (hb hby d3_122) hr
      · show QAdd Z a1 p2 t k [x0, x1] h0 n0 _ T64.heap _
        rw [e64]
        have En_66 := (En_63.wr W64)
        have Fn_67 := ((Fn_58.other W60 (Or.inl (Ne.symm hne))).other W64 (Or.inr (slot_ne (Or.inl (hw _ (List.mem_of_getElem? (i := 13) rfl))) (Or.inl (hw _ (List.mem_of_getElem? (i := 15) rfl))) (by decide) (t := (.array .char)) (t' := .int) (by decide) (by decide))))
        have Vn_68 := (V60.other W64 hne)
        rw [hk] at Vn_68
        refine ⟨[p2, x0, x1], t, _, rfl, N64, ((((Keep.refl h0 [a1, t]).trans K57 (allS (Or.inl (List.mem_of_getElem? (i := 1) rfl)) all0)).wr W60 (Or.inl (List.mem_of_getElem? (i := 1) rfl))).wr W64 (Or.inl (List.mem_of_getElem? (i := 0) rfl))), En_66, Fn_67, Fw64, Vn_68, g_t, hne, Or.inl rfl, Nat.le_of_ble_eq_true rfl, Nat.le_of_ble_eq_true rfl, ?_, ?_, ?_⟩
        · exact ⟨(by first | assumption | exact own_tr (by assumption) (by assumption)), (by first | assumption | exact own_tr (by assumption) (by assumption)), trivial⟩
        · intro x hx; simp only [List.mem_cons, List.not_mem_nil, or_false] at hx; rcases hx with rfl | rfl | rfl <;> first | exact hk | exact hch _ (by simp)
        · intro x; simp only [List.mem_cons, List.not_mem_nil, or_false]; try (constructor; (intro h; rcases h with h | h | h <;> simp [h]); (intro h; rcases h with (h | h) | h <;> simp [h]))
    ·  -- case
      obtain ⟨T69, X69, e69, st69⟩ := getF X46 hx hZ hown (host := "") (Or.inl (hw _ (List.mem_of_getElem? (i := 14) rfl))) Via.refl e46 F_c' (g := (mkF m 21 #[rv a1, iv p2, iv (-2 : Int32), .unset] [(.ref a1)])) rfl rfl (hb hby d3_21)
      obtain ⟨T70, X70, e70, st70⟩ := getF X69 hx hZ hown (host := "") (Or.inl (hw _ (List.mem_of_getElem? (i := 14) rfl))) Via.refl e69 F_c' (g := (mkF m 48 #[rv a1, iv p2, iv (-2 : Int32), iv (1 : Int32)] [(.ref a1)])) rfl rfl (hb hby d3_48)
      obtain ⟨T71, X71, e71, st71⟩ := getF X70 hx hZ hown (host := "") (Or.inl (hw _ (List.mem_of_getElem? (i := 12) rfl))) Via.refl e70 F_v (g := (mkF m 52 #[rv a1, iv p2, iv (-2 : Int32), iv (1 : Int32)] [(.ref a1), (.int (2 : Int32))])) rfl rfl (hb hby d3_52)
      obtain ⟨cl72, Ar72, q72, S72, M72, -, -⟩ := id V_t'
      obtain ⟨T73, X73, e73, st73⟩ := getF X71 hx hZ hown (host := "") (Or.inl (hw _ (List.mem_of_getElem? (i := 12) rfl))) Via.refl e71 F_v (g := (mkF m 84 #[rv a1, iv p2, iv (-2 : Int32), iv (1 : Int32)] [(.ref a1)])) rfl rfl (hb hby d3_84)
      obtain ⟨T74, X74, e74, st74⟩ := getF X73 hx hZ hown (host := "") (Or.inl (hw _ (List.mem_of_getElem? (i := 12) rfl))) Via.refl e73 F_v (g := (mkF m 89 #[rv a1, iv p2, iv (-2 : Int32), iv (1 : Int32)] [(.ref a1), (.int (1 : Int32)), (.ref t)])) rfl rfl (hb hby d3_89)
      obtain ⟨T75, X75, e75, st75⟩ := getF X74 hx hZ hown (host := "") (Or.inl (hw _ (List.mem_of_getElem? (i := 14) rfl))) Via.refl e74 F_c' (g := (mkF m 96 #[rv a1, iv p2, iv (-2 : Int32), iv (1 : Int32)] [(.ref a1), (.int (2 : Int32)), (.ref t), (.int (1 : Int32)), (.ref t)])) rfl rfl (hb hby d3_96)
      obtain ⟨T76, h76, L76, X76, e76, N76, K76, Vc76, st76⟩ := cpA X75 hx hZ hown (hw _ (List.mem_of_getElem? (i := 35) rfl)) (hw _ (List.mem_of_getElem? (i := 38) rfl)) (hw _ (List.mem_of_getElem? (i := 36) rfl)) (hw _ (List.mem_of_getElem? (i := 37) rfl)) e75 (us := [(.int x1)]) (sp := (1 : Int32)) (dp := (2 : Int32)) (nn := (1 : Int32)) V_t' V_t' (Or.inl ⟨rfl, rfl⟩) (by decide) (by decide) (by decide) (by decide) (by decide) rfl (Nat.le_of_ble_eq_true rfl) N46 g_t (g := (mkF m 101 #[rv a1, iv p2, iv (-2 : Int32), iv (1 : Int32)] [(.int (1 : Int32)), (.int (2 : Int32)), (.ref t), (.int (1 : Int32)), (.ref t)])) rfl (by rw [hml]; rfl) rfl (hb hby d3_101) (by decide) (W := 0) (by show 2 * 0 + _ ≤ _; exact Nat.le_of_eq rfl) (by decide)
      have V76 : Arv Z h76 t k .char (4 : Int32) [(.int x0), (.int x1), (.int x1), (.int (0 : Int32))] (.int (0 : Int32)) := Vc76
      have Fn_77 := (F_v.keep K76 (ninS (Ne.symm hne) nin0))
      obtain ⟨T78, X78, e78, st78⟩ := getF X76 hx hZ hown (host := "") (Or.inl (hw _ (List.mem_of_getElem? (i := 12) rfl))) Via.refl e76 Fn_77 (g := (mkF m 105 #[rv a1, iv p2, iv (-2 : Int32), iv (1 : Int32)] [(.ref a1)])) rfl rfl (hb hby d3_105)
      obtain ⟨cl79, Ar79, q79, S79, M79, H79, G79⟩ := id V76
      have hin79 : ¬ ((1 : Int32) < 0 ∨ cl79.slots.size ≤ ((1 : Int32)).toNatClampNeg) := inb_of S79 ⟨by decide, by decide⟩
      obtain ⟨T79, h79, X79, e79, W79, st79⟩ := stC X78 hx hZ e78 Ar79 (j := (1 : Int32)) hin79 (g := (mkF m 110 #[rv a1, iv p2, iv (-2 : Int32), iv (1 : Int32)] [(.int p2), (.int (1 : Int32)), (.ref t)])) rfl rfl (hb hby d3_110)
      have V79 : Arv Z h79 t k .char (4 : Int32) [(.int x0), (.int (nar .char p2)), (.int x1), (.int (0 : Int32))] (.int (0 : Int32)) := Arv.set Ar79 q79 S79 M79 H79 G79 (fits_nar_char _) W79 1 rfl (Nat.le_of_ble_eq_true rfl)
      have N79 := Fr.snoc X79 N76 g_t
      have Fn_80 := ((F_c'.keep K76 (ninS (Ne.symm hne) nin0)).other W79 (Or.inl (Ne.symm hne)))
      obtain ⟨T81, X81, e81, st81⟩ := getF X79 hx hZ hown (host := "") (Or.inl (hw _ (List.mem_of_getElem? (i := 14) rfl))) Via.refl e79 Fn_80 (g := (mkF m 113 #[rv a1, iv p2, iv (-2 : Int32), iv (1 : Int32)] [(.ref a1), (.ref a1)])) rfl rfl (hb hby d3_113)
      have En_82 := ((E_a1.keep K76).wr W79)
      obtain ⟨T83, h83, X83, e83, W83, st83⟩ := putF X81 hx hZ hown (host := "") (Or.inl (hw _ (List.mem_of_getElem? (i := 14) rfl))) Via.refl e81 Fn_80 En_82 (Or.inl (hw _ (List.mem_of_getElem? (i := 15) rfl))) (hw _ (List.mem_of_getElem? (i := 3) rfl)) (ty := .int) (by decide) rfl rfl (g := (mkF m 118 #[rv a1, iv p2, iv (-2 : Int32), iv (1 : Int32)] [(.int (3 : Int32)), (.ref a1)])) rfl rfl (hb hby d3_118)
      have Fw83 := Fn_80.same W83
      have N83 := Fr.snoc X83 N79 g_a1
      have pre84 : ∀ tg, own_S p e below T83 m 122 #[rv a1, iv p2, iv (-2 : Int32), iv (1 : Int32)] [(.ref a1)] tg → Steps p.tables e below (s₁.setTop (entryFrame m #[(.ref a1), (.int p2)] 4)) tg := fun tg k => pre47 tg (by
        show own_S p e below T46 m 13 #[rv a1, iv p2, .unset, .unset] [(.int (-2 : Int32))] _
        refine XS.istoreN X46.here hx rfl (hb hby d3_13) rfl (l' := #[rv a1, iv p2, iv (-2 : Int32), .unset]) rfl ?_
        refine XS.iloadN X46.here hx rfl (hb hby d3_14) rfl ?_
        refine XS.ifYes X46.here hx rfl (pc0 := 15) (pc' := 20) rfl (hb hby d3_15) rfl ((if0 _ _).trans (tlt (by decide : (-2 : Int32) < (0 : Int32))).1) (by decide) (by decide) ?_
        show own_S p e below T46 m 20 #[rv a1, iv p2, iv (-2 : Int32), .unset] [] _
        refine XS.aloadN X46.here hx rfl (hb hby d3_20) rfl rfl ?_
        refine st69 _ ?_
        refine XS.sipush X69.here hx rfl (hb hby d3_24) ?_
        show own_S p e below T69 m 27 #[rv a1, iv p2, iv (-2 : Int32), .unset] [(.int (4096 : Int32)), (.int (2 : Int32))] _
        refine XS.icmpYes X69.here hx rfl (pc0 := 27) (pc' := 42) rfl (hb hby d3_27) rfl (feq (by decide : ¬ ((2 : Int32) = (4096 : Int32)))).2 (by decide) (by decide) ?_
        refine XS.iloadN X69.here hx rfl (hb hby d3_42) rfl ?_
        refine XS.ineg X69.here hx rfl (hb hby d3_43) rfl ?_
        show own_S p e below T69 m 44 #[rv a1, iv p2, iv (-2 : Int32), .unset] [(.int (2 : Int32))] _
        refine XS.iconst X69.here hx rfl (hb hby d3_44) ?_
        refine XS.isub X69.here hx rfl (hb hby d3_45) rfl ?_
        refine XS.istoreN X69.here hx rfl (hb hby d3_46) rfl (l' := #[rv a1, iv p2, iv (-2 : Int32), iv (1 : Int32)]) rfl ?_
        show own_S p e below T69 m 47 #[rv a1, iv p2, iv (-2 : Int32), iv (1 : Int32)] [] _
        refine XS.aloadN X69.here hx rfl (hb hby d3_47) rfl rfl ?_
        refine st70 _ ?_
        refine XS.aloadN X70.here hx rfl (hb hby d3_51) rfl rfl ?_
        show own_S p e below T70 m 52 #[rv a1, iv p2, iv (-2 : Int32), iv (1 : Int32)] [(.ref a1), (.int (2 : Int32))] _
        refine st71 _ ?_
        refine X71.arraylength hx (by rw [e71]; exact Ar72.1) (State.isArrayOf_alike hZ.alike Ar72.2.1) (g := (mkF m 55 #[rv a1, iv p2, iv (-2 : Int32), iv (1 : Int32)] [(.ref t), (.int (2 : Int32))])) rfl rfl (hb hby d3_55) _ ?_
        rw [len_of S72 M72]
        refine XS.icmpYes X71.here hx rfl (pc0 := 56) (pc' := 83) rfl (hb hby d3_56) rfl (feq (by decide : ¬ ((2 : Int32) = (4 : Int32)))).2 (by decide) (by decide) ?_
        show own_S p e below T71 m 83 #[rv a1, iv p2, iv (-2 : Int32), iv (1 : Int32)] [] _
        refine XS.aloadN X71.here hx rfl (hb hby d3_83) rfl rfl ?_
        refine st73 _ ?_
        refine XS.iloadN X73.here hx rfl (hb hby d3_87) rfl ?_
        show own_S p e below T73 m 88 #[rv a1, iv p2, iv (-2 : Int32), iv (1 : Int32)] [(.int (1 : Int32)), (.ref t)] _
        refine XS.aloadN X73.here hx rfl (hb hby d3_88) rfl rfl ?_
        refine st74 _ ?_
        refine XS.iloadN X74.here hx rfl (hb hby d3_92) rfl ?_
        show own_S p e below T74 m 93 #[rv a1, iv p2, iv (-2 : Int32), iv (1 : Int32)] [(.int (1 : Int32)), (.ref t), (.int (1 : Int32)), (.ref t)] _
        refine XS.iconst X74.here hx rfl (hb hby d3_93) ?_
        refine XS.iadd X74.here hx rfl (hb hby d3_94) rfl ?_
        refine XS.aloadN X74.here hx rfl (hb hby d3_95) rfl rfl ?_
        show own_S p e below T74 m 96 #[rv a1, iv p2, iv (-2 : Int32), iv (1 : Int32)] [(.ref a1), (.int (2 : Int32)), (.ref t), (.int (1 : Int32)), (.ref t)] _
        refine st75 _ ?_
        refine XS.iloadN X75.here hx rfl (hb hby d3_99) rfl ?_
        refine XS.isub X75.here hx rfl (hb hby d3_100) rfl ?_
        show own_S p e below T75 m 101 #[rv a1, iv p2, iv (-2 : Int32), iv (1 : Int32)] [(.int (1 : Int32)), (.int (2 : Int32)), (.ref t), (.int (1 : Int32)), (.ref t)] _
        refine st76 _ ?_
        refine XS.aloadN X76.here hx rfl (hb hby d3_104) rfl rfl ?_
        refine st78 _ ?_
        show own_S p e below T78 m 108 #[rv a1, iv p2, iv (-2 : Int32), iv (1 : Int32)] [(.ref t)] _
        refine XS.iloadN X78.here hx rfl (hb hby d3_108) rfl ?_
        refine XS.iloadN X78.here hx rfl (hb hby d3_109) rfl ?_
        refine st79 _ ?_
        show own_S p e below T79 m 111 #[rv a1, iv p2, iv (-2 : Int32), iv (1 : Int32)] [] _
        refine XS.aloadN X79.here hx rfl (hb hby d3_111) rfl rfl ?_
        refine XS.dup X79.here hx rfl (hb hby d3_112) rfl rfl ?_
        refine st81 _ ?_
        show own_S p e below T81 m 116 #[rv a1, iv p2, iv (-2 : Int32), iv (1 : Int32)] [(.int (2 : Int32)), (.ref a1)] _
        refine XS.iconst X81.here hx rfl (hb hby d3_116) ?_
        refine XS.iadd X81.here hx rfl (hb hby d3_117) rfl ?_
        refine st83 _ ?_
        show own_S p e below T83 m 121 #[rv a1, iv p2, iv (-2 : Int32), iv (1 : Int32)] [] _
        refine XS.aloadN X83.here hx rfl (hb hby d3_121) rfl rfl ?_
        exact k)
      obtain ⟨fs, hr, hrun, hended, hW, hsame⟩ := X83.leave (v := some (.ref a1)) (fun h => by rw [Bd.returns] at h; cases h)
      refine ⟨_, _, pre84 _ ?_, hrun, hended, _, _, rfl, ?_, ⟨_, rfl⟩, hW, hsame.mono (by decide) (by decide)⟩
      · show own_S p e below T83 m 122 #[rv a1, iv p2, iv (-2 : Int32), iv (1 : Int32)] [(.ref a1)] _
        exact retOut X83 hx (t := (.object "com/example/bitstrata/bitstrata/Container")) Bd.returns rfl (Or.inr (Or.inr (Or.inr (Or.inr ⟨rfl, rfl, rfl⟩)))) (hb hby d3_122) hr
      · show QAdd Z a1 p2 t k [x0, x1] h0 n0 _ T83.heap _
        rw [e83]
        have En_85 := (En_82.wr W83)
        have Fn_86 := ((Fn_77.other W79 (Or.inl (Ne.symm hne))).other W83 (Or.inr (slot_ne (Or.inl (hw _ (List.mem_of_getElem? (i := 13) rfl))) (Or.inl (hw _ (List.mem_of_getElem? (i := 15) rfl))) (by decide) (t := (.array .char)) (t' := .int) (by decide) (by decide))))
        have Vn_87 := (V79.other W83 hne)
        rw [hk] at Vn_87
        refine ⟨[x0, p2, x1], t, _, rfl, N83, ((((Keep.refl h0 [a1, t]).trans K76 (allS (Or.inl (List.mem_of_getElem? (i := 1) rfl)) all0)).wr W79 (Or.inl (List.mem_of_getElem? (i := 1) rfl))).wr W83 (Or.inl (List.mem_of_getElem? (i := 0) rfl))), En_85, Fn_86, Fw83, Vn_87, g_t, hne, Or.inl rfl, Nat.le_of_ble_eq_true rfl, Nat.le_of_ble_eq_true rfl, ?_, ?_, ?_⟩
        · exact ⟨(by first | assumption | exact own_tr (by assumption) (by assumption)), (by first | assumption | exact own_tr (by assumption) (by assumption)), trivial⟩
        · intro x hx; simp only [List.mem_cons, List.not_mem_nil, or_false] at hx; rcases hx with rfl | rfl | rfl <;> first | exact hk | exact hch _ (by simp)
        · intro x; simp only [List.mem_cons, List.not_mem_nil, or_false]; try (constructor; (intro h; rcases h with h | h | h <;> simp [h]); (intro h; rcases h with (h | h) | h <;> simp [h]))
    ·  -- case
      obtain ⟨T88, X88, e88, st88⟩ := getF X46 hx hZ hown (host := "") (Or.inl (hw _ (List.mem_of_getElem? (i := 14) rfl))) Via.refl e46 F_c' (g := (mkF m 21 #[rv a1, iv p2, iv (-3 : Int32), .unset] [(.ref a1)])) rfl rfl (hb hby d3_21)
      obtain ⟨T89, X89, e89, st89⟩ := getF X88 hx hZ hown (host := "") (Or.inl (hw _ (List.mem_of_getElem? (i := 14) rfl))) Via.refl e88 F_c' (g := (mkF m 48 #[rv a1, iv p2, iv (-3 : Int32), iv (2 : Int32)] [(.ref a1)])) rfl rfl (hb hby d3_48)
      obtain ⟨T90, X90, e90, st90⟩ := getF X89 hx hZ hown (host := "") (Or.inl (hw _ (List.mem_of_getElem? (i := 12) rfl))) Via.refl e89 F_v (g := (mkF m 52 #[rv a1, iv p2, iv (-3 : Int32), iv (2 : Int32)] [(.ref a1), (.int (2 : Int32))])) rfl rfl (hb hby d3_52)
      obtain ⟨cl91, Ar91, q91, S91, M91, -, -⟩ := id V_t'
      obtain ⟨T92, X92, e92, st92⟩ := getF X90 hx hZ hown (host := "") (Or.inl (hw _ (List.mem_of_getElem? (i := 12) rfl))) Via.refl e90 F_v (g := (mkF m 84 #[rv a1, iv p2, iv (-3 : Int32), iv (2 : Int32)] [(.ref a1)])) rfl rfl (hb hby d3_84)
      obtain ⟨T93, X93, e93, st93⟩ := getF X92 hx hZ hown (host := "") (Or.inl (hw _ (List.mem_of_getElem? (i := 12) rfl))) Via.refl e92 F_v (g := (mkF m 89 #[rv a1, iv p2, iv (-3 : Int32), iv (2 : Int32)] [(.ref a1), (.int (2 : Int32)), (.ref t)])) rfl rfl (hb hby d3_89)
      obtain ⟨T94, X94, e94, st94⟩ := getF X93 hx hZ hown (host := "") (Or.inl (hw _ (List.mem_of_getElem? (i := 14) rfl))) Via.refl e93 F_c' (g := (mkF m 96 #[rv a1, iv p2, iv (-3 : Int32), iv (2 : Int32)] [(.ref a1), (.int (3 : Int32)), (.ref t), (.int (2 : Int32)), (.ref t)])) rfl rfl (hb hby d3_96)
      obtain ⟨T95, h95, L95, X95, e95, N95, K95, Vc95, st95⟩ := cpA X94 hx hZ hown (hw _ (List.mem_of_getElem? (i := 35) rfl)) (hw _ (List.mem_of_getElem? (i := 38) rfl)) (hw _ (List.mem_of_getElem? (i := 36) rfl)) (hw _ (List.mem_of_getElem? (i := 37) rfl)) e94 (us := []) (sp := (2 : Int32)) (dp := (3 : Int32)) (nn := (0 : Int32)) V_t' V_t' (Or.inl ⟨rfl, rfl⟩) (by decide) (by decide) (by decide) (by decide) (by decide) rfl (Nat.le_of_ble_eq_true rfl) N46 g_t (g := (mkF m 101 #[rv a1, iv p2, iv (-3 : Int32), iv (2 : Int32)] [(.int (0 : Int32)), (.int (3 : Int32)), (.ref t), (.int (2 : Int32)), (.ref t)])) rfl (by rw [hml]; rfl) rfl (hb hby d3_101) (by decide) (W := 0) (by show 2 * 0 + _ ≤ _; exact Nat.le_of_eq rfl) (by decide)
      have V95 : Arv Z h95 t k .char (4 : Int32) [(.int x0), (.int x1), (.int (0 : Int32)), (.int (0 : Int32))] (.int (0 : Int32)) := Vc95
      have Fn_96 := (F_v.keep K95 (ninS (Ne.symm hne) nin0))
      obtain ⟨T97, X97, e97, st97⟩ := getF X95 hx hZ hown (host := "") (Or.inl (hw _ (List.mem_of_getElem? (i := 12) rfl))) Via.refl e95 Fn_96 (g := (mkF m 105 #[rv a1, iv p2, iv (-3 : Int32), iv (2 : Int32)] [(.ref a1)])) rfl rfl (hb hby d3_105)
      obtain ⟨cl98, Ar98, q98, S98, M98, H98, G98⟩ := id V95
      have hin98 : ¬ ((2 : Int32) < 0 ∨ cl98.slots.size ≤ ((2 : Int32)).toNatClampNeg) := inb_of S98 ⟨by decide, by decide⟩
      obtain ⟨T98, h98, X98, e98, W98, st98⟩ := stC X97 hx hZ e97 Ar98 (j := (2 : Int32)) hin98 (g := (mkF m 110 #[rv a1, iv p2, iv (-3 : Int32), iv (2 : Int32)] [(.int p2), (.int (2 : Int32)), (.ref t)])) rfl rfl (hb hby d3_110)
      have V98 : Arv Z h98 t k .char (4 : Int32) [(.int x0), (.int x1), (.int (nar .char p2)), (.int (0 : Int32))] (.int (0 : Int32)) := Arv.set Ar98 q98 S98 M98 H98 G98 (fits_nar_char _) W98 2 rfl (Nat.le_of_ble_eq_true rfl)
      have N98 := Fr.snoc X98 N95 g_t
      have Fn_99 := ((F_c'.keep K95 (ninS (Ne.symm hne) nin0)).other W98 (Or.inl (Ne.symm hne)))
      obtain ⟨T100, X100, e100, st100⟩ := getF X98 hx hZ hown (host := "") (Or.inl (hw _ (List.mem_of_getElem? (i := 14) rfl))) Via.refl e98 Fn_99 (g := (mkF m 113 #[rv a1, iv p2, iv (-3 : Int32), iv (2 : Int32)] [(.ref a1), (.ref a1)])) rfl rfl (hb hby d3_113)
      have En_101 := ((E_a1.keep K95).wr W98)
      obtain ⟨T102, h102, X102, e102, W102, st102⟩ := putF X100 hx hZ hown (host := "") (Or.inl (hw _ (List.mem_of_getElem? (i := 14) rfl))) Via.refl e100 Fn_99 En_101 (Or.inl (hw _ (List.mem_of_getElem? (i := 15) rfl))) (hw _ (List.mem_of_getElem? (i := 3) rfl)) (ty := .int) (by decide) rfl rfl (g := (mkF m 118 #[rv a1, iv p2, iv (-3 : Int32), iv (2 : Int32)] [(.int (3 : Int32)), (.ref a1)])) rfl rfl (hb hby d3_118)
      have Fw102 := Fn_99.same W102
      have N102 := Fr.snoc X102 N98 g_a1
      have pre103 : ∀ tg, own_S p e below T102 m 122 #[rv a1, iv p2, iv (-3 : Int32), iv (2 : Int32)] [(.ref a1)] tg → Steps p.tables e below (s₁.setTop (entryFrame m #[(.ref a1), (.int p2)] 4)) tg := fun tg k => pre47 tg (by
        show own_S p e below T46 m 13 #[rv a1, iv p2, .unset, .unset] [(.int (-3 : Int32))] _
        refine XS.istoreN X46.here hx rfl (hb hby d3_13) rfl (l' := #[rv a1, iv p2, iv (-3 : Int32), .unset]) rfl ?_
        refine XS.iloadN X46.here hx rfl (hb hby d3_14) rfl ?_
        refine XS.ifYes X46.here hx rfl (pc0 := 15) (pc' := 20) rfl (hb hby d3_15) rfl ((if0 _ _).trans (tlt (by decide : (-3 : Int32) < (0 : Int32))).1) (by decide) (by decide) ?_
        show own_S p e below T46 m 20 #[rv a1, iv p2, iv (-3 : Int32), .unset] [] _
        refine XS.aloadN X46.here hx rfl (hb hby d3_20) rfl rfl ?_
        refine st88 _ ?_
        refine XS.sipush X88.here hx rfl (hb hby d3_24) ?_
        show own_S p e below T88 m 27 #[rv a1, iv p2, iv (-3 : Int32), .unset] [(.int (4096 : Int32)), (.int (2 : Int32))] _
        refine XS.icmpYes X88.here hx rfl (pc0 := 27) (pc' := 42) rfl (hb hby d3_27) rfl (feq (by decide : ¬ ((2 : Int32) = (4096 : Int32)))).2 (by decide) (by decide) ?_
        refine XS.iloadN X88.here hx rfl (hb hby d3_42) rfl ?_
        refine XS.ineg X88.here hx rfl (hb hby d3_43) rfl ?_
        show own_S p e below T88 m 44 #[rv a1, iv p2, iv (-3 : Int32), .unset] [(.int (3 : Int32))] _
        refine XS.iconst X88.here hx rfl (hb hby d3_44) ?_
        refine XS.isub X88.here hx rfl (hb hby d3_45) rfl ?_
        refine XS.istoreN X88.here hx rfl (hb hby d3_46) rfl (l' := #[rv a1, iv p2, iv (-3 : Int32), iv (2 : Int32)]) rfl ?_
        show own_S p e below T88 m 47 #[rv a1, iv p2, iv (-3 : Int32), iv (2 : Int32)] [] _
        refine XS.aloadN X88.here hx rfl (hb hby d3_47) rfl rfl ?_
        refine st89 _ ?_
        refine XS.aloadN X89.here hx rfl (hb hby d3_51) rfl rfl ?_
        show own_S p e below T89 m 52 #[rv a1, iv p2, iv (-3 : Int32), iv (2 : Int32)] [(.ref a1), (.int (2 : Int32))] _
        refine st90 _ ?_
        refine X90.arraylength hx (by rw [e90]; exact Ar91.1) (State.isArrayOf_alike hZ.alike Ar91.2.1) (g := (mkF m 55 #[rv a1, iv p2, iv (-3 : Int32), iv (2 : Int32)] [(.ref t), (.int (2 : Int32))])) rfl rfl (hb hby d3_55) _ ?_
        rw [len_of S91 M91]
        refine XS.icmpYes X90.here hx rfl (pc0 := 56) (pc' := 83) rfl (hb hby d3_56) rfl (feq (by decide : ¬ ((2 : Int32) = (4 : Int32)))).2 (by decide) (by decide) ?_
        show own_S p e below T90 m 83 #[rv a1, iv p2, iv (-3 : Int32), iv (2 : Int32)] [] _
        refine XS.aloadN X90.here hx rfl (hb hby d3_83) rfl rfl ?_
        refine st92 _ ?_
        refine XS.iloadN X92.here hx rfl (hb hby d3_87) rfl ?_
        show own_S p e below T92 m 88 #[rv a1, iv p2, iv (-3 : Int32), iv (2 : Int32)] [(.int (2 : Int32)), (.ref t)] _
        refine XS.aloadN X92.here hx rfl (hb hby d3_88) rfl rfl ?_
        refine st93 _ ?_
        refine XS.iloadN X93.here hx rfl (hb hby d3_92) rfl ?_
        show own_S p e below T93 m 93 #[rv a1, iv p2, iv (-3 : Int32), iv (2 : Int32)] [(.int (2 : Int32)), (.ref t), (.int (2 : Int32)), (.ref t)] _
        refine XS.iconst X93.here hx rfl (hb hby d3_93) ?_
        refine XS.iadd X93.here hx rfl (hb hby d3_94) rfl ?_
        refine XS.aloadN X93.here hx rfl (hb hby d3_95) rfl rfl ?_
        show own_S p e below T93 m 96 #[rv a1, iv p2, iv (-3 : Int32), iv (2 : Int32)] [(.ref a1), (.int (3 : Int32)), (.ref t), (.int (2 : Int32)), (.ref t)] _
        refine st94 _ ?_
        refine XS.iloadN X94.here hx rfl (hb hby d3_99) rfl ?_
        refine XS.isub X94.here hx rfl (hb hby d3_100) rfl ?_
        show own_S p e below T94 m 101 #[rv a1, iv p2, iv (-3 : Int32), iv (2 : Int32)] [(.int (0 : Int32)), (.int (3 : Int32)), (.ref t), (.int (2 : Int32)), (.ref t)] _
        refine st95 _ ?_
        refine XS.aloadN X95.here hx rfl (hb hby d3_104) rfl rfl ?_
        refine st97 _ ?_
        show own_S p e below T97 m 108 #[rv a1, iv p2, iv (-3 : Int32), iv (2 : Int32)] [(.ref t)] _
        refine XS.iloadN X97.here hx rfl (hb hby d3_108) rfl ?_
        refine XS.iloadN X97.here hx rfl (hb hby d3_109) rfl ?_
        refine st98 _ ?_
        show own_S p e below T98 m 111 #[rv a1, iv p2, iv (-3 : Int32), iv (2 : Int32)] [] _
        refine XS.aloadN X98.here hx rfl (hb hby d3_111) rfl rfl ?_
        refine XS.dup X98.here hx rfl (hb hby d3_112) rfl rfl ?_
        refine st100 _ ?_
        show own_S p e below T100 m 116 #[rv a1, iv p2, iv (-3 : Int32), iv (2 : Int32)] [(.int (2 : Int32)), (.ref a1)] _
        refine XS.iconst X100.here hx rfl (hb hby d3_116) ?_
        refine XS.iadd X100.here hx rfl (hb hby d3_117) rfl ?_
        refine st102 _ ?_
        show own_S p e below T102 m 121 #[rv a1, iv p2, iv (-3 : Int32), iv (2 : Int32)] [] _
        refine XS.aloadN X102.here hx rfl (hb hby d3_121) rfl rfl ?_
        exact k)
      obtain ⟨fs, hr, hrun, hended, hW, hsame⟩ := X102.leave (v := some (.ref a1)) (fun h => by rw [Bd.returns] at h; cases h)
      refine ⟨_, _, pre103 _ ?_, hrun, hended, _, _, rfl, ?_, ⟨_, rfl⟩, hW, hsame.mono (by decide) (by decide)⟩
      · show own_S p e below T102 m 122 #[rv a1, iv p2, iv (-3 : Int32), iv (2 : Int32)] [(.ref a1)] _
        exact retOut X102 hx (t := (.object "com/example/bitstrata/bitstrata/Container")) Bd.returns rfl (Or.inr (Or.inr (Or.inr (Or.inr ⟨rfl, rfl, rfl⟩)))) (hb hby d3_122) hr
      · show QAdd Z a1 p2 t k [x0, x1] h0 n0 _ T102.heap _
        rw [e102]
        have En_104 := (En_101.wr W102)
        have Fn_105 := ((Fn_96.other W98 (Or.inl (Ne.symm hne))).other W102 (Or.inr (slot_ne (Or.inl (hw _ (List.mem_of_getElem? (i := 13) rfl))) (Or.inl (hw _ (List.mem_of_getElem? (i := 15) rfl))) (by decide) (t := (.array .char)) (t' := .int) (by decide) (by decide))))
        have Vn_106 := (V98.other W102 hne)
        rw [hk] at Vn_106
        refine ⟨[x0, x1, p2], t, _, rfl, N102, ((((Keep.refl h0 [a1, t]).trans K95 (allS (Or.inl (List.mem_of_getElem? (i := 1) rfl)) all0)).wr W98 (Or.inl (List.mem_of_getElem? (i := 1) rfl))).wr W102 (Or.inl (List.mem_of_getElem? (i := 0) rfl))), En_104, Fn_105, Fw102, Vn_106, g_t, hne, Or.inl rfl, Nat.le_of_ble_eq_true rfl, Nat.le_of_ble_eq_true rfl, ?_, ?_, ?_⟩
        · exact ⟨(by first | assumption | exact own_tr (by assumption) (by assumption)), (by first | assumption | exact own_tr (by assumption) (by assumption)), trivial⟩
        · intro x hx; simp only [List.mem_cons, List.not_mem_nil, or_false] at hx; rcases hx with rfl | rfl | rfl <;> first | exact hk | exact hch _ (by simp)
        · intro x; simp only [List.mem_cons, List.not_mem_nil, or_false]; try (constructor; (intro h; rcases h with h | h | h <;> simp [h]); (intro h; rcases h with (h | h) | h <;> simp [h]))
  ·  -- case
    obtain ⟨x0, x1, x2, rfl⟩ := own_len3 hl
    have F_c' : Fld Z h0 a1 "com/example/bitstrata/bitstrata/ArrayContainer" "cardinality" "I" (.int (3 : Int32)) := F_c
    have V_t' : Arv Z h0 t k .char (4 : Int32) [(.int x0), (.int x1), (.int x2), (.int (0 : Int32))] (.int (0 : Int32)) := V_t
    have s01 : x0 < x1 := hs.1
    have s12 : x1 < x2 := hs.2.1
    obtain ⟨T107, X107, e107, st107⟩ := getF X0 hx hZ hown (host := "") (Or.inl (hw _ (List.mem_of_getElem? (i := 12) rfl))) Via.refl e0 F_v (g := (mkF m 1 #[rv a1, iv p2, .unset, .unset] [(.ref a1)])) rfl rfl (hb hby d3_1)
    obtain ⟨T108, X108, e108, st108⟩ := getF X107 hx hZ hown (host := "") (Or.inl (hw _ (List.mem_of_getElem? (i := 14) rfl))) Via.refl e107 F_c' (g := (mkF m 6 #[rv a1, iv p2, .unset, .unset] [(.ref a1), (.int (0 : Int32)), (.ref t)])) rfl rfl (hb hby d3_6)
    obtain ⟨_, _, ⟨T109, L109, k109, n109⟩, -, X109, ⟨Lc109, hQ109, l109, y109, z109⟩, st109⟩ := Jvm.LawKit.callS X108 hx (y := (⟨"java/util/Arrays", "binarySearch", "([CIIC)I"⟩ : MethodName)) hown (mvT hZ (hw _ (List.mem_of_getElem? (i := 25) rfl))) (mvT hZ (hw _ (List.mem_of_getElem? (i := 26) rfl))) (mvT hZ (hw _ (List.mem_of_getElem? (i := 27) rfl))) (mvT hZ (hw _ (List.mem_of_getElem? (i := 28) rfl))) (by decide) (backOf (W := 0) (rmS3 l Z a0 hw [] t p2 k x0 x1 x2 h0 n0 Z0 V_t') hZ (hw _ (List.mem_of_getElem? (i := 28) rfl)) (hw _ (List.mem_of_getElem? (i := 27) rfl)) (by decide) (by decide)) (g := (mkF m 10 #[rv a1, iv p2, .unset, .unset] [(.int p2), (.int (3 : Int32)), (.int (0 : Int32)), (.ref t)])) rfl (by rw [hml]; rfl) (argsL := [(.ref t), (.int (0 : Int32)), (.int (3 : Int32)), (.int p2)]) (rest := []) (lenOf pd_1 rfl) rfl (by show 2 * 0 + _ ≤ _; exact Nat.le_of_eq rfl) (hb hby d3_10) (fun _ _ => ⟨rfl, e108, (by decide : 0 + 0 ≤ _), (by decide : 0 + 0 ≤ _)⟩)
    dsimp only [Pt.U, Pt.locs, Pt.cells, Pt.slots] at X109 l109 y109 z109 st109 hQ109
    subst l109 y109 z109
    obtain ⟨r109, rfl, N109q, e109q, hD109⟩ := hQ109
    have N109 := Fr.app N0 N109q
    have e109 : T109.heap = h0 := e109q
    have pre110 : ∀ tg, own_S p e below T109 m 13 #[rv a1, iv p2, .unset, .unset] [(.int r109)] tg → Steps p.tables e below (s₁.setTop (entryFrame m #[(.ref a1), (.int p2)] 4)) tg := fun tg k => pre0 tg (by
      show own_S p e below s₁ m 0 #[rv a1, iv p2, .unset, .unset] [] _
      refine XS.aloadN X0.here hx rfl (hb hby d3_0) rfl rfl ?_
      refine st107 _ ?_
      refine XS.iconst X107.here hx rfl (hb hby d3_4) ?_
      show own_S p e below T107 m 5 #[rv a1, iv p2, .unset, .unset] [(.int (0 : Int32)), (.ref t)] _
      refine XS.aloadN X107.here hx rfl (hb hby d3_5) rfl rfl ?_
      refine st108 _ ?_
      refine XS.iloadN X108.here hx rfl (hb hby d3_9) rfl ?_
      show own_S p e below T108 m 10 #[rv a1, iv p2, .unset, .unset] [(.int p2), (.int (3 : Int32)), (.int (0 : Int32)), (.ref t)] _
      refine st109 _ ?_
      exact k)
    rcases hD109 with ⟨rfl, q0⟩ | ⟨rfl, q0⟩ | ⟨rfl, q0⟩ | ⟨rfl, q0⟩ | ⟨rfl, q0, q1⟩ | ⟨rfl, q0, q1⟩ | ⟨rfl, q0⟩
    ·  -- case
      have pre111 : ∀ tg, own_S p e below T109 m 19 #[rv a1, iv p2, iv (0 : Int32), .unset] [(.ref a1)] tg → Steps p.tables e below (s₁.setTop (entryFrame m #[(.ref a1), (.int p2)] 4)) tg := fun tg k => pre110 tg (by
        show own_S p e below T109 m 13 #[rv a1, iv p2, .unset, .unset] [(.int (0 : Int32))] _
        refine XS.istoreN X109.here hx rfl (hb hby d3_13) rfl (l' := #[rv a1, iv p2, iv (0 : Int32), .unset]) rfl ?_
        refine XS.iloadN X109.here hx rfl (hb hby d3_14) rfl ?_
        refine XS.ifNo X109.here hx rfl (hb hby d3_15) rfl ((if0 _ _).trans (flt (by decide : ¬ ((0 : Int32) < (0 : Int32)))).1) ?_
        show own_S p e below T109 m 18 #[rv a1, iv p2, iv (0 : Int32), .unset] [] _
        refine XS.aloadN X109.here hx rfl (hb hby d3_18) rfl rfl ?_
        exact k)
      obtain ⟨fs, hr, hrun, hended, hW, hsame⟩ := X109.leave (v := some (.ref a1)) (fun h => by rw [Bd.returns] at h; cases h)
      refine ⟨_, _, pre111 _ ?_, hrun, hended, _, _, rfl, ?_, ⟨_, rfl⟩, hW, hsame.mono (by decide) (by decide)⟩
      · show own_S p e below T109 m 19 #[rv a1, iv p2, iv (0 : Int32), .unset] [(.ref a1)] _
        exact retOut X109 hx (t := (.object "com/example/bitstrata/bitstrata/Container")) Bd.returns rfl (Or.inr (Or.inr (Or.inr (Or.inr ⟨rfl, rfl, rfl⟩)))) (hb hby d3_19) hr
      · show QAdd Z a1 p2 t k [x0, x1, x2] h0 n0 _ T109.heap _
        rw [e109]
        refine ⟨[x0, x1, x2], t, _, rfl, N109, (Keep.refl h0 [a1, t]), E_a1, F_v, F_c', V_t', g_t, hne, Or.inl rfl, Nat.le_of_ble_eq_true rfl, Nat.le_of_ble_eq_true rfl, ?_, ?_, ?_⟩
        · exact ⟨(by first | assumption | exact own_tr (by assumption) (by assumption)), (by first | assumption | exact own_tr (by assumption) (by assumption)), trivial⟩
        · exact hch
        · intro x; simp only [List.mem_cons, List.not_mem_nil, or_false]
          constructor
          · intro h; exact Or.inl h
          · intro h; rcases h with h | h
            · exact h
            · simp [h, ← q0]
    ·  -- case
      have pre112 : ∀ tg, own_S p e below T109 m 19 #[rv a1, iv p2, iv (1 : Int32), .unset] [(.ref a1)] tg → Steps p.tables e below (s₁.setTop (entryFrame m #[(.ref a1), (.int p2)] 4)) tg := fun tg k => pre110 tg (by
        show own_S p e below T109 m 13 #[rv a1, iv p2, .unset, .unset] [(.int (1 : Int32))] _
        refine XS.istoreN X109.here hx rfl (hb hby d3_13) rfl (l' := #[rv a1, iv p2, iv (1 : Int32), .unset]) rfl ?_
        refine XS.iloadN X109.here hx rfl (hb hby d3_14) rfl ?_
        refine XS.ifNo X109.here hx rfl (hb hby d3_15) rfl ((if0 _ _).trans (flt (by decide : ¬ ((1 : Int32) < (0 : Int32)))).1) ?_
        show own_S p e below T109 m 18 #[rv a1, iv p2, iv (1 : Int32), .unset] [] _
        refine XS.aloadN X109.here hx rfl (hb hby d3_18) rfl rfl ?_
        exact k)
      obtain ⟨fs, hr, hrun, hended, hW, hsame⟩ := X109.leave (v := some (.ref a1)) (fun h => by rw [Bd.returns] at h; cases h)
      refine ⟨_, _, pre112 _ ?_, hrun, hended, _, _, rfl, ?_, ⟨_, rfl⟩, hW, hsame.mono (by decide) (by decide)⟩
      · show own_S p e below T109 m 19 #[rv a1, iv p2, iv (1 : Int32), .unset] [(.ref a1)] _
        exact retOut X109 hx (t := (.object "com/example/bitstrata/bitstrata/Container")) Bd.returns rfl (Or.inr (Or.inr (Or.inr (Or.inr ⟨rfl, rfl, rfl⟩)))) (hb hby d3_19) hr
      · show QAdd Z a1 p2 t k [x0, x1, x2] h0 n0 _ T109.heap _
        rw [e109]
        refine ⟨[x0, x1, x2], t, _, rfl, N109, (Keep.refl h0 [a1, t]), E_a1, F_v, F_c', V_t', g_t, hne, Or.inl rfl, Nat.le_of_ble_eq_true rfl, Nat.le_of_ble_eq_true rfl, ?_, ?_, ?_⟩
        · exact ⟨(by first | assumption | exact own_tr (by assumption) (by assumption)), (by first | assumption | exact own_tr (by assumption) (by assumption)), trivial⟩
        · exact hch
        · intro x; simp only [List.mem_cons, List.not_mem_nil, or_false]
          constructor
          · intro h; exact Or.inl h
          · intro h; rcases h with h | h
            · exact h
            · simp [h, ← q0]
    ·  -- case
      have pre113 : ∀ tg, own_S p e below T109 m 19 #[rv a1, iv p2, iv (2 : Int32), .unset] [(.ref a1)] tg → Steps p.tables e below (s₁.setTop (entryFrame m #[(.ref a1), (.int p2)] 4)) tg := fun tg k => pre110 tg (by
        show own_S p e below T109 m 13 #[rv a1, iv p2, .unset, .unset] [(.int (2 : Int32))] _
        refine XS.istoreN X109.here hx rfl (hb hby d3_13) rfl (l' := #[rv a1, iv p2, iv (2 : Int32), .unset]) rfl ?_
        refine XS.iloadN X109.here hx rfl (hb hby d3_14) rfl ?_
        refine XS.ifNo X109.here hx rfl (hb hby d3_15) rfl ((if0 _ _).trans (flt (by decide : ¬ ((2 : Int32) < (0 : Int32)))).1) ?_
        show own_S p e below T109 m 18 #[rv a1, iv p2, iv (2 : Int32), .unset] [] _
        refine XS.aloadN X109.here hx rfl (hb hby d3_18) rfl rfl ?_
        exact k)
      obtain ⟨fs, hr, hrun, hended, hW, hsame⟩ := X109.leave (v := some (.ref a1)) (fun h => by rw [Bd.returns] at h; cases h)
      refine ⟨_, _, pre113 _ ?_, hrun, hended, _, _, rfl, ?_, ⟨_, rfl⟩, hW, hsame.mono (by decide) (by decide)⟩
      · show own_S p e below T109 m 19 #[rv a1, iv p2, iv (2 : Int32), .unset] [(.ref a1)] _
        exact retOut X109 hx (t := (.object "com/example/bitstrata/bitstrata/Container")) Bd.returns rfl (Or.inr (Or.inr (Or.inr (Or.inr ⟨rfl, rfl, rfl⟩)))) (hb hby d3_19) hr
      · show QAdd Z a1 p2 t k [x0, x1, x2] h0 n0 _ T109.heap _
        rw [e109]
        refine ⟨[x0, x1, x2], t, _, rfl, N109, (Keep.refl h0 [a1, t]), E_a1, F_v, F_c', V_t', g_t, hne, Or.inl rfl, Nat.le_of_ble_eq_true rfl, Nat.le_of_ble_eq_true rfl, ?_, ?_, ?_⟩
        · exact ⟨(by first | assumption | exact own_tr (by assumption) (by assumption)), (by first | assumption | exact own_tr (by assumption) (by assumption)), trivial⟩
        · exact hch
        · intro x; simp only [List.mem_cons, List.not_mem_nil, or_false]
          constructor
          · intro h; exact Or.inl h
          · intro h; rcases h with h | h
            · exact h
            · simp [h, ← q0]
    ·  -- case
      obtain ⟨T114, X114, e114, st114⟩ := getF X109 hx hZ hown (host := "") (Or.inl (hw _ (List.mem_of_getElem? (i := 14) rfl))) Via.refl e109 F_c' (g := (mkF m 21 #[rv a1, iv p2, iv (-1 : Int32), .unset] [(.ref a1)])) rfl rfl (hb hby d3_21)
      obtain ⟨T115, X115, e115, st115⟩ := getF X114 hx hZ hown (host := "") (Or.inl (hw _ (List.mem_of_getElem? (i := 14) rfl))) Via.refl e114 F_c' (g := (mkF m 48 #[rv a1, iv p2, iv (-1 : Int32), iv (0 : Int32)] [(.ref a1)])) rfl rfl (hb hby d3_48)
      obtain ⟨T116, X116, e116, st116⟩ := getF X115 hx hZ hown (host := "") (Or.inl (hw _ (List.mem_of_getElem? (i := 12) rfl))) Via.refl e115 F_v (g := (mkF m 52 #[rv a1, iv p2, iv (-1 : Int32), iv (0 : Int32)] [(.ref a1), (.int (3 : Int32))])) rfl rfl (hb hby d3_52)
      obtain ⟨cl117, Ar117, q117, S117, M117, -, -⟩ := id V_t'
      obtain ⟨T118, X118, e118, st118⟩ := getF X116 hx hZ hown (host := "") (Or.inl (hw _ (List.mem_of_getElem? (i := 12) rfl))) Via.refl e116 F_v (g := (mkF m 84 #[rv a1, iv p2, iv (-1 : Int32), iv (0 : Int32)] [(.ref a1)])) rfl rfl (hb hby d3_84)
      obtain ⟨T119, X119, e119, st119⟩ := getF X118 hx hZ hown (host := "") (Or.inl (hw _ (List.mem_of_getElem? (i := 12) rfl))) Via.refl e118 F_v (g := (mkF m 89 #[rv a1, iv p2, iv (-1 : Int32), iv (0 : Int32)] [(.ref a1), (.int (0 : Int32)), (.ref t)])) rfl rfl (hb hby d3_89)
      obtain ⟨T120, X120, e120, st120⟩ := getF X119 hx hZ hown (host := "") (Or.inl (hw _ (List.mem_of_getElem? (i := 14) rfl))) Via.refl e119 F_c' (g := (mkF m 96 #[rv a1, iv p2, iv (-1 : Int32), iv (0 : Int32)] [(.ref a1), (.int (1 : Int32)), (.ref t), (.int (0 : Int32)), (.ref t)])) rfl rfl (hb hby d3_96)
      obtain ⟨T121, h121, L121, X121, e121, N121, K121, Vc121, st121⟩ := cpA X120 hx hZ hown (hw _ (List.mem_of_getElem? (i := 35) rfl)) (hw _ (List.mem_of_getElem? (i := 38) rfl)) (hw _ (List.mem_of_getElem? (i := 36) rfl)) (hw _ (List.mem_of_getElem? (i := 37) rfl)) e120 (us := [(.int x0), (.int x1), (.int x2)]) (sp := (0 : Int32)) (dp := (1 : Int32)) (nn := (3 : Int32)) V_t' V_t' (Or.inl ⟨rfl, rfl⟩) (by decide) (by decide) (by decide) (by decide) (by decide) rfl (Nat.le_of_ble_eq_true rfl) N109 g_t (g := (mkF m 101 #[rv a1, iv p2, iv (-1 : Int32), iv (0 : Int32)] [(.int (3 : Int32)), (.int (1 : Int32)), (.ref t), (.int (0 : Int32)), (.ref t)])) rfl (by rw [hml]; rfl) rfl (hb hby d3_101) (by decide) (W := 0) (by show 2 * 0 + _ ≤ _; exact Nat.le_of_eq rfl) (by decide)
      have V121 : Arv Z h121 t k .char (4 : Int32) [(.int x0), (.int x0), (.int x1), (.int x2)] (.int (0 : Int32)) := Vc121
      have Fn_122 := (F_v.keep K121 (ninS (Ne.symm hne) nin0))
      obtain ⟨T123, X123, e123, st123⟩ := getF X121 hx hZ hown (host := "") (Or.inl (hw _ (List.mem_of_getElem? (i := 12) rfl))) Via.refl e121 Fn_122 (g := (mkF m 105 #[rv a1, iv p2, iv (-1 : Int32), iv (0 : Int32)] [(.ref a1)])) rfl rfl (hb hby d3_105)
      obtain ⟨cl124, Ar124, q124, S124, M124, H124, G124⟩ := id V121
      have hin124 : ¬ ((0 : Int32) < 0 ∨ cl124.slots.size ≤ ((0 : Int32)).toNatClampNeg) := inb_of S124 ⟨by decide, by decide⟩
      obtain ⟨T124, h124, X124, e124, W124, st124⟩ := stC X123 hx hZ e123 Ar124 (j := (0 : Int32)) hin124 (g := (mkF m 110 #[rv a1, iv p2, iv (-1 : Int32), iv (0 : Int32)] [(.int p2), (.int (0 : Int32)), (.ref t)])) rfl rfl (hb hby d3_110)
      have V124 : Arv Z h124 t k .char (4 : Int32) [(.int (nar .char p2)), (.int x0), (.int x1), (.int x2)] (.int (0 : Int32)) := Arv.set Ar124 q124 S124 M124 H124 G124 (fits_nar_char _) W124 0 rfl (Nat.le_of_ble_eq_true rfl)
      have N124 := Fr.snoc X124 N121 g_t
      have Fn_125 := ((F_c'.keep K121 (ninS (Ne.symm hne) nin0)).other W124 (Or.inl (Ne.symm hne)))
      obtain ⟨T126, X126, e126, st126⟩ := getF X124 hx hZ hown (host := "") (Or.inl (hw _ (List.mem_of_getElem? (i := 14) rfl))) Via.refl e124 Fn_125 (g := (mkF m 113 #[rv a1, iv p2, iv (-1 : Int32), iv (0 : Int32)] [(.ref a1), (.ref a1)])) rfl rfl (hb hby d3_113)
      have En_127 := ((E_a1.keep K121).wr W124)
      obtain ⟨T128, h128, X128, e128, W128, st128⟩ := putF X126 hx hZ hown (host := "") (Or.inl (hw _ (List.mem_of_getElem? (i := 14) rfl))) Via.refl e126 Fn_125 En_127 (Or.inl (hw _ (List.mem_of_getElem? (i := 15) rfl))) (hw _ (List.mem_of_getElem? (i := 3) rfl)) (ty := .int) (by decide) rfl rfl (g := (mkF m 118 #[rv a1, iv p2, iv (-1 : Int32), iv (0 : Int32)] [(.int (4 : Int32)), (.ref a1)])) rfl rfl (hb hby d3_118)
      have Fw128 := Fn_125.same W128
      have N128 := Fr.snoc X128 N124 g_a1
      have pre129 : ∀ tg, own_S p e below T128 m 122 #[rv a1, iv p2, iv (-1 : Int32), iv (0 : Int32)] [(.ref a1)] tg → Steps p.tables e below (s₁.setTop (entryFrame m #[(.ref a1), (.int p2)] 4)) tg := fun tg k => pre110 tg (by
        show own_S p e below T109 m 13 #[rv a1, iv p2, .unset, .unset] [(.int (-1 : Int32))] _
        refine XS.istoreN X109.here hx rfl (hb hby d3_13) rfl (l' := #[rv a1, iv p2, iv (-1 : Int32), .unset]) rfl ?_
        refine XS.iloadN X109.here hx rfl (hb hby d3_14) rfl ?_
        refine XS.ifYes X109.here hx rfl (pc0 := 15) (pc' := 20) rfl (hb hby d3_15) rfl ((if0 _ _).trans (tlt (by decide : (-1 : Int32) < (0 : Int32))).1) (by decide) (by decide) ?_
        show own_S p e below T109 m 20 #[rv a1, iv p2, iv (-1 : Int32), .unset] [] _
        refine XS.aloadN X109.here hx rfl (hb hby d3_20) rfl rfl ?_
        refine st114 _ ?_
        refine XS.sipush X114.here hx rfl (hb hby d3_24) ?_
        show own_S p e below T114 m 27 #[rv a1, iv p2, iv (-1 : Int32), .unset] [(.int (4096 : Int32)), (.int (3 : Int32))] _
        refine XS.icmpYes X114.here hx rfl (pc0 := 27) (pc' := 42) rfl (hb hby d3_27) rfl (feq (by decide : ¬ ((3 : Int32) = (4096 : Int32)))).2 (by decide) (by decide) ?_
        refine XS.iloadN X114.here hx rfl (hb hby d3_42) rfl ?_
        refine XS.ineg X114.here hx rfl (hb hby d3_43) rfl ?_
        show own_S p e below T114 m 44 #[rv a1, iv p2, iv (-1 : Int32), .unset] [(.int (1 : Int32))] _
        refine XS.iconst X114.here hx rfl (hb hby d3_44) ?_
        refine XS.isub X114.here hx rfl (hb hby d3_45) rfl ?_
        refine XS.istoreN X114.here hx rfl (hb hby d3_46) rfl (l' := #[rv a1, iv p2, iv (-1 : Int32), iv (0 : Int32)]) rfl ?_
        show own_S p e below T114 m 47 #[rv a1, iv p2, iv (-1 : Int32), iv (0 : Int32)] [] _
        refine XS.aloadN X114.here hx rfl (hb hby d3_47) rfl rfl ?_
        refine st115 _ ?_
        refine XS.aloadN X115.here hx rfl (hb hby d3_51) rfl rfl ?_
        show own_S p e below T115 m 52 #[rv a1, iv p2, iv (-1 : Int32), iv (0 : Int32)] [(.ref a1), (.int (3 : Int32))] _
        refine st116 _ ?_
        refine X116.arraylength hx (by rw [e116]; exact Ar117.1) (State.isArrayOf_alike hZ.alike Ar117.2.1) (g := (mkF m 55 #[rv a1, iv p2, iv (-1 : Int32), iv (0 : Int32)] [(.ref t), (.int (3 : Int32))])) rfl rfl (hb hby d3_55) _ ?_
        rw [len_of S117 M117]
        refine XS.icmpYes X116.here hx rfl (pc0 := 56) (pc' := 83) rfl (hb hby d3_56) rfl (feq (by decide : ¬ ((3 : Int32) = (4 : Int32)))).2 (by decide) (by decide) ?_
        show own_S p e below T116 m 83 #[rv a1, iv p2, iv (-1 : Int32), iv (0 : Int32)] [] _
        refine XS.aloadN X116.here hx rfl (hb hby d3_83) rfl rfl ?_
        refine st118 _ ?_
        refine XS.iloadN X118.here hx rfl (hb hby d3_87) rfl ?_
        show own_S p e below T118 m 88 #[rv a1, iv p2, iv (-1 : Int32), iv (0 : Int32)] [(.int (0 : Int32)), (.ref t)] _
        refine XS.aloadN X118.here hx rfl (hb hby d3_88) rfl rfl ?_
        refine st119 _ ?_
        refine XS.iloadN X119.here hx rfl (hb hby d3_92) rfl ?_
        show own_S p e below T119 m 93 #[rv a1, iv p2, iv (-1 : Int32), iv (0 : Int32)] [(.int (0 : Int32)), (.ref t), (.int (0 : Int32)), (.ref t)] _
        refine XS.iconst X119.here hx rfl (hb hby d3_93) ?_
        refine XS.iadd X119.here hx rfl (hb hby d3_94) rfl ?_
        refine XS.aloadN X119.here hx rfl (hb hby d3_95) rfl rfl ?_
        show own_S p e below T119 m 96 #[rv a1, iv p2, iv (-1 : Int32), iv (0 : Int32)] [(.ref a1), (.int (1 : Int32)), (.ref t), (.int (0 : Int32)), (.ref t)] _
        refine st120 _ ?_
        refine XS.iloadN X120.here hx rfl (hb hby d3_99) rfl ?_
        refine XS.isub X120.here hx rfl (hb hby d3_100) rfl ?_
        show own_S p e below T120 m 101 #[rv a1, iv p2, iv (-1 : Int32), iv (0 : Int32)] [(.int (3 : Int32)), (.int (1 : Int32)), (.ref t), (.int (0 : Int32)), (.ref t)] _
        refine st121 _ ?_
        refine XS.aloadN X121.here hx rfl (hb hby d3_104) rfl rfl ?_
        refine st123 _ ?_
        show own_S p e below T123 m 108 #[rv a1, iv p2, iv (-1 : Int32), iv (0 : Int32)] [(.ref t)] _
        refine XS.iloadN X123.here hx rfl (hb hby d3_108) rfl ?_
        refine XS.iloadN X123.here hx rfl (hb hby d3_109) rfl ?_
        refine st124 _ ?_
        show own_S p e below T124 m 111 #[rv a1, iv p2, iv (-1 : Int32), iv (0 : Int32)] [] _
        refine XS.aloadN X124.here hx rfl (hb hby d3_111) rfl rfl ?_
        refine XS.dup X124.here hx rfl (hb hby d3_112) rfl rfl ?_
        refine st126 _ ?_
        show own_S p e below T126 m 116 #[rv a1, iv p2, iv (-1 : Int32), iv (0 : Int32)] [(.int (3 : Int32)), (.ref a1)] _
        refine XS.iconst X126.here hx rfl (hb hby d3_116) ?_
        refine XS.iadd X126.here hx rfl (hb hby d3_117) rfl ?_
        refine st128 _ ?_
        show own_S p e below T128 m 121 #[rv a1, iv p2, iv (-1 : Int32), iv (0 : Int32)] [] _
        refine XS.aloadN X128.here hx rfl (hb hby d3_121) rfl rfl ?_
        exact k)
      obtain ⟨fs, hr, hrun, hended, hW, hsame⟩ := X128.leave (v := some (.ref a1)) (fun h => by rw [Bd.returns] at h; cases h)
      refine ⟨_, _, pre129 _ ?_, hrun, hended, _, _, rfl, ?_, ⟨_, rfl⟩, hW, hsame.mono (by decide) (by decide)⟩
      · show own_S p e below T128 m 122 #[rv a1, iv p2, iv (-1 : Int32), iv (0 : Int32)] [(.ref a1)] _
        exact retOut X128 hx (t := (.object "com/example/bitstrata/bitstrata/Container")) Bd.returns rfl (Or.inr (Or.inr (Or.inr (Or.inr ⟨rfl, rfl, rfl⟩)))) (hb hby d3_122) hr
      · show QAdd Z a1 p2 t k [x0, x1, x2] h0 n0 _ T128.heap _
        rw [e128]
        have En_130 := (En_127.wr W128)
        have Fn_131 := ((Fn_122.other W124 (Or.inl (Ne.symm hne))).other W128 (Or.inr (slot_ne (Or.inl (hw _ (List.mem_of_getElem? (i := 13) rfl))) (Or.inl (hw _ (List.mem_of_getElem? (i := 15) rfl))) (by decide) (t := (.array .char)) (t' := .int) (by decide) (by decide))))
        have Vn_132 := (V124.other W128 hne)
        rw [hk] at Vn_132
        refine ⟨[p2, x0, x1, x2], t, _, rfl, N128, ((((Keep.refl h0 [a1, t]).trans K121 (allS (Or.inl (List.mem_of_getElem? (i := 1) rfl)) all0)).wr W124 (Or.inl (List.mem_of_getElem? (i := 1) rfl))).wr W128 (Or.inl (List.mem_of_getElem? (i := 0) rfl))), En_130, Fn_131, Fw128, Vn_132, g_t, hne, Or.inl rfl, Nat.le_of_ble_eq_true rfl, Nat.le_of_ble_eq_true rfl, ?_, ?_, ?_⟩
        · exact ⟨(by first | assumption | exact own_tr (by assumption) (by assumption)), (by first | assumption | exact own_tr (by assumption) (by assumption)), (by first | assumption | exact own_tr (by assumption) (by assumption)), trivial⟩
        · intro x hx; simp only [List.mem_cons, List.not_mem_nil, or_false] at hx; rcases hx with rfl | rfl | rfl | rfl <;> first | exact hk | exact hch _ (by simp)
        · intro x; simp only [List.mem_cons, List.not_mem_nil, or_false]; try (constructor; (intro h; rcases h with h | h | h | h <;> simp [h]); (intro h; rcases h with (h | h | h) | h <;> simp [h]))
    ·  -- case
      obtain ⟨T133, X133, e133, st133⟩ := getF X109 hx hZ hown (host := "") (Or.inl (hw _ (List.mem_of_getElem? (i := 14) rfl))) Via.refl e109 F_c' (g := (mkF m 21 #[rv a1, iv p2, iv (-2 : Int32), .unset] [(.ref a1)])) rfl rfl (hb hby d3_21)
      obtain ⟨T134, X134, e134, st134⟩ := getF X133 hx hZ hown (host := "") (Or.inl (hw _ (List.mem_of_getElem? (i := 14) rfl))) Via.refl e133 F_c' (g := (mkF m 48 #[rv a1, iv p2, iv (-2 : Int32), iv (1 : Int32)] [(.ref a1)])) rfl rfl (hb hby d3_48)
      obtain ⟨T135, X135, e135, st135⟩ := getF X134 hx hZ hown (host := "") (Or.inl (hw _ (List.mem_of_getElem? (i := 12) rfl))) Via.refl e134 F_v (g := (mkF m 52 #[rv a1, iv p2, iv (-2 : Int32), iv (1 : Int32)] [(.ref a1), (.int (3 : Int32))])) rfl rfl (hb hby d3_52)
      obtain ⟨cl136, Ar136, q136, S136, M136, -, -⟩ := id V_t'
      obtain ⟨T137, X137, e137, st137⟩ := getF X135 hx hZ hown (host := "") (Or.inl (hw _ (List.mem_of_getElem? (i := 12) rfl))) Via.refl e135 F_v (g := (mkF m 84 #[rv a1, iv p2, iv (-2 : Int32), iv (1 : Int32)] [(.ref a1)])) rfl rfl (hb hby d3_84)
      obtain ⟨T138, X138, e138, st138⟩ := getF X137 hx hZ hown (host := "") (Or.inl (hw _ (List.mem_of_getElem? (i := 12) rfl))) Via.refl e137 F_v (g := (mkF m 89 #[rv a1, iv p2, iv (-2 : Int32), iv (1 : Int32)] [(.ref a1), (.int (1 : Int32)), (.ref t)])) rfl rfl (hb hby d3_89)
      obtain ⟨T139, X139, e139, st139⟩ := getF X138 hx hZ hown (host := "") (Or.inl (hw _ (List.mem_of_getElem? (i := 14) rfl))) Via.refl e138 F_c' (g := (mkF m 96 #[rv a1, iv p2, iv (-2 : Int32), iv (1 : Int32)] [(.ref a1), (.int (2 : Int32)), (.ref t), (.int (1 : Int32)), (.ref t)])) rfl rfl (hb hby d3_96)
      obtain ⟨T140, h140, L140, X140, e140, N140, K140, Vc140, st140⟩ := cpA X139 hx hZ hown (hw _ (List.mem_of_getElem? (i := 35) rfl)) (hw _ (List.mem_of_getElem? (i := 38) rfl)) (hw _ (List.mem_of_getElem? (i := 36) rfl)) (hw _ (List.mem_of_getElem? (i := 37) rfl)) e139 (us := [(.int x1), (.int x2)]) (sp := (1 : Int32)) (dp := (2 : Int32)) (nn := (2 : Int32)) V_t' V_t' (Or.inl ⟨rfl, rfl⟩) (by decide) (by decide) (by decide) (by decide) (by decide) rfl (Nat.le_of_ble_eq_true rfl) N109 g_t (g := (mkF m 101 #[rv a1, iv p2, iv (-2 : Int32), iv (1 : Int32)] [(.int (2 : Int32)), (.int (2 : Int32)), (.ref t), (.int (1 : Int32)), (.ref t)])) rfl (by rw [hml]; rfl) rfl (hb hby d3_101) (by decide) (W := 0) (by show 2 * 0 + _ ≤ _; exact Nat.le_of_eq rfl) (by decide)
      have V140 : Arv Z h140 t k .char (4 : Int32) [(.int x0), (.int x1), (.int x1), (.int x2)] (.int (0 : Int32)) := Vc140
      have Fn_141 := (F_v.keep K140 (ninS (Ne.symm hne) nin0))
      obtain ⟨T142, X142, e142, st142⟩ := getF X140 hx hZ hown (host := "") (Or.inl (hw _ (List.mem_of_getElem? (i := 12) rfl))) Via.refl e140 Fn_141 (g := (mkF m 105 #[rv a1, iv p2, iv (-2 : Int32), iv (1 : Int32)] [(.ref a1)])) rfl rfl (hb hby d3_105)
      obtain ⟨cl143, Ar143, q143, S143, M143, H143, G143⟩ := id V140
      have hin143 : ¬ ((1 : Int32) < 0 ∨ cl143.slots.size ≤ ((1 : Int32)).toNatClampNeg) := inb_of S143 ⟨by decide, by decide⟩
      obtain ⟨T143, h143, X143, e143, W143, st143⟩ := stC X142 hx hZ e142 Ar143 (j := (1 : Int32)) hin143 (g := (mkF m 110 #[rv a1, iv p2, iv (-2 : Int32), iv (1 : Int32)] [(.int p2), (.int (1 : Int32)), (.ref t)])) rfl rfl (hb hby d3_110)
      have V143 : Arv Z h143 t k .char (4 : Int32) [(.int x0), (.int (nar .char p2)), (.int x1), (.int x2)] (.int (0 : Int32)) := Arv.set Ar143 q143 S143 M143 H143 G143 (fits_nar_char _) W143 1 rfl (Nat.le_of_ble_eq_true rfl)
      have N143 := Fr.snoc X143 N140 g_t
      have Fn_144 := ((F_c'.keep K140 (ninS (Ne.symm hne) nin0)).other W143 (Or.inl (Ne.symm hne)))
      obtain ⟨T145, X145, e145, st145⟩ := getF X143 hx hZ hown (host := "") (Or.inl (hw _ (List.mem_of_getElem? (i := 14) rfl))) Via.refl e143 Fn_144 (g := (mkF m 113 #[rv a1, iv p2, iv (-2 : Int32), iv (1 : Int32)] [(.ref a1), (.ref a1)])) rfl rfl (hb hby d3_113)
      have En_146 := ((E_a1.keep K140).wr W143)
      obtain ⟨T147, h147, X147, e147, W147, st147⟩ := putF X145 hx hZ hown (host := "") (Or.inl (hw _ (List.mem_of_getElem? (i := 14) rfl))) Via.refl e145 Fn_144 En_146 (Or.inl (hw _ (List.mem_of_getElem? (i := 15) rfl))) (hw _ (List.mem_of_getElem? (i := 3) rfl)) (ty := .int) (by decide) rfl rfl (g := (mkF m 118 #[rv a1, iv p2, iv (-2 : Int32), iv (1 : Int32)] [(.int (4 : Int32)), (.ref a1)])) rfl rfl (hb hby d3_118)
      have Fw147 := Fn_144.same W147
      have N147 := Fr.snoc X147 N143 g_a1
      have pre148 : ∀ tg, own_S p e below T147 m 122 #[rv a1, iv p2, iv (-2 : Int32), iv (1 : Int32)] [(.ref a1)] tg → Steps p.tables e below (s₁.setTop (entryFrame m #[(.ref a1), (.int p2)] 4)) tg := fun tg k => pre110 tg (by
        show own_S p e below T109 m 13 #[rv a1, iv p2, .unset, .unset] [(.int (-2 : Int32))] _
        refine XS.istoreN X109.here hx rfl (hb hby d3_13) rfl (l' := #[rv a1, iv p2, iv (-2 : Int32), .unset]) rfl ?_
        refine XS.iloadN X109.here hx rfl (hb hby d3_14) rfl ?_
        refine XS.ifYes X109.here hx rfl (pc0 := 15) (pc' := 20) rfl (hb hby d3_15) rfl ((if0 _ _).trans (tlt (by decide : (-2 : Int32) < (0 : Int32))).1) (by decide) (by decide) ?_
        show own_S p e below T109 m 20 #[rv a1, iv p2, iv (-2 : Int32), .unset] [] _
        refine XS.aloadN X109.here hx rfl (hb hby d3_20) rfl rfl ?_
        refine st133 _ ?_
        refine XS.sipush X133.here hx rfl (hb hby d3_24) ?_
        show own_S p e below T133 m 27 #[rv a1, iv p2, iv (-2 : Int32), .unset] [(.int (4096 : Int32)), (.int (3 : Int32))] _
        refine XS.icmpYes X133.here hx rfl (pc0 := 27) (pc' := 42) rfl (hb hby d3_27) rfl (feq (by decide : ¬ ((3 : Int32) = (4096 : Int32)))).2 (by decide) (by decide) ?_
        refine XS.iloadN X133.here hx rfl (hb hby d3_42) rfl ?_
        refine XS.ineg X133.here hx rfl (hb hby d3_43) rfl ?_
        show own_S p e below T133 m 44 #[rv a1, iv p2, iv (-2 : Int32), .unset] [(.int (2 : Int32))] _
        refine XS.iconst X133.here hx rfl (hb hby d3_44) ?_
        refine XS.isub X133.here hx rfl (hb hby d3_45) rfl ?_
        refine XS.istoreN X133.here hx rfl (hb hby d3_46) rfl (l' := #[rv a1, iv p2, iv (-2 : Int32), iv (1 : Int32)]) rfl ?_
        show own_S p e below T133 m 47 #[rv a1, iv p2, iv (-2 : Int32), iv (1 : Int32)] [] _
        refine XS.aloadN X133.here hx rfl (hb hby d3_47) rfl rfl ?_
        refine st134 _ ?_
        refine XS.aloadN X134.here hx rfl (hb hby d3_51) rfl rfl ?_
        show own_S p e below T134 m 52 #[rv a1, iv p2, iv (-2 : Int32), iv (1 : Int32)] [(.ref a1), (.int (3 : Int32))] _
        refine st135 _ ?_
        refine X135.arraylength hx (by rw [e135]; exact Ar136.1) (State.isArrayOf_alike hZ.alike Ar136.2.1) (g := (mkF m 55 #[rv a1, iv p2, iv (-2 : Int32), iv (1 : Int32)] [(.ref t), (.int (3 : Int32))])) rfl rfl (hb hby d3_55) _ ?_
        rw [len_of S136 M136]
        refine XS.icmpYes X135.here hx rfl (pc0 := 56) (pc' := 83) rfl (hb hby d3_56) rfl (feq (by decide : ¬ ((3 : Int32) = (4 : Int32)))).2 (by decide) (by decide) ?_
        show own_S p e below T135 m 83 #[rv a1, iv p2, iv (-2 : Int32), iv (1 : Int32)] [] _
        refine XS.aloadN X135.here hx rfl (hb hby d3_83) rfl rfl ?_
        refine st137 _ ?_
        refine XS.iloadN X137.here hx rfl (hb hby d3_87) rfl ?_
        show own_S p e below T137 m 88 #[rv a1, iv p2, iv (-2 : Int32), iv (1 : Int32)] [(.int (1 : Int32)), (.ref t)] _
        refine XS.aloadN X137.here hx rfl (hb hby d3_88) rfl rfl ?_
        refine st138 _ ?_
        refine XS.iloadN X138.here hx rfl (hb hby d3_92) rfl ?_
        show own_S p e below T138 m 93 #[rv a1, iv p2, iv (-2 : Int32), iv (1 : Int32)] [(.int (1 : Int32)), (.ref t), (.int (1 : Int32)), (.ref t)] _
        refine XS.iconst X138.here hx rfl (hb hby d3_93) ?_
        refine XS.iadd X138.here hx rfl (hb hby d3_94) rfl ?_
        refine XS.aloadN X138.here hx rfl (hb hby d3_95) rfl rfl ?_
        show own_S p e below T138 m 96 #[rv a1, iv p2, iv (-2 : Int32), iv (1 : Int32)] [(.ref a1), (.int (2 : Int32)), (.ref t), (.int (1 : Int32)), (.ref t)] _
        refine st139 _ ?_
        refine XS.iloadN X139.here hx rfl (hb hby d3_99) rfl ?_
        refine XS.isub X139.here hx rfl (hb hby d3_100) rfl ?_
        show own_S p e below T139 m 101 #[rv a1, iv p2, iv (-2 : Int32), iv (1 : Int32)] [(.int (2 : Int32)), (.int (2 : Int32)), (.ref t), (.int (1 : Int32)), (.ref t)] _
        refine st140 _ ?_
        refine XS.aloadN X140.here hx rfl (hb hby d3_104) rfl rfl ?_
        refine st142 _ ?_
        show own_S p e below T142 m 108 #[rv a1, iv p2, iv (-2 : Int32), iv (1 : Int32)] [(.ref t)] _
        refine XS.iloadN X142.here hx rfl (hb hby d3_108) rfl ?_
        refine XS.iloadN X142.here hx rfl (hb hby d3_109) rfl ?_
        refine st143 _ ?_
        show own_S p e below T143 m 111 #[rv a1, iv p2, iv (-2 : Int32), iv (1 : Int32)] [] _
        refine XS.aloadN X143.here hx rfl (hb hby d3_111) rfl rfl ?_
        refine XS.dup X143.here hx rfl (hb hby d3_112) rfl rfl ?_
        refine st145 _ ?_
        show own_S p e below T145 m 116 #[rv a1, iv p2, iv (-2 : Int32), iv (1 : Int32)] [(.int (3 : Int32)), (.ref a1)] _
        refine XS.iconst X145.here hx rfl (hb hby d3_116) ?_
        refine XS.iadd X145.here hx rfl (hb hby d3_117) rfl ?_
        refine st147 _ ?_
        show own_S p e below T147 m 121 #[rv a1, iv p2, iv (-2 : Int32), iv (1 : Int32)] [] _
        refine XS.aloadN X147.here hx rfl (hb hby d3_121) rfl rfl ?_
        exact k)
      obtain ⟨fs, hr, hrun, hended, hW, hsame⟩ := X147.leave (v := some (.ref a1)) (fun h => by rw [Bd.returns] at h; cases h)
      refine ⟨_, _, pre148 _ ?_, hrun, hended, _, _, rfl, ?_, ⟨_, rfl⟩, hW, hsame.mono (by decide) (by decide)⟩
      · show own_S p e below T147 m 122 #[rv a1, iv p2, iv (-2 : Int32), iv (1 : Int32)] [(.ref a1)] _
        exact retOut X147 hx (t := (.object "com/example/bitstrata/bitstrata/Container")) Bd.returns rfl (Or.inr (Or.inr (Or.inr (Or.inr ⟨rfl, rfl, rfl⟩)))) (hb hby d3_122) hr
      · show QAdd Z a1 p2 t k [x0, x1, x2] h0 n0 _ T147.heap _
        rw [e147]
        have En_149 := (En_146.wr W147)
        have Fn_150 := ((Fn_141.other W143 (Or.inl (Ne.symm hne))).other W147 (Or.inr (slot_ne (Or.inl (hw _ (List.mem_of_getElem? (i := 13) rfl))) (Or.inl (hw _ (List.mem_of_getElem? (i := 15) rfl))) (by decide) (t := (.array .char)) (t' := .int) (by decide) (by decide))))
        have Vn_151 := (V143.other W147 hne)
        rw [hk] at Vn_151
        refine ⟨[x0, p2, x1, x2], t, _, rfl, N147, ((((Keep.refl h0 [a1, t]).trans K140 (allS (Or.inl (List.mem_of_getElem? (i := 1) rfl)) all0)).wr W143 (Or.inl (List.mem_of_getElem? (i := 1) rfl))).wr W147 (Or.inl (List.mem_of_getElem? (i := 0) rfl))), En_149, Fn_150, Fw147, Vn_151, g_t, hne, Or.inl rfl, Nat.le_of_ble_eq_true rfl, Nat.le_of_ble_eq_true rfl, ?_, ?_, ?_⟩
        · exact ⟨(by first | assumption | exact own_tr (by assumption) (by assumption)), (by first | assumption | exact own_tr (by assumption) (by assumption)), (by first | assumption | exact own_tr (by assumption) (by assumption)), trivial⟩
        · intro x hx; simp only [List.mem_cons, List.not_mem_nil, or_false] at hx; rcases hx with rfl | rfl | rfl | rfl <;> first | exact hk | exact hch _ (by simp)
        · intro x; simp only [List.mem_cons, List.not_mem_nil, or_false]; try (constructor; (intro h; rcases h with h | h | h | h <;> simp [h]); (intro h; rcases h with (h | h | h) | h <;> simp [h]))
    ·  -- case
      obtain ⟨T152, X152, e152, st152⟩ := getF X109 hx hZ hown (host := "") (Or.inl (hw _ (List.mem_of_getElem? (i := 14) rfl))) Via.refl e109 F_c' (g := (mkF m 21 #[rv a1, iv p2, iv (-3 : Int32), .unset] [(.ref a1)])) rfl rfl (hb hby d3_21)
      obtain ⟨T153, X153, e153, st153⟩ := getF X152 hx hZ hown (host := "") (Or.inl (hw _ (List.mem_of_getElem? (i := 14) rfl))) Via.refl e152 F_c' (g := (mkF m 48 #[rv a1, iv p2, iv (-3 : Int32), iv (2 : Int32)] [(.ref a1)])) rfl rfl (hb hby d3_48)
      obtain ⟨T154, X154, e154, st154⟩ := getF X153 hx hZ hown (host := "") (Or.inl (hw _ (List.mem_of_getElem? (i := 12) rfl))) Via.refl e153 F_v (g := (mkF m 52 #[rv a1, iv p2, iv (-3 : Int32), iv (2 : Int32)] [(.ref a1), (.int (3 : Int32))])) rfl rfl (hb hby d3_52)
      obtain ⟨cl155, Ar155, q155, S155, M155, -, -⟩ := id V_t'
      obtain ⟨T156, X156, e156, st156⟩ := getF X154 hx hZ hown (host := "") (Or.inl (hw _ (List.mem_of_getElem? (i := 12) rfl))) Via.refl e154 F_v (g := (mkF m 84 #[rv a1, iv p2, iv (-3 : Int32), iv (2 : Int32)] [(.ref a1)])) rfl rfl (hb hby d3_84)
      obtain ⟨T157, X157, e157, st157⟩ := getF X156 hx hZ hown (host := "") (Or.inl (hw _ (List.mem_of_getElem? (i := 12) rfl))) Via.refl e156 F_v (g := (mkF m 89 #[rv a1, iv p2, iv (-3 : Int32), iv (2 : Int32)] [(.ref a1), (.int (2 : Int32)), (.ref t)])) rfl rfl (hb hby d3_89)
      obtain ⟨T158, X158, e158, st158⟩ := getF X157 hx hZ hown (host := "") (Or.inl (hw _ (List.mem_of_getElem? (i := 14) rfl))) Via.refl e157 F_c' (g := (mkF m 96 #[rv a1, iv p2, iv (-3 : Int32), iv (2 : Int32)] [(.ref a1), (.int (3 : Int32)), (.ref t), (.int (2 : Int32)), (.ref t)])) rfl rfl (hb hby d3_96)
      obtain ⟨T159, h159, L159, X159, e159, N159, K159, Vc159, st159⟩ := cpA X158 hx hZ hown (hw _ (List.mem_of_getElem? (i := 35) rfl)) (hw _ (List.mem_of_getElem? (i := 38) rfl)) (hw _ (List.mem_of_getElem? (i := 36) rfl)) (hw _ (List.mem_of_getElem? (i := 37) rfl)) e158 (us := [(.int x2)]) (sp := (2 : Int32)) (dp := (3 : Int32)) (nn := (1 : Int32)) V_t' V_t' (Or.inl ⟨rfl, rfl⟩) (by decide) (by decide) (by decide) (by decide) (by decide) rfl (Nat.le_of_ble_eq_true rfl) N109 g_t (g := (mkF m 101 #[rv a1, iv p2, iv (-3 : Int32), iv (2 : Int32)] [(.int (1 : Int32)), (.int (3 : Int32)), (.ref t), (.int (2 : Int32)), (.ref t)])) rfl (by rw [hml]; rfl) rfl (hb hby d3_101) (by decide) (W := 0) (by show 2 * 0 + _ ≤ _; exact Nat.le_of_eq rfl) (by decide)
      have V159 : Arv Z h159 t k .char (4 : Int32) [(.int x0), (.int x1), (.int x2), (.int x2)] (.int (0 : Int32)) := Vc159
      have Fn_160 := (F_v.keep K159 (ninS (Ne.symm hne) nin0))
      obtain ⟨T161, X161, e161, st161⟩ := getF X159 hx hZ hown (host := "") (Or.inl (hw _ (List.mem_of_getElem? (i := 12) rfl))) Via.refl e159 Fn_160 (g := (mkF m 105 #[rv a1, iv p2, iv (-3 : Int32), iv (2 : Int32)] [(.ref a1)])) rfl rfl (hb hby d3_105)
      obtain ⟨cl162, Ar162, q162, S162, M162, H162, G162⟩ := id V159
      have hin162 : ¬ ((2 : Int32) < 0 ∨ cl162.slots.size ≤ ((2 : Int32)).toNatClampNeg) := inb_of S162 ⟨by decide, by decide⟩
      obtain ⟨T162, h162, X162, e162, W162, st162⟩ := stC X161 hx hZ e161 Ar162 (j := (2 : Int32)) hin162 (g := (mkF m 110 #[rv a1, iv p2, iv (-3 : Int32), iv (2 : Int32)] [(.int p2), (.int (2 : Int32)), (.ref t)])) rfl rfl (hb hby d3_110)
      have V162 : Arv Z h162 t k .char (4 : Int32) [(.int x0), (.int x1), (.int (nar .char p2)), (.int x2)] (.int (0 : Int32)) := Arv.set Ar162 q162 S162 M162 H162 G162 (fits_nar_char _) W162 2 rfl (Nat.le_of_ble_eq_true rfl)
      have N162 := Fr.snoc X162 N159 g_t
      have Fn_163 := ((F_c'.keep K159 (ninS (Ne.symm hne) nin0)).other W162 (Or.inl (Ne.symm hne)))
      obtain ⟨T164, X164, e164, st164⟩ := getF X162 hx hZ hown (host := "") (Or.inl (hw _ (List.mem_of_getElem? (i := 14) rfl))) Via.refl e162 Fn_163 (g := (mkF m 113 #[rv a1, iv p2, iv (-3 : Int32), iv (2 : Int32)] [(.ref a1), (.ref a1)])) rfl rfl (hb hby d3_113)
      have En_165 := ((E_a1.keep K159).wr W162)
      obtain ⟨T166, h166, X166, e166, W166, st166⟩ := putF X164 hx hZ hown (host := "") (Or.inl (hw _ (List.mem_of_getElem? (i := 14) rfl))) Via.refl e164 Fn_163 En_165 (Or.inl (hw _ (List.mem_of_getElem? (i := 15) rfl))) (hw _ (List.mem_of_getElem? (i := 3) rfl)) (ty := .int) (by decide) rfl rfl (g := (mkF m 118 #[rv a1, iv p2, iv (-3 : Int32), iv (2 : Int32)] [(.int (4 : Int32)), (.ref a1)])) rfl rfl (hb hby d3_118)
      have Fw166 := Fn_163.same W166
      have N166 := Fr.snoc X166 N162 g_a1
      have pre167 : ∀ tg, own_S p e below T166 m 122 #[rv a1, iv p2, iv (-3 : Int32), iv (2 : Int32)] [(.ref a1)] tg → Steps p.tables e below (s₁.setTop (entryFrame m #[(.ref a1), (.int p2)] 4)) tg := fun tg k => pre110 tg (by
        show own_S p e below T109 m 13 #[rv a1, iv p2, .unset, .unset] [(.int (-3 : Int32))] _
        refine XS.istoreN X109.here hx rfl (hb hby d3_13) rfl (l' := #[rv a1, iv p2, iv (-3 : Int32), .unset]) rfl ?_
        refine XS.iloadN X109.here hx rfl (hb hby d3_14) rfl ?_
        refine XS.ifYes X109.here hx rfl (pc0 := 15) (pc' := 20) rfl (hb hby d3_15) rfl ((if0 _ _).trans (tlt (by decide : (-3 : Int32) < (0 : Int32))).1) (by decide) (by decide) ?_
        show own_S p e below T109 m 20 #[rv a1, iv p2, iv (-3 : Int32), .unset] [] _
        refine XS.aloadN X109.here hx rfl (hb hby d3_20) rfl rfl ?_
        refine st152 _ ?_
        refine XS.sipush X152.here hx rfl (hb hby d3_24) ?_
        show own_S p e below T152 m 27 #[rv a1, iv p2, iv (-3 : Int32), .unset] [(.int (4096 : Int32)), (.int (3 : Int32))] _
        refine XS.icmpYes X152.here hx rfl (pc0 := 27) (pc' := 42) rfl (hb hby d3_27) rfl (feq (by decide : ¬ ((3 : Int32) = (4096 : Int32)))).2 (by decide) (by decide) ?_
        refine XS.iloadN X152.here hx rfl (hb hby d3_42) rfl ?_
        refine XS.ineg X152.here hx rfl (hb hby d3_43) rfl ?_
        show own_S p e below T152 m 44 #[rv a1, iv p2, iv (-3 : Int32), .unset] [(.int (3 : Int32))] _
        refine XS.iconst X152.here hx rfl (hb hby d3_44) ?_
        refine XS.isub X152.here hx rfl (hb hby d3_45) rfl ?_
        refine XS.istoreN X152.here hx rfl (hb hby d3_46) rfl (l' := #[rv a1, iv p2, iv (-3 : Int32), iv (2 : Int32)]) rfl ?_
        show own_S p e below T152 m 47 #[rv a1, iv p2, iv (-3 : Int32), iv (2 : Int32)] [] _
        refine XS.aloadN X152.here hx rfl (hb hby d3_47) rfl rfl ?_
        refine st153 _ ?_
        refine XS.aloadN X153.here hx rfl (hb hby d3_51) rfl rfl ?_
        show own_S p e below T153 m 52 #[rv a1, iv p2, iv (-3 : Int32), iv (2 : Int32)] [(.ref a1), (.int (3 : Int32))] _
        refine st154 _ ?_
        refine X154.arraylength hx (by rw [e154]; exact Ar155.1) (State.isArrayOf_alike hZ.alike Ar155.2.1) (g := (mkF m 55 #[rv a1, iv p2, iv (-3 : Int32), iv (2 : Int32)] [(.ref t), (.int (3 : Int32))])) rfl rfl (hb hby d3_55) _ ?_
        rw [len_of S155 M155]
        refine XS.icmpYes X154.here hx rfl (pc0 := 56) (pc' := 83) rfl (hb hby d3_56) rfl (feq (by decide : ¬ ((3 : Int32) = (4 : Int32)))).2 (by decide) (by decide) ?_
        show own_S p e below T154 m 83 #[rv a1, iv p2, iv (-3 : Int32), iv (2 : Int32)] [] _
        refine XS.aloadN X154.here hx rfl (hb hby d3_83) rfl rfl ?_
        refine st156 _ ?_
        refine XS.iloadN X156.here hx rfl (hb hby d3_87) rfl ?_
        show own_S p e below T156 m 88 #[rv a1, iv p2, iv (-3 : Int32), iv (2 : Int32)] [(.int (2 : Int32)), (.ref t)] _
        refine XS.aloadN X156.here hx rfl (hb hby d3_88) rfl rfl ?_
        refine st157 _ ?_
        refine XS.iloadN X157.here hx rfl (hb hby d3_92) rfl ?_
        show own_S p e below T157 m 93 #[rv a1, iv p2, iv (-3 : Int32), iv (2 : Int32)] [(.int (2 : Int32)), (.ref t), (.int (2 : Int32)), (.ref t)] _
        refine XS.iconst X157.here hx rfl (hb hby d3_93) ?_
        refine XS.iadd X157.here hx rfl (hb hby d3_94) rfl ?_
        refine XS.aloadN X157.here hx rfl (hb hby d3_95) rfl rfl ?_
        show own_S p e below T157 m 96 #[rv a1, iv p2, iv (-3 : Int32), iv (2 : Int32)] [(.ref a1), (.int (3 : Int32)), (.ref t), (.int (2 : Int32)), (.ref t)] _
        refine st158 _ ?_
        refine XS.iloadN X158.here hx rfl (hb hby d3_99) rfl ?_
        refine XS.isub X158.here hx rfl (hb hby d3_100) rfl ?_
        show own_S p e below T158 m 101 #[rv a1, iv p2, iv (-3 : Int32), iv (2 : Int32)] [(.int (1 : Int32)), (.int (3 : Int32)), (.ref t), (.int (2 : Int32)), (.ref t)] _
        refine st159 _ ?_
        refine XS.aloadN X159.here hx rfl (hb hby d3_104) rfl rfl ?_
        refine st161 _ ?_
        show own_S p e below T161 m 108 #[rv a1, iv p2, iv (-3 : Int32), iv (2 : Int32)] [(.ref t)] _
        refine XS.iloadN X161.here hx rfl (hb hby d3_108) rfl ?_
        refine XS.iloadN X161.here hx rfl (hb hby d3_109) rfl ?_
        refine st162 _ ?_
        show own_S p e below T162 m 111 #[rv a1, iv p2, iv (-3 : Int32), iv (2 : Int32)] [] _
        refine XS.aloadN X162.here hx rfl (hb hby d3_111) rfl rfl ?_
        refine XS.dup X162.here hx rfl (hb hby d3_112) rfl rfl ?_
        refine st164 _ ?_
        show own_S p e below T164 m 116 #[rv a1, iv p2, iv (-3 : Int32), iv (2 : Int32)] [(.int (3 : Int32)), (.ref a1)] _
        refine XS.iconst X164.here hx rfl (hb hby d3_116) ?_
        refine XS.iadd X164.here hx rfl (hb hby d3_117) rfl ?_
        refine st166 _ ?_
        show own_S p e below T166 m 121 #[rv a1, iv p2, iv (-3 : Int32), iv (2 : Int32)] [] _
        refine XS.aloadN X166.here hx rfl (hb hby d3_121) rfl rfl ?_
        exact k)
      obtain ⟨fs, hr, hrun, hended, hW, hsame⟩ := X166.leave (v := some (.ref a1)) (fun h => by rw [Bd.returns] at h; cases h)
      refine ⟨_, _, pre167 _ ?_, hrun, hended, _, _, rfl, ?_, ⟨_, rfl⟩, hW, hsame.mono (by decide) (by decide)⟩
      · show own_S p e below T166 m 122 #[rv a1, iv p2, iv (-3 : Int32), iv (2 : Int32)] [(.ref a1)] _
        exact retOut X166 hx (t := (.object "com/example/bitstrata/bitstrata/Container")) Bd.returns rfl (Or.inr (Or.inr (Or.inr (Or.inr ⟨rfl, rfl, rfl⟩)))) (hb hby d3_122) hr
      · show QAdd Z a1 p2 t k [x0, x1, x2] h0 n0 _ T166.heap _
        rw [e166]
        have En_168 := (En_165.wr W166)
        have Fn_169 := ((Fn_160.other W162 (Or.inl (Ne.symm hne))).other W166 (Or.inr (slot_ne (Or.inl (hw _ (List.mem_of_getElem? (i := 13) rfl))) (Or.inl (hw _ (List.mem_of_getElem? (i := 15) rfl))) (by decide) (t := (.array .char)) (t' := .int) (by decide) (by decide))))
        have Vn_170 := (V162.other W166 hne)
        rw [hk] at Vn_170
        refine ⟨[x0, x1, p2, x2], t, _, rfl, N166, ((((Keep.refl h0 [a1, t]).trans K159 (allS (Or.inl (List.mem_of_getElem? (i := 1) rfl)) all0)).wr W162 (Or.inl (List.mem_of_getElem? (i := 1) rfl))).wr W166 (Or.inl (List.mem_of_getElem? (i := 0) rfl))), En_168, Fn_169, Fw166, Vn_170, g_t, hne, Or.inl rfl, Nat.le_of_ble_eq_true rfl, Nat.le_of_ble_eq_true rfl, ?_, ?_, ?_⟩
        · exact ⟨(by first | assumption | exact own_tr (by assumption) (by assumption)), (by first | assumption | exact own_tr (by assumption) (by assumption)), (by first | assumption | exact own_tr (by assumption) (by assumption)), trivial⟩
        · intro x hx; simp only [List.mem_cons, List.not_mem_nil, or_false] at hx; rcases hx with rfl | rfl | rfl | rfl <;> first | exact hk | exact hch _ (by simp)
        · intro x; simp only [List.mem_cons, List.not_mem_nil, or_false]; try (constructor; (intro h; rcases h with h | h | h | h <;> simp [h]); (intro h; rcases h with (h | h | h) | h <;> simp [h]))
    ·  -- case
      obtain ⟨T171, X171, e171, st171⟩ := getF X109 hx hZ hown (host := "") (Or.inl (hw _ (List.mem_of_getElem? (i := 14) rfl))) Via.refl e109 F_c' (g := (mkF m 21 #[rv a1, iv p2, iv (-4 : Int32), .unset] [(.ref a1)])) rfl rfl (hb hby d3_21)
      obtain ⟨T172, X172, e172, st172⟩ := getF X171 hx hZ hown (host := "") (Or.inl (hw _ (List.mem_of_getElem? (i := 14) rfl))) Via.refl e171 F_c' (g := (mkF m 48 #[rv a1, iv p2, iv (-4 : Int32), iv (3 : Int32)] [(.ref a1)])) rfl rfl (hb hby d3_48)
      obtain ⟨T173, X173, e173, st173⟩ := getF X172 hx hZ hown (host := "") (Or.inl (hw _ (List.mem_of_getElem? (i := 12) rfl))) Via.refl e172 F_v (g := (mkF m 52 #[rv a1, iv p2, iv (-4 : Int32), iv (3 : Int32)] [(.ref a1), (.int (3 : Int32))])) rfl rfl (hb hby d3_52)
      obtain ⟨cl174, Ar174, q174, S174, M174, -, -⟩ := id V_t'
      obtain ⟨T175, X175, e175, st175⟩ := getF X173 hx hZ hown (host := "") (Or.inl (hw _ (List.mem_of_getElem? (i := 12) rfl))) Via.refl e173 F_v (g := (mkF m 84 #[rv a1, iv p2, iv (-4 : Int32), iv (3 : Int32)] [(.ref a1)])) rfl rfl (hb hby d3_84)
      obtain ⟨T176, X176, e176, st176⟩ := getF X175 hx hZ hown (host := "") (Or.inl (hw _ (List.mem_of_getElem? (i := 12) rfl))) Via.refl e175 F_v (g := (mkF m 89 #[rv a1, iv p2, iv (-4 : Int32), iv (3 : Int32)] [(.ref a1), (.int (3 : Int32)), (.ref t)])) rfl rfl (hb hby d3_89)
      obtain ⟨T177, X177, e177, st177⟩ := getF X176 hx hZ hown (host := "") (Or.inl (hw _ (List.mem_of_getElem? (i := 14) rfl))) Via.refl e176 F_c' (g := (mkF m 96 #[rv a1, iv p2, iv (-4 : Int32), iv (3 : Int32)] [(.ref a1), (.int (4 : Int32)), (.ref t), (.int (3 : Int32)), (.ref t)])) rfl rfl (hb hby d3_96)
      obtain ⟨T178, h178, L178, X178, e178, N178, K178, Vc178, st178⟩ := cpA X177 hx hZ hown (hw _ (List.mem_of_getElem? (i := 35) rfl)) (hw _ (List.mem_of_getElem? (i := 38) rfl)) (hw _ (List.mem_of_getElem? (i := 36) rfl)) (hw _ (List.mem_of_getElem? (i := 37) rfl)) e177 (us := []) (sp := (3 : Int32)) (dp := (4 : Int32)) (nn := (0 : Int32)) V_t' V_t' (Or.inl ⟨rfl, rfl⟩) (by decide) (by decide) (by decide) (by decide) (by decide) rfl (Nat.le_of_ble_eq_true rfl) N109 g_t (g := (mkF m 101 #[rv a1, iv p2, iv (-4 : Int32), iv (3 : Int32)] [(.int (0 : Int32)), (.int (4 : Int32)), (.ref t), (.int (3 : Int32)), (.ref t)])) rfl (by rw [hml]; rfl) rfl (hb hby d3_101) (by decide) (W := 0) (by show 2 * 0 + _ ≤ _; exact Nat.le_of_eq rfl) (by decide)
      have V178 : Arv Z h178 t k .char (4 : Int32) [(.int x0), (.int x1), (.int x2), (.int (0 : Int32))] (.int (0 : Int32)) := Vc178
      have Fn_179 := (F_v.keep K178 (ninS (Ne.symm hne) nin0))
      obtain ⟨T180, X180, e180, st180⟩ := getF X178 hx hZ hown (host := "") (Or.inl (hw _ (List.mem_of_getElem? (i := 12) rfl))) Via.refl e178 Fn_179 (g := (mkF m 105 #[rv a1, iv p2, iv (-4 : Int32), iv (3 : Int32)] [(.ref a1)])) rfl rfl (hb hby d3_105)
      obtain ⟨cl181, Ar181, q181, S181, M181, H181, G181⟩ := id V178
      have hin181 : ¬ ((3 : Int32) < 0 ∨ cl181.slots.size ≤ ((3 : Int32)).toNatClampNeg) := inb_of S181 ⟨by decide, by decide⟩
      obtain ⟨T181, h181, X181, e181, W181, st181⟩ := stC X180 hx hZ e180 Ar181 (j := (3 : Int32)) hin181 (g := (mkF m 110 #[rv a1, iv p2, iv (-4 : Int32), iv (3 : Int32)] [(.int p2), (.int (3 : Int32)), (.ref t)])) rfl rfl (hb hby d3_110)
      have V181 : Arv Z h181 t k .char (4 : Int32) [(.int x0), (.int x1), (.int x2), (.int (nar .char p2))] (.int (0 : Int32)) := Arv.set Ar181 q181 S181 M181 H181 G181 (fits_nar_char _) W181 3 rfl (Nat.le_of_ble_eq_true rfl)
      have N181 := Fr.snoc X181 N178 g_t
      have Fn_182 := ((F_c'.keep K178 (ninS (Ne.symm hne) nin0)).other W181 (Or.inl (Ne.symm hne)))
      obtain ⟨T183, X183, e183, st183⟩ := getF X181 hx hZ hown (host := "") (Or.inl (hw _ (List.mem_of_getElem? (i := 14) rfl))) Via.refl e181 Fn_182 (g := (mkF m 113 #[rv a1, iv p2, iv (-4 : Int32), iv (3 : Int32)] [(.ref a1), (.ref a1)])) rfl rfl (hb hby d3_113)
      have En_184 := ((E_a1.keep K178).wr W181)
      obtain ⟨T185, h185, X185, e185, W185, st185⟩ := putF X183 hx hZ hown (host := "") (Or.inl (hw _ (List.mem_of_getElem? (i := 14) rfl))) Via.refl e183 Fn_182 En_184 (Or.inl (hw _ (List.mem_of_getElem? (i := 15) rfl))) (hw _ (List.mem_of_getElem? (i := 3) rfl)) (ty := .int) (by decide) rfl rfl (g := (mkF m 118 #[rv a1, iv p2, iv (-4 : Int32), iv (3 : Int32)] [(.int (4 : Int32)), (.ref a1)])) rfl rfl (hb hby d3_118)
      have Fw185 := Fn_182.same W185
      have N185 := Fr.snoc X185 N181 g_a1
      have pre186 : ∀ tg, own_S p e below T185 m 122 #[rv a1, iv p2, iv (-4 : Int32), iv (3 : Int32)] [(.ref a1)] tg → Steps p.tables e below (s₁.setTop (entryFrame m #[(.ref a1), (.int p2)] 4)) tg := fun tg k => pre110 tg (by
        show own_S p e below T109 m 13 #[rv a1, iv p2, .unset, .unset] [(.int (-4 : Int32))] _
        refine XS.istoreN X109.here hx rfl (hb hby d3_13) rfl (l' := #[rv a1, iv p2, iv (-4 : Int32), .unset]) rfl ?_
        refine XS.iloadN X109.here hx rfl (hb hby d3_14) rfl ?_
        refine XS.ifYes X109.here hx rfl (pc0 := 15) (pc' := 20) rfl (hb hby d3_15) rfl ((if0 _ _).trans (tlt (by decide : (-4 : Int32) < (0 : Int32))).1) (by decide) (by decide) ?_
        show own_S p e below T109 m 20 #[rv a1, iv p2, iv (-4 : Int32), .unset] [] _
        refine XS.aloadN X109.here hx rfl (hb hby d3_20) rfl rfl ?_
        refine st171 _ ?_
        refine XS.sipush X171.here hx rfl (hb hby d3_24) ?_
        show own_S p e below T171 m 27 #[rv a1, iv p2, iv (-4 : Int32), .unset] [(.int (4096 : Int32)), (.int (3 : Int32))] _
        refine XS.icmpYes X171.here hx rfl (pc0 := 27) (pc' := 42) rfl (hb hby d3_27) rfl (feq (by decide : ¬ ((3 : Int32) = (4096 : Int32)))).2 (by decide) (by decide) ?_
        refine XS.iloadN X171.here hx rfl (hb hby d3_42) rfl ?_
        refine XS.ineg X171.here hx rfl (hb hby d3_43) rfl ?_
        show own_S p e below T171 m 44 #[rv a1, iv p2, iv (-4 : Int32), .unset] [(.int (4 : Int32))] _
        refine XS.iconst X171.here hx rfl (hb hby d3_44) ?_
        refine XS.isub X171.here hx rfl (hb hby d3_45) rfl ?_
        refine XS.istoreN X171.here hx rfl (hb hby d3_46) rfl (l' := #[rv a1, iv p2, iv (-4 : Int32), iv (3 : Int32)]) rfl ?_
        show own_S p e below T171 m 47 #[rv a1, iv p2, iv (-4 : Int32), iv (3 : Int32)] [] _
        refine XS.aloadN X171.here hx rfl (hb hby d3_47) rfl rfl ?_
        refine st172 _ ?_
        refine XS.aloadN X172.here hx rfl (hb hby d3_51) rfl rfl ?_
        show own_S p e below T172 m 52 #[rv a1, iv p2, iv (-4 : Int32), iv (3 : Int32)] [(.ref a1), (.int (3 : Int32))] _
        refine st173 _ ?_
        refine X173.arraylength hx (by rw [e173]; exact Ar174.1) (State.isArrayOf_alike hZ.alike Ar174.2.1) (g := (mkF m 55 #[rv a1, iv p2, iv (-4 : Int32), iv (3 : Int32)] [(.ref t), (.int (3 : Int32))])) rfl rfl (hb hby d3_55) _ ?_
        rw [len_of S174 M174]
        refine XS.icmpYes X173.here hx rfl (pc0 := 56) (pc' := 83) rfl (hb hby d3_56) rfl (feq (by decide : ¬ ((3 : Int32) = (4 : Int32)))).2 (by decide) (by decide) ?_
        show own_S p e below T173 m 83 #[rv a1, iv p2, iv (-4 : Int32), iv (3 : Int32)] [] _
        refine XS.aloadN X173.here hx rfl (hb hby d3_83) rfl rfl ?_
        refine st175 _ ?_
        refine XS.iloadN X175.here hx rfl (hb hby d3_87) rfl ?_
        show own_S p e below T175 m 88 #[rv a1, iv p2, iv (-4 : Int32), iv (3 : Int32)] [(.int (3 : Int32)), (.ref t)] _
        refine XS.aloadN X175.here hx rfl (hb hby d3_88) rfl rfl ?_
        refine st176 _ ?_
        refine XS.iloadN X176.here hx rfl (hb hby d3_92) rfl ?_
        show own_S p e below T176 m 93 #[rv a1, iv p2, iv (-4 : Int32), iv (3 : Int32)] [(.int (3 : Int32)), (.ref t), (.int (3 : Int32)), (.ref t)] _
        refine XS.iconst X176.here hx rfl (hb hby d3_93) ?_
        refine XS.iadd X176.here hx rfl (hb hby d3_94) rfl ?_
        refine XS.aloadN X176.here hx rfl (hb hby d3_95) rfl rfl ?_
        show own_S p e below T176 m 96 #[rv a1, iv p2, iv (-4 : Int32), iv (3 : Int32)] [(.ref a1), (.int (4 : Int32)), (.ref t), (.int (3 : Int32)), (.ref t)] _
        refine st177 _ ?_
        refine XS.iloadN X177.here hx rfl (hb hby d3_99) rfl ?_
        refine XS.isub X177.here hx rfl (hb hby d3_100) rfl ?_
        show own_S p e below T177 m 101 #[rv a1, iv p2, iv (-4 : Int32), iv (3 : Int32)] [(.int (0 : Int32)), (.int (4 : Int32)), (.ref t), (.int (3 : Int32)), (.ref t)] _
        refine st178 _ ?_
        refine XS.aloadN X178.here hx rfl (hb hby d3_104) rfl rfl ?_
        refine st180 _ ?_
        show own_S p e below T180 m 108 #[rv a1, iv p2, iv (-4 : Int32), iv (3 : Int32)] [(.ref t)] _
        refine XS.iloadN X180.here hx rfl (hb hby d3_108) rfl ?_
        refine XS.iloadN X180.here hx rfl (hb hby d3_109) rfl ?_
        refine st181 _ ?_
        show own_S p e below T181 m 111 #[rv a1, iv p2, iv (-4 : Int32), iv (3 : Int32)] [] _
        refine XS.aloadN X181.here hx rfl (hb hby d3_111) rfl rfl ?_
        refine XS.dup X181.here hx rfl (hb hby d3_112) rfl rfl ?_
        refine st183 _ ?_
        show own_S p e below T183 m 116 #[rv a1, iv p2, iv (-4 : Int32), iv (3 : Int32)] [(.int (3 : Int32)), (.ref a1)] _
        refine XS.iconst X183.here hx rfl (hb hby d3_116) ?_
        refine XS.iadd X183.here hx rfl (hb hby d3_117) rfl ?_
        refine st185 _ ?_
        show own_S p e below T185 m 121 #[rv a1, iv p2, iv (-4 : Int32), iv (3 : Int32)] [] _
        refine XS.aloadN X185.here hx rfl (hb hby d3_121) rfl rfl ?_
        exact k)
      obtain ⟨fs, hr, hrun, hended, hW, hsame⟩ := X185.leave (v := some (.ref a1)) (fun h => by rw [Bd.returns] at h; cases h)
      refine ⟨_, _, pre186 _ ?_, hrun, hended, _, _, rfl, ?_, ⟨_, rfl⟩, hW, hsame.mono (by decide) (by decide)⟩
      · show own_S p e below T185 m 122 #[rv a1, iv p2, iv (-4 : Int32), iv (3 : Int32)] [(.ref a1)] _
        exact retOut X185 hx (t := (.object "com/example/bitstrata/bitstrata/Container")) Bd.returns rfl (Or.inr (Or.inr (Or.inr (Or.inr ⟨rfl, rfl, rfl⟩)))) (hb hby d3_122) hr
      · show QAdd Z a1 p2 t k [x0, x1, x2] h0 n0 _ T185.heap _
        rw [e185]
        have En_187 := (En_184.wr W185)
        have Fn_188 := ((Fn_179.other W181 (Or.inl (Ne.symm hne))).other W185 (Or.inr (slot_ne (Or.inl (hw _ (List.mem_of_getElem? (i := 13) rfl))) (Or.inl (hw _ (List.mem_of_getElem? (i := 15) rfl))) (by decide) (t := (.array .char)) (t' := .int) (by decide) (by decide))))
        have Vn_189 := (V181.other W185 hne)
        rw [hk] at Vn_189
        refine ⟨[x0, x1, x2, p2], t, _, rfl, N185, ((((Keep.refl h0 [a1, t]).trans K178 (allS (Or.inl (List.mem_of_getElem? (i := 1) rfl)) all0)).wr W181 (Or.inl (List.mem_of_getElem? (i := 1) rfl))).wr W185 (Or.inl (List.mem_of_getElem? (i := 0) rfl))), En_187, Fn_188, Fw185, Vn_189, g_t, hne, Or.inl rfl, Nat.le_of_ble_eq_true rfl, Nat.le_of_ble_eq_true rfl, ?_, ?_, ?_⟩
        · exact ⟨(by first | assumption | exact own_tr (by assumption) (by assumption)), (by first | assumption | exact own_tr (by assumption) (by assumption)), (by first | assumption | exact own_tr (by assumption) (by assumption)), trivial⟩
        · intro x hx; simp only [List.mem_cons, List.not_mem_nil, or_false] at hx; rcases hx with rfl | rfl | rfl | rfl <;> first | exact hk | exact hch _ (by simp)
        · intro x; simp only [List.mem_cons, List.not_mem_nil, or_false]; try (constructor; (intro h; rcases h with h | h | h | h <;> simp [h]); (intro h; rcases h with (h | h | h) | h <;> simp [h]))
  ·  -- case
    obtain ⟨x0, x1, x2, x3, rfl⟩ := own_len4 hl
    have F_c' : Fld Z h0 a1 "com/example/bitstrata/bitstrata/ArrayContainer" "cardinality" "I" (.int (4 : Int32)) := F_c
    have V_t' : Arv Z h0 t k .char (4 : Int32) [(.int x0), (.int x1), (.int x2), (.int x3)] (.int (0 : Int32)) := V_t
    have s01 : x0 < x1 := hs.1
    have s12 : x1 < x2 := hs.2.1
    have s23 : x2 < x3 := hs.2.2.1
    obtain ⟨T190, X190, e190, st190⟩ := getF X0 hx hZ hown (host := "") (Or.inl (hw _ (List.mem_of_getElem? (i := 12) rfl))) Via.refl e0 F_v (g := (mkF m 1 #[rv a1, iv p2, .unset, .unset] [(.ref a1)])) rfl rfl (hb hby d3_1)
    obtain ⟨T191, X191, e191, st191⟩ := getF X190 hx hZ hown (host := "") (Or.inl (hw _ (List.mem_of_getElem? (i := 14) rfl))) Via.refl e190 F_c' (g := (mkF m 6 #[rv a1, iv p2, .unset, .unset] [(.ref a1), (.int (0 : Int32)), (.ref t)])) rfl rfl (hb hby d3_6)
    obtain ⟨_, _, ⟨T192, L192, k192, n192⟩, -, X192, ⟨Lc192, hQ192, l192, y192, z192⟩, st192⟩ := Jvm.LawKit.callS X191 hx (y := (⟨"java/util/Arrays", "binarySearch", "([CIIC)I"⟩ : MethodName)) hown (mvT hZ (hw _ (List.mem_of_getElem? (i := 25) rfl))) (mvT hZ (hw _ (List.mem_of_getElem? (i := 26) rfl))) (mvT hZ (hw _ (List.mem_of_getElem? (i := 27) rfl))) (mvT hZ (hw _ (List.mem_of_getElem? (i := 28) rfl))) (by decide) (backOf (W := 0) (rmS4 l Z a0 hw [] t p2 k x0 x1 x2 x3 h0 n0 Z0 V_t') hZ (hw _ (List.mem_of_getElem? (i := 28) rfl)) (hw _ (List.mem_of_getElem? (i := 27) rfl)) (by decide) (by decide)) (g := (mkF m 10 #[rv a1, iv p2, .unset, .unset] [(.int p2), (.int (4 : Int32)), (.int (0 : Int32)), (.ref t)])) rfl (by rw [hml]; rfl) (argsL := [(.ref t), (.int (0 : Int32)), (.int (4 : Int32)), (.int p2)]) (rest := []) (lenOf pd_1 rfl) rfl (by show 2 * 0 + _ ≤ _; exact Nat.le_of_eq rfl) (hb hby d3_10) (fun _ _ => ⟨rfl, e191, (by decide : 0 + 0 ≤ _), (by decide : 0 + 0 ≤ _)⟩)
    dsimp only [Pt.U, Pt.locs, Pt.cells, Pt.slots] at X192 l192 y192 z192 st192 hQ192
    subst l192 y192 z192
    obtain ⟨r192, rfl, N192q, e192q, hD192⟩ := hQ192
    have N192 := Fr.app N0 N192q
    have e192 : T192.heap = h0 := e192q
    have pre193 : ∀ tg, own_S p e below T192 m 13 #[rv a1, iv p2, .unset, .unset] [(.int r192)] tg → Steps p.tables e below (s₁.setTop (entryFrame m #[(.ref a1), (.int p2)] 4)) tg := fun tg k => pre0 tg (by
      show own_S p e below s₁ m 0 #[rv a1, iv p2, .unset, .unset] [] _
      refine XS.aloadN X0.here hx rfl (hb hby d3_0) rfl rfl ?_
      refine st190 _ ?_
      refine XS.iconst X190.here hx rfl (hb hby d3_4) ?_
      show own_S p e below T190 m 5 #[rv a1, iv p2, .unset, .unset] [(.int (0 : Int32)), (.ref t)] _
      refine XS.aloadN X190.here hx rfl (hb hby d3_5) rfl rfl ?_
      refine st191 _ ?_
      refine XS.iloadN X191.here hx rfl (hb hby d3_9) rfl ?_
      show own_S p e below T191 m 10 #[rv a1, iv p2, .unset, .unset] [(.int p2), (.int (4 : Int32)), (.int (0 : Int32)), (.ref t)] _
      refine st192 _ ?_
      exact k)
    rcases hD192 with ⟨rfl, q0⟩ | ⟨rfl, q0⟩ | ⟨rfl, q0⟩ | ⟨rfl, q0⟩ | ⟨rfl, q0⟩ | ⟨rfl, q0, q1⟩ | ⟨rfl, q0, q1⟩ | ⟨rfl, q0, q1⟩ | ⟨rfl, q0⟩
    ·  -- case
      have pre194 : ∀ tg, own_S p e below T192 m 19 #[rv a1, iv p2, iv (0 : Int32), .unset] [(.ref a1)] tg → Steps p.tables e below (s₁.setTop (entryFrame m #[(.ref a1), (.int p2)] 4)) tg := fun tg k => pre193 tg (by
        show own_S p e below T192 m 13 #[rv a1, iv p2, .unset, .unset] [(.int (0 : Int32))] _
        refine XS.istoreN X192.here hx rfl (hb hby d3_13) rfl (l' := #[rv a1, iv p2, iv (0 : Int32), .unset]) rfl ?_
        refine XS.iloadN X192.here hx rfl (hb hby d3_14) rfl ?_
        refine XS.ifNo X192.here hx rfl (hb hby d3_15) rfl ((if0 _ _).trans (flt (by decide : ¬ ((0 : Int32) < (0 : Int32)))).1) ?_
        show own_S p e below T192 m 18 #[rv a1, iv p2, iv (0 : Int32), .unset] [] _
        refine XS.aloadN X192.here hx rfl (hb hby d3_18) rfl rfl ?_
        exact k)
      obtain ⟨fs, hr, hrun, hended, hW, hsame⟩ := X192.leave (v := some (.ref a1)) (fun h => by rw [Bd.returns] at h; cases h)
      refine ⟨_, _, pre194 _ ?_, hrun, hended, _, _, rfl, ?_, ⟨_, rfl⟩, hW, hsame.mono (by decide) (by decide)⟩
      · show own_S p e below T192 m 19 #[rv a1, iv p2, iv (0 : Int32), .unset] [(.ref a1)] _
        exact retOut X192 hx (t := (.object "com/example/bitstrata/bitstrata/Container")) Bd.returns rfl (Or.inr (Or.inr (Or.inr (Or.inr ⟨rfl, rfl, rfl⟩)))) (hb hby d3_19) hr
      · show QAdd Z a1 p2 t k [x0, x1, x2, x3] h0 n0 _ T192.heap _
        rw [e192]
        refine ⟨[x0, x1, x2, x3], t, _, rfl, N192, (Keep.refl h0 [a1, t]), E_a1, F_v, F_c', V_t', g_t, hne, Or.inl rfl, Nat.le_of_ble_eq_true rfl, Nat.le_of_ble_eq_true rfl, ?_, ?_, ?_⟩
        · exact ⟨(by first | assumption | exact own_tr (by assumption) (by assumption)), (by first | assumption | exact own_tr (by assumption) (by assumption)), (by first | assumption | exact own_tr (by assumption) (by assumption)), trivial⟩
        · exact hch
        · intro x; simp only [List.mem_cons, List.not_mem_nil, or_false]
          constructor
          · intro h; exact Or.inl h
          · intro h; rcases h with h | h
            · exact h
            · simp [h, ← q0]
    ·  -- case
      have pre195 : ∀ tg, own_S p e below T192 m 19 #[rv a1, iv p2, iv (1 : Int32), .unset] [(.ref a1)] tg → Steps p.tables e below (s₁.setTop (entryFrame m #[(.ref a1), (.int p2)] 4)) tg := fun tg k => pre193 tg (by
        show own_S p e below T192 m 13 #[rv a1, iv p2, .unset, .unset] [(.int (1 : Int32))] _
        refine XS.istoreN X192.here hx rfl (hb hby d3_13) rfl (l' := #[rv a1, iv p2, iv (1 : Int32), .unset]) rfl ?_
        refine XS.iloadN X192.here hx rfl (hb hby d3_14) rfl ?_
        refine XS.ifNo X192.here hx rfl (hb hby d3_15) rfl ((if0 _ _).trans (flt (by decide : ¬ ((1 : Int32) < (0 : Int32)))).1) ?_
        show own_S p e below T192 m 18 #[rv a1, iv p2, iv (1 : Int32), .unset] [] _
        refine XS.aloadN X192.here hx rfl (hb hby d3_18) rfl rfl ?_
        exact k)
      obtain ⟨fs, hr, hrun, hended, hW, hsame⟩ := X192.leave (v := some (.ref a1)) (fun h => by rw [Bd.returns] at h; cases h)
      refine ⟨_, _, pre195 _ ?_, hrun, hended, _, _, rfl, ?_, ⟨_, rfl⟩, hW, hsame.mono (by decide) (by decide)⟩
      · show own_S p e below T192 m 19 #[rv a1, iv p2, iv (1 : Int32), .unset] [(.ref a1)] _
        exact retOut X192 hx (t := (.object "com/example/bitstrata/bitstrata/Container")) Bd.returns rfl (Or.inr (Or.inr (Or.inr (Or.inr ⟨rfl, rfl, rfl⟩)))) (hb hby d3_19) hr
      · show QAdd Z a1 p2 t k [x0, x1, x2, x3] h0 n0 _ T192.heap _
        rw [e192]
        refine ⟨[x0, x1, x2, x3], t, _, rfl, N192, (Keep.refl h0 [a1, t]), E_a1, F_v, F_c', V_t', g_t, hne, Or.inl rfl, Nat.le_of_ble_eq_true rfl, Nat.le_of_ble_eq_true rfl, ?_, ?_, ?_⟩
        · exact ⟨(by first | assumption | exact own_tr (by assumption) (by assumption)), (by first | assumption | exact own_tr (by assumption) (by assumption)), (by first | assumption | exact own_tr (by assumption) (by assumption)), trivial⟩
        · exact hch
        · intro x; simp only [List.mem_cons, List.not_mem_nil, or_false]
          constructor
          · intro h; exact Or.inl h
          · intro h; rcases h with h | h
            · exact h
            · simp [h, ← q0]
    ·  -- case
      have pre196 : ∀ tg, own_S p e below T192 m 19 #[rv a1, iv p2, iv (2 : Int32), .unset] [(.ref a1)] tg → Steps p.tables e below (s₁.setTop (entryFrame m #[(.ref a1), (.int p2)] 4)) tg := fun tg k => pre193 tg (by
        show own_S p e below T192 m 13 #[rv a1, iv p2, .unset, .unset] [(.int (2 : Int32))] _
        refine XS.istoreN X192.here hx rfl (hb hby d3_13) rfl (l' := #[rv a1, iv p2, iv (2 : Int32), .unset]) rfl ?_
        refine XS.iloadN X192.here hx rfl (hb hby d3_14) rfl ?_
        refine XS.ifNo X192.here hx rfl (hb hby d3_15) rfl ((if0 _ _).trans (flt (by decide : ¬ ((2 : Int32) < (0 : Int32)))).1) ?_
        show own_S p e below T192 m 18 #[rv a1, iv p2, iv (2 : Int32), .unset] [] _
        refine XS.aloadN X192.here hx rfl (hb hby d3_18) rfl rfl ?_
        exact k)
      obtain ⟨fs, hr, hrun, hended, hW, hsame⟩ := X192.leave (v := some (.ref a1)) (fun h => by rw [Bd.returns] at h; cases h)
      refine ⟨_, _, pre196 _ ?_, hrun, hended, _, _, rfl, ?_, ⟨_, rfl⟩, hW, hsame.mono (by decide) (by decide)⟩
      · show own_S p e below T192 m 19 #[rv a1, iv p2, iv (2 : Int32), .unset] [(.ref a1)] _
        exact retOut X192 hx (t := (.object "com/example/bitstrata/bitstrata/Container")) Bd.returns rfl (Or.inr (Or.inr (Or.inr (Or.inr ⟨rfl, rfl, rfl⟩)))) (hb hby d3_19) hr
      · show QAdd Z a1 p2 t k [x0, x1, x2, x3] h0 n0 _ T192.heap _
        rw [e192]
        refine ⟨[x0, x1, x2, x3], t, _, rfl, N192, (Keep.refl h0 [a1, t]), E_a1, F_v, F_c', V_t', g_t, hne, Or.inl rfl, Nat.le_of_ble_eq_true rfl, Nat.le_of_ble_eq_true rfl, ?_, ?_, ?_⟩
        · exact ⟨(by first | assumption | exact own_tr (by assumption) (by assumption)), (by first | assumption | exact own_tr (by assumption) (by assumption)), (by first | assumption | exact own_tr (by assumption) (by assumption)), trivial⟩
        · exact hch
        · intro x; simp only [List.mem_cons, List.not_mem_nil, or_false]
          constructor
          · intro h; exact Or.inl h
          · intro h; rcases h with h | h
            · exact h
            · simp [h, ← q0]
    ·  -- case
      have pre197 : ∀ tg, own_S p e below T192 m 19 #[rv a1, iv p2, iv (3 : Int32), .unset] [(.ref a1)] tg → Steps p.tables e below (s₁.setTop (entryFrame m #[(.ref a1), (.int p2)] 4)) tg := fun tg k => pre193 tg (by
        show own_S p e below T192 m 13 #[rv a1, iv p2, .unset, .unset] [(.int (3 : Int32))] _
        refine XS.istoreN X192.here hx rfl (hb hby d3_13) rfl (l' := #[rv a1, iv p2, iv (3 : Int32), .unset]) rfl ?_
        refine XS.iloadN X192.here hx rfl (hb hby d3_14) rfl ?_
        refine XS.ifNo X192.here hx rfl (hb hby d3_15) rfl ((if0 _ _).trans (flt (by decide : ¬ ((3 : Int32) < (0 : Int32)))).1) ?_
        show own_S p e below T192 m 18 #[rv a1, iv p2, iv (3 : Int32), .unset] [] _
        refine XS.aloadN X192.here hx rfl (hb hby d3_18) rfl rfl ?_
        exact k)
      obtain ⟨fs, hr, hrun, hended, hW, hsame⟩ := X192.leave (v := some (.ref a1)) (fun h => by rw [Bd.returns] at h; cases h)
      refine ⟨_, _, pre197 _ ?_, hrun, hended, _, _, rfl, ?_, ⟨_, rfl⟩, hW, hsame.mono (by decide) (by decide)⟩
      · show own_S p e below T192 m 19 #[rv a1, iv p2, iv (3 : Int32), .unset] [(.ref a1)] _
        exact retOut X192 hx (t := (.object "com/example/bitstrata/bitstrata/Container")) Bd.returns rfl (Or.inr (Or.inr (Or.inr (Or.inr ⟨rfl, rfl, rfl⟩)))) (hb hby d3_19) hr
      · show QAdd Z a1 p2 t k [x0, x1, x2, x3] h0 n0 _ T192.heap _
        rw [e192]
        refine ⟨[x0, x1, x2, x3], t, _, rfl, N192, (Keep.refl h0 [a1, t]), E_a1, F_v, F_c', V_t', g_t, hne, Or.inl rfl, Nat.le_of_ble_eq_true rfl, Nat.le_of_ble_eq_true rfl, ?_, ?_, ?_⟩
        · exact ⟨(by first | assumption | exact own_tr (by assumption) (by assumption)), (by first | assumption | exact own_tr (by assumption) (by assumption)), (by first | assumption | exact own_tr (by assumption) (by assumption)), trivial⟩
        · exact hch
        · intro x; simp only [List.mem_cons, List.not_mem_nil, or_false]
          constructor
          · intro h; exact Or.inl h
          · intro h; rcases h with h | h
            · exact h
            · simp [h, ← q0]
    ·  -- case
      obtain ⟨T198, X198, e198, st198⟩ := getF X192 hx hZ hown (host := "") (Or.inl (hw _ (List.mem_of_getElem? (i := 14) rfl))) Via.refl e192 F_c' (g := (mkF m 21 #[rv a1, iv p2, iv (-1 : Int32), .unset] [(.ref a1)])) rfl rfl (hb hby d3_21)
      obtain ⟨T199, X199, e199, st199⟩ := getF X198 hx hZ hown (host := "") (Or.inl (hw _ (List.mem_of_getElem? (i := 14) rfl))) Via.refl e198 F_c' (g := (mkF m 48 #[rv a1, iv p2, iv (-1 : Int32), iv (0 : Int32)] [(.ref a1)])) rfl rfl (hb hby d3_48)
      obtain ⟨T200, X200, e200, st200⟩ := getF X199 hx hZ hown (host := "") (Or.inl (hw _ (List.mem_of_getElem? (i := 12) rfl))) Via.refl e199 F_v (g := (mkF m 52 #[rv a1, iv p2, iv (-1 : Int32), iv (0 : Int32)] [(.ref a1), (.int (4 : Int32))])) rfl rfl (hb hby d3_52)
      obtain ⟨cl201, Ar201, q201, S201, M201, -, -⟩ := id V_t'
      obtain ⟨T202, X202, e202, st202⟩ := getF X200 hx hZ hown (host := "") (Or.inl (hw _ (List.mem_of_getElem? (i := 12) rfl))) Via.refl e200 F_v (g := (mkF m 61 #[rv a1, iv p2, iv (-1 : Int32), iv (0 : Int32)] [(.ref a1), (.ref a1)])) rfl rfl (hb hby d3_61)
      obtain ⟨T203, X203, e203, st203⟩ := getF X202 hx hZ hown (host := "") (Or.inl (hw _ (List.mem_of_getElem? (i := 12) rfl))) Via.refl e202 F_v (g := (mkF m 66 #[rv a1, iv p2, iv (-1 : Int32), iv (0 : Int32)] [(.ref a1), (.int (2 : Int32)), (.ref t), (.ref a1)])) rfl rfl (hb hby d3_66)
      obtain ⟨cl204, Ar204, q204, S204, M204, -, -⟩ := id V_t'
      obtain ⟨_, _, ⟨T205, L205, k205, n205⟩, -, X205, ⟨Lc205, hQ205, l205, y205, z205⟩, st205⟩ := Jvm.LawKit.callS X203 hx (y := (⟨"java/lang/Math", "min", "(II)I"⟩ : MethodName)) hown (mvT hZ (hw _ (List.mem_of_getElem? (i := 51) rfl))) (mvT hZ (hw _ (List.mem_of_getElem? (i := 52) rfl))) (mvT hZ (hw _ (List.mem_of_getElem? (i := 41) rfl))) (mvT hZ (hw _ (List.mem_of_getElem? (i := 53) rfl))) (by decide) (backOf (W := 2) (rmMin l Z a0 hw [] (8 : Int32) (4096 : Int32) h0 n0 Z0 ) hZ (hw _ (List.mem_of_getElem? (i := 53) rfl)) (hw _ (List.mem_of_getElem? (i := 41) rfl)) (by decide) (by decide)) (g := (mkF m 74 #[rv a1, iv p2, iv (-1 : Int32), iv (0 : Int32)] [(.int (4096 : Int32)), (.int (8 : Int32)), (.ref t), (.ref a1)])) rfl (by rw [hml]; rfl) (argsL := [(.int (8 : Int32)), (.int (4096 : Int32))]) (rest := [(.ref t), (.ref a1)]) (lenOf pd_2 rfl) rfl (by show 2 * 0 + _ ≤ _; exact Nat.le_of_eq rfl) (hb hby d3_74) (fun _ _ => ⟨rfl, e203, (by decide : 0 + 0 ≤ _), (by decide : 0 + 0 ≤ _)⟩)
      dsimp only [Pt.U, Pt.locs, Pt.cells, Pt.slots] at X205 l205 y205 z205 st205 hQ205
      subst l205 y205 z205
      obtain ⟨hv205, N205q, e205q⟩ := hQ205
      have N205 := Fr.app N192 N205q
      rw [show own_min (8 : Int32) (4096 : Int32) = (8 : Int32) from by decide] at hv205
      subst hv205
      have e205 : T205.heap = h0 := e205q
      obtain ⟨_, _, ⟨T206, L206, k206, n206⟩, -, X206, ⟨Lc206, hQ206, l206, y206, z206⟩, st206⟩ := Jvm.LawKit.callS X205 hx (y := (⟨"java/util/Arrays", "copyOf", "([CI)[C"⟩ : MethodName)) hown (mvT hZ (hw _ (List.mem_of_getElem? (i := 54) rfl))) (mvT hZ (hw _ (List.mem_of_getElem? (i := 55) rfl))) (mvT hZ (hw _ (List.mem_of_getElem? (i := 27) rfl))) (mvT hZ (hw _ (List.mem_of_getElem? (i := 56) rfl))) (by decide) (backOf (W := 1) (rmCo l Z a0 hw [] t k x0 x1 x2 x3 h0 n0 Z0 V_t') hZ (hw _ (List.mem_of_getElem? (i := 56) rfl)) (hw _ (List.mem_of_getElem? (i := 27) rfl)) (by decide) (by decide)) (g := (mkF m 77 #[rv a1, iv p2, iv (-1 : Int32), iv (0 : Int32)] [(.int (8 : Int32)), (.ref t), (.ref a1)])) rfl (by rw [hml]; rfl) (argsL := [(.ref t), (.int (8 : Int32))]) (rest := [(.ref a1)]) (lenOf pd_3 rfl) rfl (by show 2 * 0 + _ ≤ _; exact Nat.le_of_eq rfl) (hb hby d3_77) (fun _ _ => ⟨rfl, e205, (by decide : 0 + 1 ≤ _), (by decide : 0 + 8 ≤ _)⟩)
      dsimp only [Pt.U, Pt.locs, Pt.cells, Pt.slots] at X206 l206 y206 z206 st206 hQ206
      subst l206 y206 z206
      obtain ⟨b206, kb206, rfl, N206q, K206, V206n, g_b206, sz_b206⟩ := hQ206
      have N206 := Fr.app N205 N206q
      have ne_a1_b206 : a1 ≠ b206 := Nat.ne_of_lt (Nat.lt_of_lt_of_le E_a1.lt sz_b206)
      have ne_t_b206 : t ≠ b206 := Nat.ne_of_lt (Nat.lt_of_lt_of_le V_t'.lt sz_b206)
      have sz0_b206 : h0.size ≤ b206 := sz_b206
      have Fn_207 := (F_v.keep K206 nin0)
      have En_208 := (E_a1.keep K206)
      obtain ⟨T209, h209, X209, e209, W209, st209⟩ := putF X206 hx hZ hown (host := "") (Or.inl (hw _ (List.mem_of_getElem? (i := 12) rfl))) Via.refl rfl Fn_207 En_208 (Or.inl (hw _ (List.mem_of_getElem? (i := 13) rfl))) (hw _ (List.mem_of_getElem? (i := 3) rfl)) (ty := (.array .char)) (by decide) rfl rfl (g := (mkF m 80 #[rv a1, iv p2, iv (-1 : Int32), iv (0 : Int32)] [(.ref b206), (.ref a1)])) rfl rfl (hb hby d3_80)
      have Fw209 := Fn_207.same W209
      have N209 := Fr.snoc X209 N206 g_a1
      obtain ⟨T210, X210, e210, st210⟩ := getF X209 hx hZ hown (host := "") (Or.inl (hw _ (List.mem_of_getElem? (i := 12) rfl))) Via.refl e209 Fw209 (g := (mkF m 84 #[rv a1, iv p2, iv (-1 : Int32), iv (0 : Int32)] [(.ref a1)])) rfl rfl (hb hby d3_84)
      obtain ⟨T211, X211, e211, st211⟩ := getF X210 hx hZ hown (host := "") (Or.inl (hw _ (List.mem_of_getElem? (i := 12) rfl))) Via.refl e210 Fw209 (g := (mkF m 89 #[rv a1, iv p2, iv (-1 : Int32), iv (0 : Int32)] [(.ref a1), (.int (0 : Int32)), (.ref b206)])) rfl rfl (hb hby d3_89)
      have Fn_212 := ((F_c'.keep K206 nin0).other W209 (Or.inr (slot_ne (Or.inl (hw _ (List.mem_of_getElem? (i := 15) rfl))) (Or.inl (hw _ (List.mem_of_getElem? (i := 13) rfl))) (by decide) (t := .int) (t' := (.array .char)) (by decide) (by decide))))
      obtain ⟨T213, X213, e213, st213⟩ := getF X211 hx hZ hown (host := "") (Or.inl (hw _ (List.mem_of_getElem? (i := 14) rfl))) Via.refl e211 Fn_212 (g := (mkF m 96 #[rv a1, iv p2, iv (-1 : Int32), iv (0 : Int32)] [(.ref a1), (.int (1 : Int32)), (.ref b206), (.int (0 : Int32)), (.ref b206)])) rfl rfl (hb hby d3_96)
      have Vn_214 := (V206n.other W209 (Ne.symm ne_a1_b206))
      obtain ⟨T215, h215, L215, X215, e215, N215, K215, Vc215, st215⟩ := cpA X213 hx hZ hown (hw _ (List.mem_of_getElem? (i := 35) rfl)) (hw _ (List.mem_of_getElem? (i := 38) rfl)) (hw _ (List.mem_of_getElem? (i := 36) rfl)) (hw _ (List.mem_of_getElem? (i := 37) rfl)) e213 (us := [(.int x0), (.int x1), (.int x2), (.int x3)]) (sp := (0 : Int32)) (dp := (1 : Int32)) (nn := (4 : Int32)) Vn_214 Vn_214 (Or.inl ⟨rfl, rfl⟩) (by decide) (by decide) (by decide) (by decide) (by decide) rfl (Nat.le_of_ble_eq_true rfl) N209 g_b206 (g := (mkF m 101 #[rv a1, iv p2, iv (-1 : Int32), iv (0 : Int32)] [(.int (4 : Int32)), (.int (1 : Int32)), (.ref b206), (.int (0 : Int32)), (.ref b206)])) rfl (by rw [hml]; rfl) rfl (hb hby d3_101) (by decide) (W := 0) (by show 2 * 0 + _ ≤ _; exact Nat.le_of_eq rfl) (by decide)
      have V215 : Arv Z h215 b206 kb206 .char (8 : Int32) [(.int x0), (.int x0), (.int x1), (.int x2), (.int x3), (.int (0 : Int32)), (.int (0 : Int32)), (.int (0 : Int32))] (.int (0 : Int32)) := Vc215
      have Fn_216 := (Fw209.keep K215 (ninS ne_a1_b206 nin0))
      obtain ⟨T217, X217, e217, st217⟩ := getF X215 hx hZ hown (host := "") (Or.inl (hw _ (List.mem_of_getElem? (i := 12) rfl))) Via.refl e215 Fn_216 (g := (mkF m 105 #[rv a1, iv p2, iv (-1 : Int32), iv (0 : Int32)] [(.ref a1)])) rfl rfl (hb hby d3_105)
      obtain ⟨cl218, Ar218, q218, S218, M218, H218, G218⟩ := id V215
      have hin218 : ¬ ((0 : Int32) < 0 ∨ cl218.slots.size ≤ ((0 : Int32)).toNatClampNeg) := inb_of S218 ⟨by decide, by decide⟩
      obtain ⟨T218, h218, X218, e218, W218, st218⟩ := stC X217 hx hZ e217 Ar218 (j := (0 : Int32)) hin218 (g := (mkF m 110 #[rv a1, iv p2, iv (-1 : Int32), iv (0 : Int32)] [(.int p2), (.int (0 : Int32)), (.ref b206)])) rfl rfl (hb hby d3_110)
      have V218 : Arv Z h218 b206 kb206 .char (8 : Int32) [(.int (nar .char p2)), (.int x0), (.int x1), (.int x2), (.int x3), (.int (0 : Int32)), (.int (0 : Int32)), (.int (0 : Int32))] (.int (0 : Int32)) := Arv.set Ar218 q218 S218 M218 H218 G218 (fits_nar_char _) W218 0 rfl (Nat.le_of_ble_eq_true rfl)
      have N218 := Fr.snoc X218 N215 g_b206
      have Fn_219 := ((Fn_212.keep K215 (ninS ne_a1_b206 nin0)).other W218 (Or.inl ne_a1_b206))
      obtain ⟨T220, X220, e220, st220⟩ := getF X218 hx hZ hown (host := "") (Or.inl (hw _ (List.mem_of_getElem? (i := 14) rfl))) Via.refl e218 Fn_219 (g := (mkF m 113 #[rv a1, iv p2, iv (-1 : Int32), iv (0 : Int32)] [(.ref a1), (.ref a1)])) rfl rfl (hb hby d3_113)
      have En_221 := (((En_208.wr W209).keep K215).wr W218)
      obtain ⟨T222, h222, X222, e222, W222, st222⟩ := putF X220 hx hZ hown (host := "") (Or.inl (hw _ (List.mem_of_getElem? (i := 14) rfl))) Via.refl e220 Fn_219 En_221 (Or.inl (hw _ (List.mem_of_getElem? (i := 15) rfl))) (hw _ (List.mem_of_getElem? (i := 3) rfl)) (ty := .int) (by decide) rfl rfl (g := (mkF m 118 #[rv a1, iv p2, iv (-1 : Int32), iv (0 : Int32)] [(.int (5 : Int32)), (.ref a1)])) rfl rfl (hb hby d3_118)
      have Fw222 := Fn_219.same W222
      have N222 := Fr.snoc X222 N218 g_a1
      have pre223 : ∀ tg, own_S p e below T222 m 122 #[rv a1, iv p2, iv (-1 : Int32), iv (0 : Int32)] [(.ref a1)] tg → Steps p.tables e below (s₁.setTop (entryFrame m #[(.ref a1), (.int p2)] 4)) tg := fun tg k => pre193 tg (by
        show own_S p e below T192 m 13 #[rv a1, iv p2, .unset, .unset] [(.int (-1 : Int32))] _
        refine XS.istoreN X192.here hx rfl (hb hby d3_13) rfl (l' := #[rv a1, iv p2, iv (-1 : Int32), .unset]) rfl ?_
        refine XS.iloadN X192.here hx rfl (hb hby d3_14) rfl ?_
        refine XS.ifYes X192.here hx rfl (pc0 := 15) (pc' := 20) rfl (hb hby d3_15) rfl ((if0 _ _).trans (tlt (by decide : (-1 : Int32) < (0 : Int32))).1) (by decide) (by decide) ?_
        show own_S p e below T192 m 20 #[rv a1, iv p2, iv (-1 : Int32), .unset] [] _
        refine XS.aloadN X192.here hx rfl (hb hby d3_20) rfl rfl ?_
        refine st198 _ ?_
        refine XS.sipush X198.here hx rfl (hb hby d3_24) ?_
        show own_S p e below T198 m 27 #[rv a1, iv p2, iv (-1 : Int32), .unset] [(.int (4096 : Int32)), (.int (4 : Int32))] _
        refine XS.icmpYes X198.here hx rfl (pc0 := 27) (pc' := 42) rfl (hb hby d3_27) rfl (feq (by decide : ¬ ((4 : Int32) = (4096 : Int32)))).2 (by decide) (by decide) ?_
        refine XS.iloadN X198.here hx rfl (hb hby d3_42) rfl ?_
        refine XS.ineg X198.here hx rfl (hb hby d3_43) rfl ?_
        show own_S p e below T198 m 44 #[rv a1, iv p2, iv (-1 : Int32), .unset] [(.int (1 : Int32))] _
        refine XS.iconst X198.here hx rfl (hb hby d3_44) ?_
        refine XS.isub X198.here hx rfl (hb hby d3_45) rfl ?_
        refine XS.istoreN X198.here hx rfl (hb hby d3_46) rfl (l' := #[rv a1, iv p2, iv (-1 : Int32), iv (0 : Int32)]) rfl ?_
        show own_S p e below T198 m 47 #[rv a1, iv p2, iv (-1 : Int32), iv (0 : Int32)] [] _
        refine XS.aloadN X198.here hx rfl (hb hby d3_47) rfl rfl ?_
        refine st199 _ ?_
        refine XS.aloadN X199.here hx rfl (hb hby d3_51) rfl rfl ?_
        show own_S p e below T199 m 52 #[rv a1, iv p2, iv (-1 : Int32), iv (0 : Int32)] [(.ref a1), (.int (4 : Int32))] _
        refine st200 _ ?_
        refine X200.arraylength hx (by rw [e200]; exact Ar201.1) (State.isArrayOf_alike hZ.alike Ar201.2.1) (g := (mkF m 55 #[rv a1, iv p2, iv (-1 : Int32), iv (0 : Int32)] [(.ref t), (.int (4 : Int32))])) rfl rfl (hb hby d3_55) _ ?_
        rw [len_of S201 M201]
        refine XS.icmpNo X200.here hx rfl (hb hby d3_56) rfl (teq (by decide : (4 : Int32) = (4 : Int32))).2 ?_
        show own_S p e below T200 m 59 #[rv a1, iv p2, iv (-1 : Int32), iv (0 : Int32)] [] _
        refine XS.aloadN X200.here hx rfl (hb hby d3_59) rfl rfl ?_
        refine XS.aloadN X200.here hx rfl (hb hby d3_60) rfl rfl ?_
        refine st202 _ ?_
        show own_S p e below T202 m 64 #[rv a1, iv p2, iv (-1 : Int32), iv (0 : Int32)] [(.ref t), (.ref a1)] _
        refine XS.iconst X202.here hx rfl (hb hby d3_64) ?_
        refine XS.aloadN X202.here hx rfl (hb hby d3_65) rfl rfl ?_
        refine st203 _ ?_
        show own_S p e below T203 m 69 #[rv a1, iv p2, iv (-1 : Int32), iv (0 : Int32)] [(.ref t), (.int (2 : Int32)), (.ref t), (.ref a1)] _
        refine X203.arraylength hx (by rw [e203]; exact Ar204.1) (State.isArrayOf_alike hZ.alike Ar204.2.1) (g := (mkF m 69 #[rv a1, iv p2, iv (-1 : Int32), iv (0 : Int32)] [(.ref t), (.int (2 : Int32)), (.ref t), (.ref a1)])) rfl rfl (hb hby d3_69) _ ?_
        rw [len_of S204 M204]
        refine XS.imul X203.here hx rfl (hb hby d3_70) rfl ?_
        refine XS.sipush X203.here hx rfl (hb hby d3_71) ?_
        show own_S p e below T203 m 74 #[rv a1, iv p2, iv (-1 : Int32), iv (0 : Int32)] [(.int (4096 : Int32)), (.int (8 : Int32)), (.ref t), (.ref a1)] _
        refine st205 _ ?_
        refine st206 _ ?_
        refine st209 _ ?_
        show own_S p e below T209 m 83 #[rv a1, iv p2, iv (-1 : Int32), iv (0 : Int32)] [] _
        refine XS.aloadN X209.here hx rfl (hb hby d3_83) rfl rfl ?_
        refine st210 _ ?_
        refine XS.iloadN X210.here hx rfl (hb hby d3_87) rfl ?_
        show own_S p e below T210 m 88 #[rv a1, iv p2, iv (-1 : Int32), iv (0 : Int32)] [(.int (0 : Int32)), (.ref b206)] _
        refine XS.aloadN X210.here hx rfl (hb hby d3_88) rfl rfl ?_
        refine st211 _ ?_
        refine XS.iloadN X211.here hx rfl (hb hby d3_92) rfl ?_
        show own_S p e below T211 m 93 #[rv a1, iv p2, iv (-1 : Int32), iv (0 : Int32)] [(.int (0 : Int32)), (.ref b206), (.int (0 : Int32)), (.ref b206)] _
        refine XS.iconst X211.here hx rfl (hb hby d3_93) ?_
        refine XS.iadd X211.here hx rfl (hb hby d3_94) rfl ?_
        refine XS.aloadN X211.here hx rfl (hb hby d3_95) rfl rfl ?_
        show own_S p e below T211 m 96 #[rv a1, iv p2, iv (-1 : Int32), iv (0 : Int32)] [(.ref a1), (.int (1 : Int32)), (.ref b206), (.int (0 : Int32)), (.ref b206)] _
        refine st213 _ ?_
        refine XS.iloadN X213.here hx rfl (hb hby d3_99) rfl ?_
        refine XS.isub X213.here hx rfl (hb hby d3_100) rfl ?_
        show own_S p e below T213 m 101 #[rv a1, iv p2, iv (-1 : Int32), iv (0 : Int32)] [(.int (4 : Int32)), (.int (1 : Int32)), (.ref b206), (.int (0 : Int32)), (.ref b206)] _
        refine st215 _ ?_
        refine XS.aloadN X215.here hx rfl (hb hby d3_104) rfl rfl ?_
        refine st217 _ ?_
        show own_S p e below T217 m 108 #[rv a1, iv p2, iv (-1 : Int32), iv (0 : Int32)] [(.ref b206)] _
        refine XS.iloadN X217.here hx rfl (hb hby d3_108) rfl ?_
        refine XS.iloadN X217.here hx rfl (hb hby d3_109) rfl ?_
        refine st218 _ ?_
        show own_S p e below T218 m 111 #[rv a1, iv p2, iv (-1 : Int32), iv (0 : Int32)] [] _
        refine XS.aloadN X218.here hx rfl (hb hby d3_111) rfl rfl ?_
        refine XS.dup X218.here hx rfl (hb hby d3_112) rfl rfl ?_
        refine st220 _ ?_
        show own_S p e below T220 m 116 #[rv a1, iv p2, iv (-1 : Int32), iv (0 : Int32)] [(.int (4 : Int32)), (.ref a1)] _
        refine XS.iconst X220.here hx rfl (hb hby d3_116) ?_
        refine XS.iadd X220.here hx rfl (hb hby d3_117) rfl ?_
        refine st222 _ ?_
        show own_S p e below T222 m 121 #[rv a1, iv p2, iv (-1 : Int32), iv (0 : Int32)] [] _
        refine XS.aloadN X222.here hx rfl (hb hby d3_121) rfl rfl ?_
        exact k)
      obtain ⟨fs, hr, hrun, hended, hW, hsame⟩ := X222.leave (v := some (.ref a1)) (fun h => by rw [Bd.returns] at h; cases h)
      refine ⟨_, _, pre223 _ ?_, hrun, hended, _, _, rfl, ?_, ⟨_, rfl⟩, hW, hsame.mono (by decide) (by decide)⟩
      · show own_S p e below T222 m 122 #[rv a1, iv p2, iv (-1 : Int32), iv (0 : Int32)] [(.ref a1)] _
        exact retOut X222 hx (t := (.object "com/example/bitstrata/bitstrata/Container")) Bd.returns rfl (Or.inr (Or.inr (Or.inr (Or.inr ⟨rfl, rfl, rfl⟩)))) (hb hby d3_122) hr
      · show QAdd Z a1 p2 t k [x0, x1, x2, x3] h0 n0 _ T222.heap _
        rw [e222]
        have En_224 := (En_221.wr W222)
        have Fn_225 := ((Fn_216.other W218 (Or.inl ne_a1_b206)).other W222 (Or.inr (slot_ne (Or.inl (hw _ (List.mem_of_getElem? (i := 13) rfl))) (Or.inl (hw _ (List.mem_of_getElem? (i := 15) rfl))) (by decide) (t := (.array .char)) (t' := .int) (by decide) (by decide))))
        have Vn_226 := (V218.other W222 (Ne.symm ne_a1_b206))
        rw [hk] at Vn_226
        refine ⟨[p2, x0, x1, x2, x3], b206, _, rfl, N222, ((((((Keep.refl h0 [a1, t]).trans K206 all0).wr W209 (Or.inl (List.mem_of_getElem? (i := 0) rfl))).trans K215 (allS (Or.inr sz_b206) all0)).wr W218 (Or.inr sz_b206)).wr W222 (Or.inl (List.mem_of_getElem? (i := 0) rfl))), En_224, Fn_225, Fw222, Vn_226, g_b206, (Ne.symm ne_a1_b206), Or.inr sz0_b206, Nat.le_of_ble_eq_true rfl, Nat.le_of_ble_eq_true rfl, ?_, ?_, ?_⟩
        · exact ⟨(by first | assumption | exact own_tr (by assumption) (by assumption)), (by first | assumption | exact own_tr (by assumption) (by assumption)), (by first | assumption | exact own_tr (by assumption) (by assumption)), (by first | assumption | exact own_tr (by assumption) (by assumption)), trivial⟩
        · intro x hx; simp only [List.mem_cons, List.not_mem_nil, or_false] at hx; rcases hx with rfl | rfl | rfl | rfl | rfl <;> first | exact hk | exact hch _ (by simp)
        · intro x; simp only [List.mem_cons, List.not_mem_nil, or_false]; try (constructor; (intro h; rcases h with h | h | h | h | h <;> simp [h]); (intro h; rcases h with (h | h | h | h) | h <;> simp [h]))
    ·  -- case
      obtain ⟨T227, X227, e227, st227⟩ := getF X192 hx hZ hown (host := "") (Or.inl (hw _ (List.mem_of_getElem? (i := 14) rfl))) Via.refl e192 F_c' (g := (mkF m 21 #[rv a1, iv p2, iv (-2 : Int32), .unset] [(.ref a1)])) rfl rfl (hb hby d3_21)
      obtain ⟨T228, X228, e228, st228⟩ := getF X227 hx hZ hown (host := "") (Or.inl (hw _ (List.mem_of_getElem? (i := 14) rfl))) Via.refl e227 F_c' (g := (mkF m 48 #[rv a1, iv p2, iv (-2 : Int32), iv (1 : Int32)] [(.ref a1)])) rfl rfl (hb hby d3_48)
      obtain ⟨T229, X229, e229, st229⟩ := getF X228 hx hZ hown (host := "") (Or.inl (hw _ (List.mem_of_getElem? (i := 12) rfl))) Via.refl e228 F_v (g := (mkF m 52 #[rv a1, iv p2, iv (-2 : Int32), iv (1 : Int32)] [(.ref a1), (.int (4 : Int32))])) rfl rfl (hb hby d3_52)
      obtain ⟨cl230, Ar230, q230, S230, M230, -, -⟩ := id V_t'
      obtain ⟨T231, X231, e231, st231⟩ := getF X229 hx hZ hown (host := "") (Or.inl (hw _ (List.mem_of_getElem? (i := 12) rfl))) Via.refl e229 F_v (g := (mkF m 61 #[rv a1, iv p2, iv (-2 : Int32), iv (1 : Int32)] [(.ref a1), (.ref a1)])) rfl rfl (hb hby d3_61)
      obtain ⟨T232, X232, e232, st232⟩ := getF X231 hx hZ hown (host := "") (Or.inl (hw _ (List.mem_of_getElem? (i := 12) rfl))) Via.refl e231 F_v (g := (mkF m 66 #[rv a1, iv p2, iv (-2 : Int32), iv (1 : Int32)] [(.ref a1), (.int (2 : Int32)), (.ref t), (.ref a1)])) rfl rfl (hb hby d3_66)
      obtain ⟨cl233, Ar233, q233, S233, M233, -, -⟩ := id V_t'
      obtain ⟨_, _, ⟨T234, L234, k234, n234⟩, -, X234, ⟨Lc234, hQ234, l234, y234, z234⟩, st234⟩ := Jvm.LawKit.callS X232 hx (y := (⟨"java/lang/Math", "min", "(II)I"⟩ : MethodName)) hown (mvT hZ (hw _ (List.mem_of_getElem? (i := 51) rfl))) (mvT hZ (hw _ (List.mem_of_getElem? (i := 52) rfl))) (mvT hZ (hw _ (List.mem_of_getElem? (i := 41) rfl))) (mvT hZ (hw _ (List.mem_of_getElem? (i := 53) rfl))) (by decide) (backOf (W := 2) (rmMin l Z a0 hw [] (8 : Int32) (4096 : Int32) h0 n0 Z0 ) hZ (hw _ (List.mem_of_getElem? (i := 53) rfl)) (hw _ (List.mem_of_getElem? (i := 41) rfl)) (by decide) (by decide)) (g := (mkF m 74 #[rv a1, iv p2, iv (-2 : Int32), iv (1 : Int32)] [(.int (4096 : Int32)), (.int (8 : Int32)), (.ref t), (.ref a1)])) rfl (by rw [hml]; rfl) (argsL := [(.int (8 : Int32)), (.int (4096 : Int32))]) (rest := [(.ref t), (.ref a1)]) (lenOf pd_2 rfl) rfl (by show 2 * 0 + _ ≤ _; exact Nat.le_of_eq rfl) (hb hby d3_74) (fun _ _ => ⟨rfl, e232, (by decide : 0 + 0 ≤ _), (by decide : 0 + 0 ≤ _)⟩)
      dsimp only [Pt.U, Pt.locs, Pt.cells, Pt.slots] at X234 l234 y234 z234 st234 hQ234
      subst l234 y234 z234
      obtain ⟨hv234, N234q, e234q⟩ := hQ234
      have N234 := Fr.app N192 N234q
      rw [show own_min (8 : Int32) (4096 : Int32) = (8 : Int32) from by decide] at hv234
      subst hv234
      have e234 : T234.heap = h0 := e234q
      obtain ⟨_, _, ⟨T235, L235, k235, n235⟩, -, X235, ⟨Lc235, hQ235, l235, y235, z235⟩, st235⟩ := Jvm.LawKit.callS X234 hx (y := (⟨"java/util/Arrays", "copyOf", "([CI)[C"⟩ : MethodName)) hown (mvT hZ (hw _ (List.mem_of_getElem? (i := 54) rfl))) (mvT hZ (hw _ (List.mem_of_getElem? (i := 55) rfl))) (mvT hZ (hw _ (List.mem_of_getElem? (i := 27) rfl))) (mvT hZ (hw _ (List.mem_of_getElem? (i := 56) rfl))) (by decide) (backOf (W := 1) (rmCo l Z a0 hw [] t k x0 x1 x2 x3 h0 n0 Z0 V_t') hZ (hw _ (List.mem_of_getElem? (i := 56) rfl)) (hw _ (List.mem_of_getElem? (i := 27) rfl)) (by decide) (by decide)) (g := (mkF m 77 #[rv a1, iv p2, iv (-2 : Int32), iv (1 : Int32)] [(.int (8 : Int32)), (.ref t), (.ref a1)])) rfl (by rw [hml]; rfl) (argsL := [(.ref t), (.int (8 : Int32))]) (rest := [(.ref a1)]) (lenOf pd_3 rfl) rfl (by show 2 * 0 + _ ≤ _; exact Nat.le_of_eq rfl) (hb hby d3_77) (fun _ _ => ⟨rfl, e234, (by decide : 0 + 1 ≤ _), (by decide : 0 + 8 ≤ _)⟩)
      dsimp only [Pt.U, Pt.locs, Pt.cells, Pt.slots] at X235 l235 y235 z235 st235 hQ235
      subst l235 y235 z235
      obtain ⟨b235, kb235, rfl, N235q, K235, V235n, g_b235, sz_b235⟩ := hQ235
      have N235 := Fr.app N234 N235q
      have ne_a1_b235 : a1 ≠ b235 := Nat.ne_of_lt (Nat.lt_of_lt_of_le E_a1.lt sz_b235)
      have ne_t_b235 : t ≠ b235 := Nat.ne_of_lt (Nat.lt_of_lt_of_le V_t'.lt sz_b235)
      have sz0_b235 : h0.size ≤ b235 := sz_b235
      have Fn_236 := (F_v.keep K235 nin0)
      have En_237 := (E_a1.keep K235)
      obtain ⟨T238, h238, X238, e238, W238, st238⟩ := putF X235 hx hZ hown (host := "") (Or.inl (hw _ (List.mem_of_getElem? (i := 12) rfl))) Via.refl rfl Fn_236 En_237 (Or.inl (hw _ (List.mem_of_getElem? (i := 13) rfl))) (hw _ (List.mem_of_getElem? (i := 3) rfl)) (ty := (.array .char)) (by decide) rfl rfl (g := (mkF m 80 #[rv a1, iv p2, iv (-2 : Int32), iv (1 : Int32)] [(.ref b235), (.ref a1)])) rfl rfl (hb hby d3_80)
      have Fw238 := Fn_236.same W238
      have N238 := Fr.snoc X238 N235 g_a1
      obtain ⟨T239, X239, e239, st239⟩ := getF X238 hx hZ hown (host := "") (Or.inl (hw _ (List.mem_of_getElem? (i := 12) rfl))) Via.refl e238 Fw238 (g := (mkF m 84 #[rv a1, iv p2, iv (-2 : Int32), iv (1 : Int32)] [(.ref a1)])) rfl rfl (hb hby d3_84)
      obtain ⟨T240, X240, e240, st240⟩ := getF X239 hx hZ hown (host := "") (Or.inl (hw _ (List.mem_of_getElem? (i := 12) rfl))) Via.refl e239 Fw238 (g := (mkF m 89 #[rv a1, iv p2, iv (-2 : Int32), iv (1 : Int32)] [(.ref a1), (.int (1 : Int32)), (.ref b235)])) rfl rfl (hb hby d3_89)
      have Fn_241 := ((F_c'.keep K235 nin0).other W238 (Or.inr (slot_ne (Or.inl (hw _ (List.mem_of_getElem? (i := 15) rfl))) (Or.inl (hw _ (List.mem_of_getElem? (i := 13) rfl))) (by decide) (t := .int) (t' := (.array .char)) (by decide) (by decide))))
      obtain ⟨T242, X242, e242, st242⟩ := getF X240 hx hZ hown (host := "") (Or.inl (hw _ (List.mem_of_getElem? (i := 14) rfl))) Via.refl e240 Fn_241 (g := (mkF m 96 #[rv a1, iv p2, iv (-2 : Int32), iv (1 : Int32)] [(.ref a1), (.int (2 : Int32)), (.ref b235), (.int (1 : Int32)), (.ref b235)])) rfl rfl (hb hby d3_96)
      have Vn_243 := (V235n.other W238 (Ne.symm ne_a1_b235))
      obtain ⟨T244, h244, L244, X244, e244, N244, K244, Vc244, st244⟩ := cpA X242 hx hZ hown (hw _ (List.mem_of_getElem? (i := 35) rfl)) (hw _ (List.mem_of_getElem? (i := 38) rfl)) (hw _ (List.mem_of_getElem? (i := 36) rfl)) (hw _ (List.mem_of_getElem? (i := 37) rfl)) e242 (us := [(.int x1), (.int x2), (.int x3)]) (sp := (1 : Int32)) (dp := (2 : Int32)) (nn := (3 : Int32)) Vn_243 Vn_243 (Or.inl ⟨rfl, rfl⟩) (by decide) (by decide) (by decide) (by decide) (by decide) rfl (Nat.le_of_ble_eq_true rfl) N238 g_b235 (g := (mkF m 101 #[rv a1, iv p2, iv (-2 : Int32), iv (1 : Int32)] [(.int (3 : Int32)), (.int (2 : Int32)), (.ref b235), (.int (1 : Int32)), (.ref b235)])) rfl (by rw [hml]; rfl) rfl (hb hby d3_101) (by decide) (W := 0) (by show 2 * 0 + _ ≤ _; exact Nat.le_of_eq rfl) (by decide)
      have V244 : Arv Z h244 b235 kb235 .char (8 : Int32) [(.int x0), (.int x1), (.int x1), (.int x2), (.int x3), (.int (0 : Int32)), (.int (0 : Int32)), (.int (0 : Int32))] (.int (0 : Int32)) := Vc244
      have Fn_245 := (Fw238.keep K244 (ninS ne_a1_b235 nin0))
      obtain ⟨T246, X246, e246, st246⟩ := getF X244 hx hZ hown (host := "") (Or.inl (hw _ (List.mem_of_getElem? (i := 12) rfl))) Via.refl e244 Fn_245 (g := (mkF m 105 #[rv a1, iv p2, iv (-2 : Int32), iv (1 : Int32)] [(.ref a1)])) rfl rfl (hb hby d3_105)
      obtain ⟨cl247, Ar247, q247, S247, M247, H247, G247⟩ := id V244
      have hin247 : ¬ ((1 : Int32) < 0 ∨ cl247.slots.size ≤ ((1 : Int32)).toNatClampNeg) := inb_of S247 ⟨by decide, by decide⟩
      obtain ⟨T247, h247, X247, e247, W247, st247⟩ := stC X246 hx hZ e246 Ar247 (j := (1 : Int32)) hin247 (g := (mkF m 110 #[rv a1, iv p2, iv (-2 : Int32), iv (1 : Int32)] [(.int p2), (.int (1 : Int32)), (.ref b235)])) rfl rfl (hb hby d3_110)
      have V247 : Arv Z h247 b235 kb235 .char (8 : Int32) [(.int x0), (.int (nar .char p2)), (.int x1), (.int x2), (.int x3), (.int (0 : Int32)), (.int (0 : Int32)), (.int (0 : Int32))] (.int (0 : Int32)) := Arv.set Ar247 q247 S247 M247 H247 G247 (fits_nar_char _) W247 1 rfl (Nat.le_of_ble_eq_true rfl)
      have N247 := Fr.snoc X247 N244 g_b235
      have Fn_248 := ((Fn_241.keep K244 (ninS ne_a1_b235 nin0)).other W247 (Or.inl ne_a1_b235))
      obtain ⟨T249, X249, e249, st249⟩ := getF X247 hx hZ hown (host := "") (Or.inl (hw _ (List.mem_of_getElem? (i := 14) rfl))) Via.refl e247 Fn_248 (g := (mkF m 113 #[rv a1, iv p2, iv (-2 : Int32), iv (1 : Int32)] [(.ref a1), (.ref a1)])) rfl rfl (hb hby d3_113)
      have En_250 := (((En_237.wr W238).keep K244).wr W247)
      obtain ⟨T251, h251, X251, e251, W251, st251⟩ := putF X249 hx hZ hown (host := "") (Or.inl (hw _ (List.mem_of_getElem? (i := 14) rfl))) Via.refl e249 Fn_248 En_250 (Or.inl (hw _ (List.mem_of_getElem? (i := 15) rfl))) (hw _ (List.mem_of_getElem? (i := 3) rfl)) (ty := .int) (by decide) rfl rfl (g := (mkF m 118 #[rv a1, iv p2, iv (-2 : Int32), iv (1 : Int32)] [(.int (5 : Int32)), (.ref a1)])) rfl rfl (hb hby d3_118)
      have Fw251 := Fn_248.same W251
      have N251 := Fr.snoc X251 N247 g_a1
      have pre252 : ∀ tg, own_S p e below T251 m 122 #[rv a1, iv p2, iv (-2 : Int32), iv (1 : Int32)] [(.ref a1)] tg → Steps p.tables e below (s₁.setTop (entryFrame m #[(.ref a1), (.int p2)] 4)) tg := fun tg k => pre193 tg (by
        show own_S p e below T192 m 13 #[rv a1, iv p2, .unset, .unset] [(.int (-2 : Int32))] _
        refine XS.istoreN X192.here hx rfl (hb hby d3_13) rfl (l' := #[rv a1, iv p2, iv (-2 : Int32), .unset]) rfl ?_
        refine XS.iloadN X192.here hx rfl (hb hby d3_14) rfl ?_
        refine XS.ifYes X192.here hx rfl (pc0 := 15) (pc' := 20) rfl (hb hby d3_15) rfl ((if0 _ _).trans (tlt (by decide : (-2 : Int32) < (0 : Int32))).1) (by decide) (by decide) ?_
        show own_S p e below T192 m 20 #[rv a1, iv p2, iv (-2 : Int32), .unset] [] _
        refine XS.aloadN X192.here hx rfl (hb hby d3_20) rfl rfl ?_
        refine st227 _ ?_
        refine XS.sipush X227.here hx rfl (hb hby d3_24) ?_
        show own_S p e below T227 m 27 #[rv a1, iv p2, iv (-2 : Int32), .unset] [(.int (4096 : Int32)), (.int (4 : Int32))] _
        refine XS.icmpYes X227.here hx rfl (pc0 := 27) (pc' := 42) rfl (hb hby d3_27) rfl (feq (by decide : ¬ ((4 : Int32) = (4096 : Int32)))).2 (by decide) (by decide) ?_
        refine XS.iloadN X227.here hx rfl (hb hby d3_42) rfl ?_
        refine XS.ineg X227.here hx rfl (hb hby d3_43) rfl ?_
        show own_S p e below T227 m 44 #[rv a1, iv p2, iv (-2 : Int32), .unset] [(.int (2 : Int32))] _
        refine XS.iconst X227.here hx rfl (hb hby d3_44) ?_
        refine XS.isub X227.here hx rfl (hb hby d3_45) rfl ?_
        refine XS.istoreN X227.here hx rfl (hb hby d3_46) rfl (l' := #[rv a1, iv p2, iv (-2 : Int32), iv (1 : Int32)]) rfl ?_
        show own_S p e below T227 m 47 #[rv a1, iv p2, iv (-2 : Int32), iv (1 : Int32)] [] _
        refine XS.aloadN X227.here hx rfl (hb hby d3_47) rfl rfl ?_
        refine st228 _ ?_
        refine XS.aloadN X228.here hx rfl (hb hby d3_51) rfl rfl ?_
        show own_S p e below T228 m 52 #[rv a1, iv p2, iv (-2 : Int32), iv (1 : Int32)] [(.ref a1), (.int (4 : Int32))] _
        refine st229 _ ?_
        refine X229.arraylength hx (by rw [e229]; exact Ar230.1) (State.isArrayOf_alike hZ.alike Ar230.2.1) (g := (mkF m 55 #[rv a1, iv p2, iv (-2 : Int32), iv (1 : Int32)] [(.ref t), (.int (4 : Int32))])) rfl rfl (hb hby d3_55) _ ?_
        rw [len_of S230 M230]
        refine XS.icmpNo X229.here hx rfl (hb hby d3_56) rfl (teq (by decide : (4 : Int32) = (4 : Int32))).2 ?_
        show own_S p e below T229 m 59 #[rv a1, iv p2, iv (-2 : Int32), iv (1 : Int32)] [] _
        refine XS.aloadN X229.here hx rfl (hb hby d3_59) rfl rfl ?_
        refine XS.aloadN X229.here hx rfl (hb hby d3_60) rfl rfl ?_
        refine st231 _ ?_
        show own_S p e below T231 m 64 #[rv a1, iv p2, iv (-2 : Int32), iv (1 : Int32)] [(.ref t), (.ref a1)] _
        refine XS.iconst X231.here hx rfl (hb hby d3_64) ?_
        refine XS.aloadN X231.here hx rfl (hb hby d3_65) rfl rfl ?_
        refine st232 _ ?_
        show own_S p e below T232 m 69 #[rv a1, iv p2, iv (-2 : Int32), iv (1 : Int32)] [(.ref t), (.int (2 : Int32)), (.ref t), (.ref a1)] _
        refine X232.arraylength hx (by rw [e232]; exact Ar233.1) (State.isArrayOf_alike hZ.alike Ar233.2.1) (g := (mkF m 69 #[rv a1, iv p2, iv (-2 : Int32), iv (1 : Int32)] [(.ref t), (.int (2 : Int32)), (.ref t), (.ref a1)])) rfl rfl (hb hby d3_69) _ ?_
        rw [len_of S233 M233]
        refine XS.imul X232.here hx rfl (hb hby d3_70) rfl ?_
        refine XS.sipush X232.here hx rfl (hb hby d3_71) ?_
        show own_S p e below T232 m 74 #[rv a1, iv p2, iv (-2 : Int32), iv (1 : Int32)] [(.int (4096 : Int32)), (.int (8 : Int32)), (.ref t), (.ref a1)] _
        refine st234 _ ?_
        refine st235 _ ?_
        refine st238 _ ?_
        show own_S p e below T238 m 83 #[rv a1, iv p2, iv (-2 : Int32), iv (1 : Int32)] [] _
        refine XS.aloadN X238.here hx rfl (hb hby d3_83) rfl rfl ?_
        refine st239 _ ?_
        refine XS.iloadN X239.here hx rfl (hb hby d3_87) rfl ?_
        show own_S p e below T239 m 88 #[rv a1, iv p2, iv (-2 : Int32), iv (1 : Int32)] [(.int (1 : Int32)), (.ref b235)] _
        refine XS.aloadN X239.here hx rfl (hb hby d3_88) rfl rfl ?_
        refine st240 _ ?_
        refine XS.iloadN X240.here hx rfl (hb hby d3_92) rfl ?_
        show own_S p e below T240 m 93 #[rv a1, iv p2, iv (-2 : Int32), iv (1 : Int32)] [(.int (1 : Int32)), (.ref b235), (.int (1 : Int32)), (.ref b235)] _
        refine XS.iconst X240.here hx rfl (hb hby d3_93) ?_
        refine XS.iadd X240.here hx rfl (hb hby d3_94) rfl ?_
        refine XS.aloadN X240.here hx rfl (hb hby d3_95) rfl rfl ?_
        show own_S p e below T240 m 96 #[rv a1, iv p2, iv (-2 : Int32), iv (1 : Int32)] [(.ref a1), (.int (2 : Int32)), (.ref b235), (.int (1 : Int32)), (.ref b235)] _
        refine st242 _ ?_
        refine XS.iloadN X242.here hx rfl (hb hby d3_99) rfl ?_
        refine XS.isub X242.here hx rfl (hb hby d3_100) rfl ?_
        show own_S p e below T242 m 101 #[rv a1, iv p2, iv (-2 : Int32), iv (1 : Int32)] [(.int (3 : Int32)), (.int (2 : Int32)), (.ref b235), (.int (1 : Int32)), (.ref b235)] _
        refine st244 _ ?_
        refine XS.aloadN X244.here hx rfl (hb hby d3_104) rfl rfl ?_
        refine st246 _ ?_
        show own_S p e below T246 m 108 #[rv a1, iv p2, iv (-2 : Int32), iv (1 : Int32)] [(.ref b235)] _
        refine XS.iloadN X246.here hx rfl (hb hby d3_108) rfl ?_
        refine XS.iloadN X246.here hx rfl (hb hby d3_109) rfl ?_
        refine st247 _ ?_
        show own_S p e below T247 m 111 #[rv a1, iv p2, iv (-2 : Int32), iv (1 : Int32)] [] _
        refine XS.aloadN X247.here hx rfl (hb hby d3_111) rfl rfl ?_
        refine XS.dup X247.here hx rfl (hb hby d3_112) rfl rfl ?_
        refine st249 _ ?_
        show own_S p e below T249 m 116 #[rv a1, iv p2, iv (-2 : Int32), iv (1 : Int32)] [(.int (4 : Int32)), (.ref a1)] _
        refine XS.iconst X249.here hx rfl (hb hby d3_116) ?_
        refine XS.iadd X249.here hx rfl (hb hby d3_117) rfl ?_
        refine st251 _ ?_
        show own_S p e below T251 m 121 #[rv a1, iv p2, iv (-2 : Int32), iv (1 : Int32)] [] _
        refine XS.aloadN X251.here hx rfl (hb hby d3_121) rfl rfl ?_
        exact k)
      obtain ⟨fs, hr, hrun, hended, hW, hsame⟩ := X251.leave (v := some (.ref a1)) (fun h => by rw [Bd.returns] at h; cases h)
      refine ⟨_, _, pre252 _ ?_, hrun, hended, _, _, rfl, ?_, ⟨_, rfl⟩, hW, hsame.mono (by decide) (by decide)⟩
      · show own_S p e below T251 m 122 #[rv a1, iv p2, iv (-2 : Int32), iv (1 : Int32)] [(.ref a1)] _
        exact retOut X251 hx (t := (.object "com/example/bitstrata/bitstrata/Container")) Bd.returns rfl (Or.inr (Or.inr (Or.inr (Or.inr ⟨rfl, rfl, rfl⟩)))) (hb hby d3_122) hr
      · show QAdd Z a1 p2 t k [x0, x1, x2, x3] h0 n0 _ T251.heap _
        rw [e251]
        have En_253 := (En_250.wr W251)
        have Fn_254 := ((Fn_245.other W247 (Or.inl ne_a1_b235)).other W251 (Or.inr (slot_ne (Or.inl (hw _ (List.mem_of_getElem? (i := 13) rfl))) (Or.inl (hw _ (List.mem_of_getElem? (i := 15) rfl))) (by decide) (t := (.array .char)) (t' := .int) (by decide) (by decide))))
        have Vn_255 := (V247.other W251 (Ne.symm ne_a1_b235))
        rw [hk] at Vn_255
        refine ⟨[x0, p2, x1, x2, x3], b235, _, rfl, N251, ((((((Keep.refl h0 [a1, t]).trans K235 all0).wr W238 (Or.inl (List.mem_of_getElem? (i := 0) rfl))).trans K244 (allS (Or.inr sz_b235) all0)).wr W247 (Or.inr sz_b235)).wr W251 (Or.inl (List.mem_of_getElem? (i := 0) rfl))), En_253, Fn_254, Fw251, Vn_255, g_b235, (Ne.symm ne_a1_b235), Or.inr sz0_b235, Nat.le_of_ble_eq_true rfl, Nat.le_of_ble_eq_true rfl, ?_, ?_, ?_⟩
        · exact ⟨(by first | assumption | exact own_tr (by assumption) (by assumption)), (by first | assumption | exact own_tr (by assumption) (by assumption)), (by first | assumption | exact own_tr (by assumption) (by assumption)), (by first | assumption | exact own_tr (by assumption) (by assumption)), trivial⟩
        · intro x hx; simp only [List.mem_cons, List.not_mem_nil, or_false] at hx; rcases hx with rfl | rfl | rfl | rfl | rfl <;> first | exact hk | exact hch _ (by simp)
        · intro x; simp only [List.mem_cons, List.not_mem_nil, or_false]; try (constructor; (intro h; rcases h with h | h | h | h | h <;> simp [h]); (intro h; rcases h with (h | h | h | h) | h <;> simp [h]))
    ·  -- case
      obtain ⟨T256, X256, e256, st256⟩ := getF X192 hx hZ hown (host := "") (Or.inl (hw _ (List.mem_of_getElem? (i := 14) rfl))) Via.refl e192 F_c' (g := (mkF m 21 #[rv a1, iv p2, iv (-3 : Int32), .unset] [(.ref a1)])) rfl rfl (hb hby d3_21)
      obtain ⟨T257, X257, e257, st257⟩ := getF X256 hx hZ hown (host := "") (Or.inl (hw _ (List.mem_of_getElem? (i := 14) rfl))) Via.refl e256 F_c' (g := (mkF m 48 #[rv a1, iv p2, iv (-3 : Int32), iv (2 : Int32)] [(.ref a1)])) rfl rfl (hb hby d3_48)
      obtain ⟨T258, X258, e258, st258⟩ := getF X257 hx hZ hown (host := "") (Or.inl (hw _ (List.mem_of_getElem? (i := 12) rfl))) Via.refl e257 F_v (g := (mkF m 52 #[rv a1, iv p2, iv (-3 : Int32), iv (2 : Int32)] [(.ref a1), (.int (4 : Int32))])) rfl rfl (hb hby d3_52)
      obtain ⟨cl259, Ar259, q259, S259, M259, -, -⟩ := id V_t'
      obtain ⟨T260, X260, e260, st260⟩ := getF X258 hx hZ hown (host := "") (Or.inl (hw _ (List.mem_of_getElem? (i := 12) rfl))) Via.refl e258 F_v (g := (mkF m 61 #[rv a1, iv p2, iv (-3 : Int32), iv (2 : Int32)] [(.ref a1), (.ref a1)])) rfl rfl (hb hby d3_61)
      obtain ⟨T261, X261, e261, st261⟩ := getF X260 hx hZ hown (host := "") (Or.inl (hw _ (List.mem_of_getElem? (i := 12) rfl))) Via.refl e260 F_v (g := (mkF m 66 #[rv a1, iv p2, iv (-3 : Int32), iv (2 : Int32)] [(.ref a1), (.int (2 : Int32)), (.ref t), (.ref a1)])) rfl rfl (hb hby d3_66)
      obtain ⟨cl262, Ar262, q262, S262, M262, -, -⟩ := id V_t'
      obtain ⟨_, _, ⟨T263, L263, k263, n263⟩, -, X263, ⟨Lc263, hQ263, l263, y263, z263⟩, st263⟩ := Jvm.LawKit.callS X261 hx (y := (⟨"java/lang/Math", "min", "(II)I"⟩ : MethodName)) hown (mvT hZ (hw _ (List.mem_of_getElem? (i := 51) rfl))) (mvT hZ (hw _ (List.mem_of_getElem? (i := 52) rfl))) (mvT hZ (hw _ (List.mem_of_getElem? (i := 41) rfl))) (mvT hZ (hw _ (List.mem_of_getElem? (i := 53) rfl))) (by decide) (backOf (W := 2) (rmMin l Z a0 hw [] (8 : Int32) (4096 : Int32) h0 n0 Z0 ) hZ (hw _ (List.mem_of_getElem? (i := 53) rfl)) (hw _ (List.mem_of_getElem? (i := 41) rfl)) (by decide) (by decide)) (g := (mkF m 74 #[rv a1, iv p2, iv (-3 : Int32), iv (2 : Int32)] [(.int (4096 : Int32)), (.int (8 : Int32)), (.ref t), (.ref a1)])) rfl (by rw [hml]; rfl) (argsL := [(.int (8 : Int32)), (.int (4096 : Int32))]) (rest := [(.ref t), (.ref a1)]) (lenOf pd_2 rfl) rfl (by show 2 * 0 + _ ≤ _; exact Nat.le_of_eq rfl) (hb hby d3_74) (fun _ _ => ⟨rfl, e261, (by decide : 0 + 0 ≤ _), (by decide : 0 + 0 ≤ _)⟩)
      dsimp only [Pt.U, Pt.locs, Pt.cells, Pt.slots] at X263 l263 y263 z263 st263 hQ263
      subst l263 y263 z263
      obtain ⟨hv263, N263q, e263q⟩ := hQ263
      have N263 := Fr.app N192 N263q
      rw [show own_min (8 : Int32) (4096 : Int32) = (8 : Int32) from by decide] at hv263
      subst hv263
      have e263 : T263.heap = h0 := e263q
      obtain ⟨_, _, ⟨T264, L264, k264, n264⟩, -, X264, ⟨Lc264, hQ264, l264, y264, z264⟩, st264⟩ := Jvm.LawKit.callS X263 hx (y := (⟨"java/util/Arrays", "copyOf", "([CI)[C"⟩ : MethodName)) hown (mvT hZ (hw _ (List.mem_of_getElem? (i := 54) rfl))) (mvT hZ (hw _ (List.mem_of_getElem? (i := 55) rfl))) (mvT hZ (hw _ (List.mem_of_getElem? (i := 27) rfl))) (mvT hZ (hw _ (List.mem_of_getElem? (i := 56) rfl))) (by decide) (backOf (W := 1) (rmCo l Z a0 hw [] t k x0 x1 x2 x3 h0 n0 Z0 V_t') hZ (hw _ (List.mem_of_getElem? (i := 56) rfl)) (hw _ (List.mem_of_getElem? (i := 27) rfl)) (by decide) (by decide)) (g := (mkF m 77 #[rv a1, iv p2, iv (-3 : Int32), iv (2 : Int32)] [(.int (8 : Int32)), (.ref t), (.ref a1)])) rfl (by rw [hml]; rfl) (argsL := [(.ref t), (.int (8 : Int32))]) (rest := [(.ref a1)]) (lenOf pd_3 rfl) rfl (by show 2 * 0 + _ ≤ _; exact Nat.le_of_eq rfl) (hb hby d3_77) (fun _ _ => ⟨rfl, e263, (by decide : 0 + 1 ≤ _), (by decide : 0 + 8 ≤ _)⟩)
      dsimp only [Pt.U, Pt.locs, Pt.cells, Pt.slots] at X264 l264 y264 z264 st264 hQ264
      subst l264 y264 z264
      obtain ⟨b264, kb264, rfl, N264q, K264, V264n, g_b264, sz_b264⟩ := hQ264
      have N264 := Fr.app N263 N264q
      have ne_a1_b264 : a1 ≠ b264 := Nat.ne_of_lt (Nat.lt_of_lt_of_le E_a1.lt sz_b264)
      have ne_t_b264 : t ≠ b264 := Nat.ne_of_lt (Nat.lt_of_lt_of_le V_t'.lt sz_b264)
      have sz0_b264 : h0.size ≤ b264 := sz_b264
      have Fn_265 := (F_v.keep K264 nin0)
      have En_266 := (E_a1.keep K264)
      obtain ⟨T267, h267, X267, e267, W267, st267⟩ := putF X264 hx hZ hown (host := "") (Or.inl (hw _ (List.mem_of_getElem? (i := 12) rfl))) Via.refl rfl Fn_265 En_266 (Or.inl (hw _ (List.mem_of_getElem? (i := 13) rfl))) (hw _ (List.mem_of_getElem? (i := 3) rfl)) (ty := (.array .char)) (by decide) rfl rfl (g := (mkF m 80 #[rv a1, iv p2, iv (-3 : Int32), iv (2 : Int32)] [(.ref b264), (.ref a1)])) rfl rfl (hb hby d3_80)
      have Fw267 := Fn_265.same W267
      have N267 := Fr.snoc X267 N264 g_a1
      obtain ⟨T268, X268, e268, st268⟩ := getF X267 hx hZ hown (host := "") (Or.inl (hw _ (List.mem_of_getElem? (i := 12) rfl))) Via.refl e267 Fw267 (g := (mkF m 84 #[rv a1, iv p2, iv (-3 : Int32), iv (2 : Int32)] [(.ref a1)])) rfl rfl (hb hby d3_84)
      obtain ⟨T269, X269, e269, st269⟩ := getF X268 hx hZ hown (host := "") (Or.inl (hw _ (List.mem_of_getElem? (i := 12) rfl))) Via.refl e268 Fw267 (g := (mkF m 89 #[rv a1, iv p2, iv (-3 : Int32), iv (2 : Int32)] [(.ref a1), (.int (2 : Int32)), (.ref b264)])) rfl rfl (hb hby d3_89)
      have Fn_270 := ((F_c'.keep K264 nin0).other W267 (Or.inr (slot_ne (Or.inl (hw _ (List.mem_of_getElem? (i := 15) rfl))) (Or.inl (hw _ (List.mem_of_getElem? (i := 13) rfl))) (by decide) (t := .int) (t' := (.array .char)) (by decide) (by decide))))
      obtain ⟨T271, X271, e271, st271⟩ := getF X269 hx hZ hown (host := "") (Or.inl (hw _ (List.mem_of_getElem? (i := 14) rfl))) Via.refl e269 Fn_270 (g := (mkF m 96 #[rv a1, iv p2, iv (-3 : Int32), iv (2 : Int32)] [(.ref a1), (.int (3 : Int32)), (.ref b264), (.int (2 : Int32)), (.ref b264)])) rfl rfl (hb hby d3_96)
      have Vn_272 := (V264n.other W267 (Ne.symm ne_a1_b264))
      obtain ⟨T273, h273, L273, X273, e273, N273, K273, Vc273, st273⟩ := cpA X271 hx hZ hown (hw _ (List.mem_of_getElem? (i := 35) rfl)) (hw _ (List.mem_of_getElem? (i := 38) rfl)) (hw _ (List.mem_of_getElem? (i := 36) rfl)) (hw _ (List.mem_of_getElem? (i := 37) rfl)) e271 (us := [(.int x2), (.int x3)]) (sp := (2 : Int32)) (dp := (3 : Int32)) (nn := (2 : Int32)) Vn_272 Vn_272 (Or.inl ⟨rfl, rfl⟩) (by decide) (by decide) (by decide) (by decide) (by decide) rfl (Nat.le_of_ble_eq_true rfl) N267 g_b264 (g := (mkF m 101 #[rv a1, iv p2, iv (-3 : Int32), iv (2 : Int32)] [(.int (2 : Int32)), (.int (3 : Int32)), (.ref b264), (.int (2 : Int32)), (.ref b264)])) rfl (by rw [hml]; rfl) rfl (hb hby d3_101) (by decide) (W := 0) (by show 2 * 0 + _ ≤ _; exact Nat.le_of_eq rfl) (by decide)
      have V273 : Arv Z h273 b264 kb264 .char (8 : Int32) [(.int x0), (.int x1), (.int x2), (.int x2), (.int x3), (.int (0 : Int32)), (.int (0 : Int32)), (.int (0 : Int32))] (.int (0 : Int32)) := Vc273
      have Fn_274 := (Fw267.keep K273 (ninS ne_a1_b264 nin0))
      obtain ⟨T275, X275, e275, st275⟩ := getF X273 hx hZ hown (host := "") (Or.inl (hw _ (List.mem_of_getElem? (i := 12) rfl))) Via.refl e273 Fn_274 (g := (mkF m 105 #[rv a1, iv p2, iv (-3 : Int32), iv (2 : Int32)] [(.ref a1)])) rfl rfl (hb hby d3_105)
      obtain ⟨cl276, Ar276, q276, S276, M276, H276, G276⟩ := id V273
      have hin276 : ¬ ((2 : Int32) < 0 ∨ cl276.slots.size ≤ ((2 : Int32)).toNatClampNeg) := inb_of S276 ⟨by decide, by decide⟩
      obtain ⟨T276, h276, X276, e276, W276, st276⟩ := stC X275 hx hZ e275 Ar276 (j := (2 : Int32)) hin276 (g := (mkF m 110 #[rv a1, iv p2, iv (-3 : Int32), iv (2 : Int32)] [(.int p2), (.int (2 : Int32)), (.ref b264)])) rfl rfl (hb hby d3_110)
      have V276 : Arv Z h276 b264 kb264 .char (8 : Int32) [(.int x0), (.int x1), (.int (nar .char p2)), (.int x2), (.int x3), (.int (0 : Int32)), (.int (0 : Int32)), (.int (0 : Int32))] (.int (0 : Int32)) := Arv.set Ar276 q276 S276 M276 H276 G276 (fits_nar_char _) W276 2 rfl (Nat.le_of_ble_eq_true rfl)
      have N276 := Fr.snoc X276 N273 g_b264
      have Fn_277 := ((Fn_270.keep K273 (ninS ne_a1_b264 nin0)).other W276 (Or.inl ne_a1_b264))
      obtain ⟨T278, X278, e278, st278⟩ := getF X276 hx hZ hown (host := "") (Or.inl (hw _ (List.mem_of_getElem? (i := 14) rfl))) Via.refl e276 Fn_277 (g := (mkF m 113 #[rv a1, iv p2, iv (-3 : Int32), iv (2 : Int32)] [(.ref a1), (.ref a1)])) rfl rfl (hb hby d3_113)
      have En_279 := (((En_266.wr W267).keep K273).wr W276)
      obtain ⟨T280, h280, X280, e280, W280, st280⟩ := putF X278 hx hZ hown (host := "") (Or.inl (hw _ (List.mem_of_getElem? (i := 14) rfl))) Via.refl e278 Fn_277 En_279 (Or.inl (hw _ (List.mem_of_getElem? (i := 15) rfl))) (hw _ (List.mem_of_getElem? (i := 3) rfl)) (ty := .int) (by decide) rfl rfl (g := (mkF m 118 #[rv a1, iv p2, iv (-3 : Int32), iv (2 : Int32)] [(.int (5 : Int32)), (.ref a1)])) rfl rfl (hb hby d3_118)
      have Fw280 := Fn_277.same W280
      have N280 := Fr.snoc X280 N276 g_a1
      have pre281 : ∀ tg, own_S p e below T280 m 122 #[rv a1, iv p2, iv (-3 : Int32), iv (2 : Int32)] [(.ref a1)] tg → Steps p.tables e below (s₁.setTop (entryFrame m #[(.ref a1), (.int p2)] 4)) tg := fun tg k => pre193 tg (by
        show own_S p e below T192 m 13 #[rv a1, iv p2, .unset, .unset] [(.int (-3 : Int32))] _
        refine XS.istoreN X192.here hx rfl (hb hby d3_13) rfl (l' := #[rv a1, iv p2, iv (-3 : Int32), .unset]) rfl ?_
        refine XS.iloadN X192.here hx rfl (hb hby d3_14) rfl ?_
        refine XS.ifYes X192.here hx rfl (pc0 := 15) (pc' := 20) rfl (hb hby d3_15) rfl ((if0 _ _).trans (tlt (by decide : (-3 : Int32) < (0 : Int32))).1) (by decide) (by decide) ?_
        show own_S p e below T192 m 20 #[rv a1, iv p2, iv (-3 : Int32), .unset] [] _
        refine XS.aloadN X192.here hx rfl (hb hby d3_20) rfl rfl ?_
        refine st256 _ ?_
        refine XS.sipush X256.here hx rfl (hb hby d3_24) ?_
        show own_S p e below T256 m 27 #[rv a1, iv p2, iv (-3 : Int32), .unset] [(.int (4096 : Int32)), (.int (4 : Int32))] _
        refine XS.icmpYes X256.here hx rfl (pc0 := 27) (pc' := 42) rfl (hb hby d3_27) rfl (feq (by decide : ¬ ((4 : Int32) = (4096 : Int32)))).2 (by decide) (by decide) ?_
        refine XS.iloadN X256.here hx rfl (hb hby d3_42) rfl ?_
        refine XS.ineg X256.here hx rfl (hb hby d3_43) rfl ?_
        show own_S p e below T256 m 44 #[rv a1, iv p2, iv (-3 : Int32), .unset] [(.int (3 : Int32))] _
        refine XS.iconst X256.here hx rfl (hb hby d3_44) ?_
        refine XS.isub X256.here hx rfl (hb hby d3_45) rfl ?_
        refine XS.istoreN X256.here hx rfl (hb hby d3_46) rfl (l' := #[rv a1, iv p2, iv (-3 : Int32), iv (2 : Int32)]) rfl ?_
        show own_S p e below T256 m 47 #[rv a1, iv p2, iv (-3 : Int32), iv (2 : Int32)] [] _
        refine XS.aloadN X256.here hx rfl (hb hby d3_47) rfl rfl ?_
        refine st257 _ ?_
        refine XS.aloadN X257.here hx rfl (hb hby d3_51) rfl rfl ?_
        show own_S p e below T257 m 52 #[rv a1, iv p2, iv (-3 : Int32), iv (2 : Int32)] [(.ref a1), (.int (4 : Int32))] _
        refine st258 _ ?_
        refine X258.arraylength hx (by rw [e258]; exact Ar259.1) (State.isArrayOf_alike hZ.alike Ar259.2.1) (g := (mkF m 55 #[rv a1, iv p2, iv (-3 : Int32), iv (2 : Int32)] [(.ref t), (.int (4 : Int32))])) rfl rfl (hb hby d3_55) _ ?_
        rw [len_of S259 M259]
        refine XS.icmpNo X258.here hx rfl (hb hby d3_56) rfl (teq (by decide : (4 : Int32) = (4 : Int32))).2 ?_
        show own_S p e below T258 m 59 #[rv a1, iv p2, iv (-3 : Int32), iv (2 : Int32)] [] _
        refine XS.aloadN X258.here hx rfl (hb hby d3_59) rfl rfl ?_
        refine XS.aloadN X258.here hx rfl (hb hby d3_60) rfl rfl ?_
        refine st260 _ ?_
        show own_S p e below T260 m 64 #[rv a1, iv p2, iv (-3 : Int32), iv (2 : Int32)] [(.ref t), (.ref a1)] _
        refine XS.iconst X260.here hx rfl (hb hby d3_64) ?_
        refine XS.aloadN X260.here hx rfl (hb hby d3_65) rfl rfl ?_
        refine st261 _ ?_
        show own_S p e below T261 m 69 #[rv a1, iv p2, iv (-3 : Int32), iv (2 : Int32)] [(.ref t), (.int (2 : Int32)), (.ref t), (.ref a1)] _
        refine X261.arraylength hx (by rw [e261]; exact Ar262.1) (State.isArrayOf_alike hZ.alike Ar262.2.1) (g := (mkF m 69 #[rv a1, iv p2, iv (-3 : Int32), iv (2 : Int32)] [(.ref t), (.int (2 : Int32)), (.ref t), (.ref a1)])) rfl rfl (hb hby d3_69) _ ?_
        rw [len_of S262 M262]
        refine XS.imul X261.here hx rfl (hb hby d3_70) rfl ?_
        refine XS.sipush X261.here hx rfl (hb hby d3_71) ?_
        show own_S p e below T261 m 74 #[rv a1, iv p2, iv (-3 : Int32), iv (2 : Int32)] [(.int (4096 : Int32)), (.int (8 : Int32)), (.ref t), (.ref a1)] _
        refine st263 _ ?_
        refine st264 _ ?_
        refine st267 _ ?_
        show own_S p e below T267 m 83 #[rv a1, iv p2, iv (-3 : Int32), iv (2 : Int32)] [] _
        refine XS.aloadN X267.here hx rfl (hb hby d3_83) rfl rfl ?_
        refine st268 _ ?_
        refine XS.iloadN X268.here hx rfl (hb hby d3_87) rfl ?_
        show own_S p e below T268 m 88 #[rv a1, iv p2, iv (-3 : Int32), iv (2 : Int32)] [(.int (2 : Int32)), (.ref b264)] _
        refine XS.aloadN X268.here hx rfl (hb hby d3_88) rfl rfl ?_
        refine st269 _ ?_
        refine XS.iloadN X269.here hx rfl (hb hby d3_92) rfl ?_
        show own_S p e below T269 m 93 #[rv a1, iv p2, iv (-3 : Int32), iv (2 : Int32)] [(.int (2 : Int32)), (.ref b264), (.int (2 : Int32)), (.ref b264)] _
        refine XS.iconst X269.here hx rfl (hb hby d3_93) ?_
        refine XS.iadd X269.here hx rfl (hb hby d3_94) rfl ?_
        refine XS.aloadN X269.here hx rfl (hb hby d3_95) rfl rfl ?_
        show own_S p e below T269 m 96 #[rv a1, iv p2, iv (-3 : Int32), iv (2 : Int32)] [(.ref a1), (.int (3 : Int32)), (.ref b264), (.int (2 : Int32)), (.ref b264)] _
        refine st271 _ ?_
        refine XS.iloadN X271.here hx rfl (hb hby d3_99) rfl ?_
        refine XS.isub X271.here hx rfl (hb hby d3_100) rfl ?_
        show own_S p e below T271 m 101 #[rv a1, iv p2, iv (-3 : Int32), iv (2 : Int32)] [(.int (2 : Int32)), (.int (3 : Int32)), (.ref b264), (.int (2 : Int32)), (.ref b264)] _
        refine st273 _ ?_
        refine XS.aloadN X273.here hx rfl (hb hby d3_104) rfl rfl ?_
        refine st275 _ ?_
        show own_S p e below T275 m 108 #[rv a1, iv p2, iv (-3 : Int32), iv (2 : Int32)] [(.ref b264)] _
        refine XS.iloadN X275.here hx rfl (hb hby d3_108) rfl ?_
        refine XS.iloadN X275.here hx rfl (hb hby d3_109) rfl ?_
        refine st276 _ ?_
        show own_S p e below T276 m 111 #[rv a1, iv p2, iv (-3 : Int32), iv (2 : Int32)] [] _
        refine XS.aloadN X276.here hx rfl (hb hby d3_111) rfl rfl ?_
        refine XS.dup X276.here hx rfl (hb hby d3_112) rfl rfl ?_
        refine st278 _ ?_
        show own_S p e below T278 m 116 #[rv a1, iv p2, iv (-3 : Int32), iv (2 : Int32)] [(.int (4 : Int32)), (.ref a1)] _
        refine XS.iconst X278.here hx rfl (hb hby d3_116) ?_
        refine XS.iadd X278.here hx rfl (hb hby d3_117) rfl ?_
        refine st280 _ ?_
        show own_S p e below T280 m 121 #[rv a1, iv p2, iv (-3 : Int32), iv (2 : Int32)] [] _
        refine XS.aloadN X280.here hx rfl (hb hby d3_121) rfl rfl ?_
        exact k)
      obtain ⟨fs, hr, hrun, hended, hW, hsame⟩ := X280.leave (v := some (.ref a1)) (fun h => by rw [Bd.returns] at h; cases h)
      refine ⟨_, _, pre281 _ ?_, hrun, hended, _, _, rfl, ?_, ⟨_, rfl⟩, hW, hsame.mono (by decide) (by decide)⟩
      · show own_S p e below T280 m 122 #[rv a1, iv p2, iv (-3 : Int32), iv (2 : Int32)] [(.ref a1)] _
        exact retOut X280 hx (t := (.object "com/example/bitstrata/bitstrata/Container")) Bd.returns rfl (Or.inr (Or.inr (Or.inr (Or.inr ⟨rfl, rfl, rfl⟩)))) (hb hby d3_122) hr
      · show QAdd Z a1 p2 t k [x0, x1, x2, x3] h0 n0 _ T280.heap _
        rw [e280]
        have En_282 := (En_279.wr W280)
        have Fn_283 := ((Fn_274.other W276 (Or.inl ne_a1_b264)).other W280 (Or.inr (slot_ne (Or.inl (hw _ (List.mem_of_getElem? (i := 13) rfl))) (Or.inl (hw _ (List.mem_of_getElem? (i := 15) rfl))) (by decide) (t := (.array .char)) (t' := .int) (by decide) (by decide))))
        have Vn_284 := (V276.other W280 (Ne.symm ne_a1_b264))
        rw [hk] at Vn_284
        refine ⟨[x0, x1, p2, x2, x3], b264, _, rfl, N280, ((((((Keep.refl h0 [a1, t]).trans K264 all0).wr W267 (Or.inl (List.mem_of_getElem? (i := 0) rfl))).trans K273 (allS (Or.inr sz_b264) all0)).wr W276 (Or.inr sz_b264)).wr W280 (Or.inl (List.mem_of_getElem? (i := 0) rfl))), En_282, Fn_283, Fw280, Vn_284, g_b264, (Ne.symm ne_a1_b264), Or.inr sz0_b264, Nat.le_of_ble_eq_true rfl, Nat.le_of_ble_eq_true rfl, ?_, ?_, ?_⟩
        · exact ⟨(by first | assumption | exact own_tr (by assumption) (by assumption)), (by first | assumption | exact own_tr (by assumption) (by assumption)), (by first | assumption | exact own_tr (by assumption) (by assumption)), (by first | assumption | exact own_tr (by assumption) (by assumption)), trivial⟩
        · intro x hx; simp only [List.mem_cons, List.not_mem_nil, or_false] at hx; rcases hx with rfl | rfl | rfl | rfl | rfl <;> first | exact hk | exact hch _ (by simp)
        · intro x; simp only [List.mem_cons, List.not_mem_nil, or_false]; try (constructor; (intro h; rcases h with h | h | h | h | h <;> simp [h]); (intro h; rcases h with (h | h | h | h) | h <;> simp [h]))
    ·  -- case
      obtain ⟨T285, X285, e285, st285⟩ := getF X192 hx hZ hown (host := "") (Or.inl (hw _ (List.mem_of_getElem? (i := 14) rfl))) Via.refl e192 F_c' (g := (mkF m 21 #[rv a1, iv p2, iv (-4 : Int32), .unset] [(.ref a1)])) rfl rfl (hb hby d3_21)
      obtain ⟨T286, X286, e286, st286⟩ := getF X285 hx hZ hown (host := "") (Or.inl (hw _ (List.mem_of_getElem? (i := 14) rfl))) Via.refl e285 F_c' (g := (mkF m 48 #[rv a1, iv p2, iv (-4 : Int32), iv (3 : Int32)] [(.ref a1)])) rfl rfl (hb hby d3_48)
      obtain ⟨T287, X287, e287, st287⟩ := getF X286 hx hZ hown (host := "") (Or.inl (hw _ (List.mem_of_getElem? (i := 12) rfl))) Via.refl e286 F_v (g := (mkF m 52 #[rv a1, iv p2, iv (-4 : Int32), iv (3 : Int32)] [(.ref a1), (.int (4 : Int32))])) rfl rfl (hb hby d3_52)
      obtain ⟨cl288, Ar288, q288, S288, M288, -, -⟩ := id V_t'
      obtain ⟨T289, X289, e289, st289⟩ := getF X287 hx hZ hown (host := "") (Or.inl (hw _ (List.mem_of_getElem? (i := 12) rfl))) Via.refl e287 F_v (g := (mkF m 61 #[rv a1, iv p2, iv (-4 : Int32), iv (3 : Int32)] [(.ref a1), (.ref a1)])) rfl rfl (hb hby d3_61)
      obtain ⟨T290, X290, e290, st290⟩ := getF X289 hx hZ hown (host := "") (Or.inl (hw _ (List.mem_of_getElem? (i := 12) rfl))) Via.refl e289 F_v (g := (mkF m 66 #[rv a1, iv p2, iv (-4 : Int32), iv (3 : Int32)] [(.ref a1), (.int (2 : Int32)), (.ref t), (.ref a1)])) rfl rfl (hb hby d3_66)
      obtain ⟨cl291, Ar291, q291, S291, M291, -, -⟩ := id V_t'
      obtain ⟨_, _, ⟨T292, L292, k292, n292⟩, -, X292, ⟨Lc292, hQ292, l292, y292, z292⟩, st292⟩ := Jvm.LawKit.callS X290 hx (y := (⟨"java/lang/Math", "min", "(II)I"⟩ : MethodName)) hown (mvT hZ (hw _ (List.mem_of_getElem? (i := 51) rfl))) (mvT hZ (hw _ (List.mem_of_getElem? (i := 52) rfl))) (mvT hZ (hw _ (List.mem_of_getElem? (i := 41) rfl))) (mvT hZ (hw _ (List.mem_of_getElem? (i := 53) rfl))) (by decide) (backOf (W := 2) (rmMin l Z a0 hw [] (8 : Int32) (4096 : Int32) h0 n0 Z0 ) hZ (hw _ (List.mem_of_getElem? (i := 53) rfl)) (hw _ (List.mem_of_getElem? (i := 41) rfl)) (by decide) (by decide)) (g := (mkF m 74 #[rv a1, iv p2, iv (-4 : Int32), iv (3 : Int32)] [(.int (4096 : Int32)), (.int (8 : Int32)), (.ref t), (.ref a1)])) rfl (by rw [hml]; rfl) (argsL := [(.int (8 : Int32)), (.int (4096 : Int32))]) (rest := [(.ref t), (.ref a1)]) (lenOf pd_2 rfl) rfl (by show 2 * 0 + _ ≤ _; exact Nat.le_of_eq rfl) (hb hby d3_74) (fun _ _ => ⟨rfl, e290, (by decide : 0 + 0 ≤ _), (by decide : 0 + 0 ≤ _)⟩)
      dsimp only [Pt.U, Pt.locs, Pt.cells, Pt.slots] at X292 l292 y292 z292 st292 hQ292
      subst l292 y292 z292
      obtain ⟨hv292, N292q, e292q⟩ := hQ292
      have N292 := Fr.app N192 N292q
      rw [show own_min (8 : Int32) (4096 : Int32) = (8 : Int32) from by decide] at hv292
      subst hv292
      have e292 : T292.heap = h0 := e292q
      obtain ⟨_, _, ⟨T293, L293, k293, n293⟩, -, X293, ⟨Lc293, hQ293, l293, y293, z293⟩, st293⟩ := Jvm.LawKit.callS X292 hx (y := (⟨"java/util/Arrays", "copyOf", "([CI)[C"⟩ : MethodName)) hown (mvT hZ (hw _ (List.mem_of_getElem? (i := 54) rfl))) (mvT hZ (hw _ (List.mem_of_getElem? (i := 55) rfl))) (mvT hZ (hw _ (List.mem_of_getElem? (i := 27) rfl))) (mvT hZ (hw _ (List.mem_of_getElem? (i := 56) rfl))) (by decide) (backOf (W := 1) (rmCo l Z a0 hw [] t k x0 x1 x2 x3 h0 n0 Z0 V_t') hZ (hw _ (List.mem_of_getElem? (i := 56) rfl)) (hw _ (List.mem_of_getElem? (i := 27) rfl)) (by decide) (by decide)) (g := (mkF m 77 #[rv a1, iv p2, iv (-4 : Int32), iv (3 : Int32)] [(.int (8 : Int32)), (.ref t), (.ref a1)])) rfl (by rw [hml]; rfl) (argsL := [(.ref t), (.int (8 : Int32))]) (rest := [(.ref a1)]) (lenOf pd_3 rfl) rfl (by show 2 * 0 + _ ≤ _; exact Nat.le_of_eq rfl) (hb hby d3_77) (fun _ _ => ⟨rfl, e292, (by decide : 0 + 1 ≤ _), (by decide : 0 + 8 ≤ _)⟩)
      dsimp only [Pt.U, Pt.locs, Pt.cells, Pt.slots] at X293 l293 y293 z293 st293 hQ293
      subst l293 y293 z293
      obtain ⟨b293, kb293, rfl, N293q, K293, V293n, g_b293, sz_b293⟩ := hQ293
      have N293 := Fr.app N292 N293q
      have ne_a1_b293 : a1 ≠ b293 := Nat.ne_of_lt (Nat.lt_of_lt_of_le E_a1.lt sz_b293)
      have ne_t_b293 : t ≠ b293 := Nat.ne_of_lt (Nat.lt_of_lt_of_le V_t'.lt sz_b293)
      have sz0_b293 : h0.size ≤ b293 := sz_b293
      have Fn_294 := (F_v.keep K293 nin0)
      have En_295 := (E_a1.keep K293)
      obtain ⟨T296, h296, X296, e296, W296, st296⟩ := putF X293 hx hZ hown (host := "") (Or.inl (hw _ (List.mem_of_getElem? (i := 12) rfl))) Via.refl rfl Fn_294 En_295 (Or.inl (hw _ (List.mem_of_getElem? (i := 13) rfl))) (hw _ (List.mem_of_getElem? (i := 3) rfl)) (ty := (.array .char)) (by decide) rfl rfl (g := (mkF m 80 #[rv a1, iv p2, iv (-4 : Int32), iv (3 : Int32)] [(.ref b293), (.ref a1)])) rfl rfl (hb hby d3_80)
      have Fw296 := Fn_294.same W296
      have N296 := Fr.snoc X296 N293 g_a1
      obtain ⟨T297, X297, e297, st297⟩ := getF X296 hx hZ hown (host := "") (Or.inl (hw _ (List.mem_of_getElem? (i := 12) rfl))) Via.refl e296 Fw296 (g := (mkF m 84 #[rv a1, iv p2, iv (-4 : Int32), iv (3 : Int32)] [(.ref a1)])) rfl rfl (hb hby d3_84)
      obtain ⟨T298, X298, e298, st298⟩ := getF X297 hx hZ hown (host := "") (Or.inl (hw _ (List.mem_of_getElem? (i := 12) rfl))) Via.refl e297 Fw296 (g := (mkF m 89 #[rv a1, iv p2, iv (-4 : Int32), iv (3 : Int32)] [(.ref a1), (.int (3 : Int32)), (.ref b293)])) rfl rfl (hb hby d3_89)
      have Fn_299 := ((F_c'.keep K293 nin0).other W296 (Or.inr (slot_ne (Or.inl (hw _ (List.mem_of_getElem? (i := 15) rfl))) (Or.inl (hw _ (List.mem_of_getElem? (i := 13) rfl))) (by decide) (t := .int) (t' := (.array .char)) (by decide) (by decide))))
      obtain ⟨T300, X300, e300, st300⟩ := getF X298 hx hZ hown (host := "") (Or.inl (hw _ (List.mem_of_getElem? (i := 14) rfl))) Via.refl e298 Fn_299 (g := (mkF m 96 #[rv a1, iv p2, iv (-4 : Int32), iv (3 : Int32)] [(.ref a1), (.int (4 : Int32)), (.ref b293), (.int (3 : Int32)), (.ref b293)])) rfl rfl (hb hby d3_96)
      have Vn_301 := (V293n.other W296 (Ne.symm ne_a1_b293))
      obtain ⟨T302, h302, L302, X302, e302, N302, K302, Vc302, st302⟩ := cpA X300 hx hZ hown (hw _ (List.mem_of_getElem? (i := 35) rfl)) (hw _ (List.mem_of_getElem? (i := 38) rfl)) (hw _ (List.mem_of_getElem? (i := 36) rfl)) (hw _ (List.mem_of_getElem? (i := 37) rfl)) e300 (us := [(.int x3)]) (sp := (3 : Int32)) (dp := (4 : Int32)) (nn := (1 : Int32)) Vn_301 Vn_301 (Or.inl ⟨rfl, rfl⟩) (by decide) (by decide) (by decide) (by decide) (by decide) rfl (Nat.le_of_ble_eq_true rfl) N296 g_b293 (g := (mkF m 101 #[rv a1, iv p2, iv (-4 : Int32), iv (3 : Int32)] [(.int (1 : Int32)), (.int (4 : Int32)), (.ref b293), (.int (3 : Int32)), (.ref b293)])) rfl (by rw [hml]; rfl) rfl (hb hby d3_101) (by decide) (W := 0) (by show 2 * 0 + _ ≤ _; exact Nat.le_of_eq rfl) (by decide)
      have V302 : Arv Z h302 b293 kb293 .char (8 : Int32) [(.int x0), (.int x1), (.int x2), (.int x3), (.int x3), (.int (0 : Int32)), (.int (0 : Int32)), (.int (0 : Int32))] (.int (0 : Int32)) := Vc302
      have Fn_303 := (Fw296.keep K302 (ninS ne_a1_b293 nin0))
      obtain ⟨T304, X304, e304, st304⟩ := getF X302 hx hZ hown (host := "") (Or.inl (hw _ (List.mem_of_getElem? (i := 12) rfl))) Via.refl e302 Fn_303 (g := (mkF m 105 #[rv a1, iv p2, iv (-4 : Int32), iv (3 : Int32)] [(.ref a1)])) rfl rfl (hb hby d3_105)
      obtain ⟨cl305, Ar305, q305, S305, M305, H305, G305⟩ := id V302
      have hin305 : ¬ ((3 : Int32) < 0 ∨ cl305.slots.size ≤ ((3 : Int32)).toNatClampNeg) := inb_of S305 ⟨by decide, by decide⟩
      obtain ⟨T305, h305, X305, e305, W305, st305⟩ := stC X304 hx hZ e304 Ar305 (j := (3 : Int32)) hin305 (g := (mkF m 110 #[rv a1, iv p2, iv (-4 : Int32), iv (3 : Int32)] [(.int p2), (.int (3 : Int32)), (.ref b293)])) rfl rfl (hb hby d3_110)
      have V305 : Arv Z h305 b293 kb293 .char (8 : Int32) [(.int x0), (.int x1), (.int x2), (.int (nar .char p2)), (.int x3), (.int (0 : Int32)), (.int (0 : Int32)), (.int (0 : Int32))] (.int (0 : Int32)) := Arv.set Ar305 q305 S305 M305 H305 G305 (fits_nar_char _) W305 3 rfl (Nat.le_of_ble_eq_true rfl)
      have N305 := Fr.snoc X305 N302 g_b293
      have Fn_306 := ((Fn_299.keep K302 (ninS ne_a1_b293 nin0)).other W305 (Or.inl ne_a1_b293))
      obtain ⟨T307, X307, e307, st307⟩ := getF X305 hx hZ hown (host := "") (Or.inl (hw _ (List.mem_of_getElem? (i := 14) rfl))) Via.refl e305 Fn_306 (g := (mkF m 113 #[rv a1, iv p2, iv (-4 : Int32), iv (3 : Int32)] [(.ref a1), (.ref a1)])) rfl rfl (hb hby d3_113)
      have En_308 := (((En_295.wr W296).keep K302).wr W305)
      obtain ⟨T309, h309, X309, e309, W309, st309⟩ := putF X307 hx hZ hown (host := "") (Or.inl (hw _ (List.mem_of_getElem? (i := 14) rfl))) Via.refl e307 Fn_306 En_308 (Or.inl (hw _ (List.mem_of_getElem? (i := 15) rfl))) (hw _ (List.mem_of_getElem? (i := 3) rfl)) (ty := .int) (by decide) rfl rfl (g := (mkF m 118 #[rv a1, iv p2, iv (-4 : Int32), iv (3 : Int32)] [(.int (5 : Int32)), (.ref a1)])) rfl rfl (hb hby d3_118)
      have Fw309 := Fn_306.same W309
      have N309 := Fr.snoc X309 N305 g_a1
      have pre310 : ∀ tg, own_S p e below T309 m 122 #[rv a1, iv p2, iv (-4 : Int32), iv (3 : Int32)] [(.ref a1)] tg → Steps p.tables e below (s₁.setTop (entryFrame m #[(.ref a1), (.int p2)] 4)) tg := fun tg k => pre193 tg (by
        show own_S p e below T192 m 13 #[rv a1, iv p2, .unset, .unset] [(.int (-4 : Int32))] _
        refine XS.istoreN X192.here hx rfl (hb hby d3_13) rfl (l' := #[rv a1, iv p2, iv (-4 : Int32), .unset]) rfl ?_
        refine XS.iloadN X192.here hx rfl (hb hby d3_14) rfl ?_
        refine XS.ifYes X192.here hx rfl (pc0 := 15) (pc' := 20) rfl (hb hby d3_15) rfl ((if0 _ _).trans (tlt (by decide : (-4 : Int32) < (0 : Int32))).1) (by decide) (by decide) ?_
        show own_S p e below T192 m 20 #[rv a1, iv p2, iv (-4 : Int32), .unset] [] _
        refine XS.aloadN X192.here hx rfl (hb hby d3_20) rfl rfl ?_
        refine st285 _ ?_
        refine XS.sipush X285.here hx rfl (hb hby d3_24) ?_
        show own_S p e below T285 m 27 #[rv a1, iv p2, iv (-4 : Int32), .unset] [(.int (4096 : Int32)), (.int (4 : Int32))] _
        refine XS.icmpYes X285.here hx rfl (pc0 := 27) (pc' := 42) rfl (hb hby d3_27) rfl (feq (by decide : ¬ ((4 : Int32) = (4096 : Int32)))).2 (by decide) (by decide) ?_
        refine XS.iloadN X285.here hx rfl (hb hby d3_42) rfl ?_
        refine XS.ineg X285.here hx rfl (hb hby d3_43) rfl ?_
        show own_S p e below T285 m 44 #[rv a1, iv p2, iv (-4 : Int32), .unset] [(.int (4 : Int32))] _
        refine XS.iconst X285.here hx rfl (hb hby d3_44) ?_
        refine XS.isub X285.here hx rfl (hb hby d3_45) rfl ?_
        refine XS.istoreN X285.here hx rfl (hb hby d3_46) rfl (l' := #[rv a1, iv p2, iv (-4 : Int32), iv (3 : Int32)]) rfl ?_
        show own_S p e below T285 m 47 #[rv a1, iv p2, iv (-4 : Int32), iv (3 : Int32)] [] _
        refine XS.aloadN X285.here hx rfl (hb hby d3_47) rfl rfl ?_
        refine st286 _ ?_
        refine XS.aloadN X286.here hx rfl (hb hby d3_51) rfl rfl ?_
        show own_S p e below T286 m 52 #[rv a1, iv p2, iv (-4 : Int32), iv (3 : Int32)] [(.ref a1), (.int (4 : Int32))] _
        refine st287 _ ?_
        refine X287.arraylength hx (by rw [e287]; exact Ar288.1) (State.isArrayOf_alike hZ.alike Ar288.2.1) (g := (mkF m 55 #[rv a1, iv p2, iv (-4 : Int32), iv (3 : Int32)] [(.ref t), (.int (4 : Int32))])) rfl rfl (hb hby d3_55) _ ?_
        rw [len_of S288 M288]
        refine XS.icmpNo X287.here hx rfl (hb hby d3_56) rfl (teq (by decide : (4 : Int32) = (4 : Int32))).2 ?_
        show own_S p e below T287 m 59 #[rv a1, iv p2, iv (-4 : Int32), iv (3 : Int32)] [] _
        refine XS.aloadN X287.here hx rfl (hb hby d3_59) rfl rfl ?_
        refine XS.aloadN X287.here hx rfl (hb hby d3_60) rfl rfl ?_
        refine st289 _ ?_
        show own_S p e below T289 m 64 #[rv a1, iv p2, iv (-4 : Int32), iv (3 : Int32)] [(.ref t), (.ref a1)] _
        refine XS.iconst X289.here hx rfl (hb hby d3_64) ?_
        refine XS.aloadN X289.here hx rfl (hb hby d3_65) rfl rfl ?_
        refine st290 _ ?_
        show own_S p e below T290 m 69 #[rv a1, iv p2, iv (-4 : Int32), iv (3 : Int32)] [(.ref t), (.int (2 : Int32)), (.ref t), (.ref a1)] _
        refine X290.arraylength hx (by rw [e290]; exact Ar291.1) (State.isArrayOf_alike hZ.alike Ar291.2.1) (g := (mkF m 69 #[rv a1, iv p2, iv (-4 : Int32), iv (3 : Int32)] [(.ref t), (.int (2 : Int32)), (.ref t), (.ref a1)])) rfl rfl (hb hby d3_69) _ ?_
        rw [len_of S291 M291]
        refine XS.imul X290.here hx rfl (hb hby d3_70) rfl ?_
        refine XS.sipush X290.here hx rfl (hb hby d3_71) ?_
        show own_S p e below T290 m 74 #[rv a1, iv p2, iv (-4 : Int32), iv (3 : Int32)] [(.int (4096 : Int32)), (.int (8 : Int32)), (.ref t), (.ref a1)] _
        refine st292 _ ?_
        refine st293 _ ?_
        refine st296 _ ?_
        show own_S p e below T296 m 83 #[rv a1, iv p2, iv (-4 : Int32), iv (3 : Int32)] [] _
        refine XS.aloadN X296.here hx rfl (hb hby d3_83) rfl rfl ?_
        refine st297 _ ?_
        refine XS.iloadN X297.here hx rfl (hb hby d3_87) rfl ?_
        show own_S p e below T297 m 88 #[rv a1, iv p2, iv (-4 : Int32), iv (3 : Int32)] [(.int (3 : Int32)), (.ref b293)] _
        refine XS.aloadN X297.here hx rfl (hb hby d3_88) rfl rfl ?_
        refine st298 _ ?_
        refine XS.iloadN X298.here hx rfl (hb hby d3_92) rfl ?_
        show own_S p e below T298 m 93 #[rv a1, iv p2, iv (-4 : Int32), iv (3 : Int32)] [(.int (3 : Int32)), (.ref b293), (.int (3 : Int32)), (.ref b293)] _
        refine XS.iconst X298.here hx rfl (hb hby d3_93) ?_
        refine XS.iadd X298.here hx rfl (hb hby d3_94) rfl ?_
        refine XS.aloadN X298.here hx rfl (hb hby d3_95) rfl rfl ?_
        show own_S p e below T298 m 96 #[rv a1, iv p2, iv (-4 : Int32), iv (3 : Int32)] [(.ref a1), (.int (4 : Int32)), (.ref b293), (.int (3 : Int32)), (.ref b293)] _
        refine st300 _ ?_
        refine XS.iloadN X300.here hx rfl (hb hby d3_99) rfl ?_
        refine XS.isub X300.here hx rfl (hb hby d3_100) rfl ?_
        show own_S p e below T300 m 101 #[rv a1, iv p2, iv (-4 : Int32), iv (3 : Int32)] [(.int (1 : Int32)), (.int (4 : Int32)), (.ref b293), (.int (3 : Int32)), (.ref b293)] _
        refine st302 _ ?_
        refine XS.aloadN X302.here hx rfl (hb hby d3_104) rfl rfl ?_
        refine st304 _ ?_
        show own_S p e below T304 m 108 #[rv a1, iv p2, iv (-4 : Int32), iv (3 : Int32)] [(.ref b293)] _
        refine XS.iloadN X304.here hx rfl (hb hby d3_108) rfl ?_
        refine XS.iloadN X304.here hx rfl (hb hby d3_109) rfl ?_
        refine st305 _ ?_
        show own_S p e below T305 m 111 #[rv a1, iv p2, iv (-4 : Int32), iv (3 : Int32)] [] _
        refine XS.aloadN X305.here hx rfl (hb hby d3_111) rfl rfl ?_
        refine XS.dup X305.here hx rfl (hb hby d3_112) rfl rfl ?_
        refine st307 _ ?_
        show own_S p e below T307 m 116 #[rv a1, iv p2, iv (-4 : Int32), iv (3 : Int32)] [(.int (4 : Int32)), (.ref a1)] _
        refine XS.iconst X307.here hx rfl (hb hby d3_116) ?_
        refine XS.iadd X307.here hx rfl (hb hby d3_117) rfl ?_
        refine st309 _ ?_
        show own_S p e below T309 m 121 #[rv a1, iv p2, iv (-4 : Int32), iv (3 : Int32)] [] _
        refine XS.aloadN X309.here hx rfl (hb hby d3_121) rfl rfl ?_
        exact k)
      obtain ⟨fs, hr, hrun, hended, hW, hsame⟩ := X309.leave (v := some (.ref a1)) (fun h => by rw [Bd.returns] at h; cases h)
      refine ⟨_, _, pre310 _ ?_, hrun, hended, _, _, rfl, ?_, ⟨_, rfl⟩, hW, hsame.mono (by decide) (by decide)⟩
      · show own_S p e below T309 m 122 #[rv a1, iv p2, iv (-4 : Int32), iv (3 : Int32)] [(.ref a1)] _
        exact retOut X309 hx (t := (.object "com/example/bitstrata/bitstrata/Container")) Bd.returns rfl (Or.inr (Or.inr (Or.inr (Or.inr ⟨rfl, rfl, rfl⟩)))) (hb hby d3_122) hr
      · show QAdd Z a1 p2 t k [x0, x1, x2, x3] h0 n0 _ T309.heap _
        rw [e309]
        have En_311 := (En_308.wr W309)
        have Fn_312 := ((Fn_303.other W305 (Or.inl ne_a1_b293)).other W309 (Or.inr (slot_ne (Or.inl (hw _ (List.mem_of_getElem? (i := 13) rfl))) (Or.inl (hw _ (List.mem_of_getElem? (i := 15) rfl))) (by decide) (t := (.array .char)) (t' := .int) (by decide) (by decide))))
        have Vn_313 := (V305.other W309 (Ne.symm ne_a1_b293))
        rw [hk] at Vn_313
        refine ⟨[x0, x1, x2, p2, x3], b293, _, rfl, N309, ((((((Keep.refl h0 [a1, t]).trans K293 all0).wr W296 (Or.inl (List.mem_of_getElem? (i := 0) rfl))).trans K302 (allS (Or.inr sz_b293) all0)).wr W305 (Or.inr sz_b293)).wr W309 (Or.inl (List.mem_of_getElem? (i := 0) rfl))), En_311, Fn_312, Fw309, Vn_313, g_b293, (Ne.symm ne_a1_b293), Or.inr sz0_b293, Nat.le_of_ble_eq_true rfl, Nat.le_of_ble_eq_true rfl, ?_, ?_, ?_⟩
        · exact ⟨(by first | assumption | exact own_tr (by assumption) (by assumption)), (by first | assumption | exact own_tr (by assumption) (by assumption)), (by first | assumption | exact own_tr (by assumption) (by assumption)), (by first | assumption | exact own_tr (by assumption) (by assumption)), trivial⟩
        · intro x hx; simp only [List.mem_cons, List.not_mem_nil, or_false] at hx; rcases hx with rfl | rfl | rfl | rfl | rfl <;> first | exact hk | exact hch _ (by simp)
        · intro x; simp only [List.mem_cons, List.not_mem_nil, or_false]; try (constructor; (intro h; rcases h with h | h | h | h | h <;> simp [h]); (intro h; rcases h with (h | h | h | h) | h <;> simp [h]))
    ·  -- case
      obtain ⟨T314, X314, e314, st314⟩ := getF X192 hx hZ hown (host := "") (Or.inl (hw _ (List.mem_of_getElem? (i := 14) rfl))) Via.refl e192 F_c' (g := (mkF m 21 #[rv a1, iv p2, iv (-5 : Int32), .unset] [(.ref a1)])) rfl rfl (hb hby d3_21)
      obtain ⟨T315, X315, e315, st315⟩ := getF X314 hx hZ hown (host := "") (Or.inl (hw _ (List.mem_of_getElem? (i := 14) rfl))) Via.refl e314 F_c' (g := (mkF m 48 #[rv a1, iv p2, iv (-5 : Int32), iv (4 : Int32)] [(.ref a1)])) rfl rfl (hb hby d3_48)
      obtain ⟨T316, X316, e316, st316⟩ := getF X315 hx hZ hown (host := "") (Or.inl (hw _ (List.mem_of_getElem? (i := 12) rfl))) Via.refl e315 F_v (g := (mkF m 52 #[rv a1, iv p2, iv (-5 : Int32), iv (4 : Int32)] [(.ref a1), (.int (4 : Int32))])) rfl rfl (hb hby d3_52)
      obtain ⟨cl317, Ar317, q317, S317, M317, -, -⟩ := id V_t'
      obtain ⟨T318, X318, e318, st318⟩ := getF X316 hx hZ hown (host := "") (Or.inl (hw _ (List.mem_of_getElem? (i := 12) rfl))) Via.refl e316 F_v (g := (mkF m 61 #[rv a1, iv p2, iv (-5 : Int32), iv (4 : Int32)] [(.ref a1), (.ref a1)])) rfl rfl (hb hby d3_61)
      obtain ⟨T319, X319, e319, st319⟩ := getF X318 hx hZ hown (host := "") (Or.inl (hw _ (List.mem_of_getElem? (i := 12) rfl))) Via.refl e318 F_v (g := (mkF m 66 #[rv a1, iv p2, iv (-5 : Int32), iv (4 : Int32)] [(.ref a1), (.int (2 : Int32)), (.ref t), (.ref a1)])) rfl rfl (hb hby d3_66)
      obtain ⟨cl320, Ar320, q320, S320, M320, -, -⟩ := id V_t'
      obtain ⟨_, _, ⟨T321, L321, k321, n321⟩, -, X321, ⟨Lc321, hQ321, l321, y321, z321⟩, st321⟩ := Jvm.LawKit.callS X319 hx (y := (⟨"java/lang/Math", "min", "(II)I"⟩ : MethodName)) hown (mvT hZ (hw _ (List.mem_of_getElem? (i := 51) rfl))) (mvT hZ (hw _ (List.mem_of_getElem? (i := 52) rfl))) (mvT hZ (hw _ (List.mem_of_getElem? (i := 41) rfl))) (mvT hZ (hw _ (List.mem_of_getElem? (i := 53) rfl))) (by decide) (backOf (W := 2) (rmMin l Z a0 hw [] (8 : Int32) (4096 : Int32) h0 n0 Z0 ) hZ (hw _ (List.mem_of_getElem? (i := 53) rfl)) (hw _ (List.mem_of_getElem? (i := 41) rfl)) (by decide) (by decide)) (g := (mkF m 74 #[rv a1, iv p2, iv (-5 : Int32), iv (4 : Int32)] [(.int (4096 : Int32)), (.int (8 : Int32)), (.ref t), (.ref a1)])) rfl (by rw [hml]; rfl) (argsL := [(.int (8 : Int32)), (.int (4096 : Int32))]) (rest := [(.ref t), (.ref a1)]) (lenOf pd_2 rfl) rfl (by show 2 * 0 + _ ≤ _; exact Nat.le_of_eq rfl) (hb hby d3_74) (fun _ _ => ⟨rfl, e319, (by decide : 0 + 0 ≤ _), (by decide : 0 + 0 ≤ _)⟩)
      dsimp only [Pt.U, Pt.locs, Pt.cells, Pt.slots] at X321 l321 y321 z321 st321 hQ321
      subst l321 y321 z321
      obtain ⟨hv321, N321q, e321q⟩ := hQ321
      have N321 := Fr.app N192 N321q
      rw [show own_min (8 : Int32) (4096 : Int32) = (8 : Int32) from by decide] at hv321
      subst hv321
      have e321 : T321.heap = h0 := e321q
      obtain ⟨_, _, ⟨T322, L322, k322, n322⟩, -, X322, ⟨Lc322, hQ322, l322, y322, z322⟩, st322⟩ := Jvm.LawKit.callS X321 hx (y := (⟨"java/util/Arrays", "copyOf", "([CI)[C"⟩ : MethodName)) hown (mvT hZ (hw _ (List.mem_of_getElem? (i := 54) rfl))) (mvT hZ (hw _ (List.mem_of_getElem? (i := 55) rfl))) (mvT hZ (hw _ (List.mem_of_getElem? (i := 27) rfl))) (mvT hZ (hw _ (List.mem_of_getElem? (i := 56) rfl))) (by decide) (backOf (W := 1) (rmCo l Z a0 hw [] t k x0 x1 x2 x3 h0 n0 Z0 V_t') hZ (hw _ (List.mem_of_getElem? (i := 56) rfl)) (hw _ (List.mem_of_getElem? (i := 27) rfl)) (by decide) (by decide)) (g := (mkF m 77 #[rv a1, iv p2, iv (-5 : Int32), iv (4 : Int32)] [(.int (8 : Int32)), (.ref t), (.ref a1)])) rfl (by rw [hml]; rfl) (argsL := [(.ref t), (.int (8 : Int32))]) (rest := [(.ref a1)]) (lenOf pd_3 rfl) rfl (by show 2 * 0 + _ ≤ _; exact Nat.le_of_eq rfl) (hb hby d3_77) (fun _ _ => ⟨rfl, e321, (by decide : 0 + 1 ≤ _), (by decide : 0 + 8 ≤ _)⟩)
      dsimp only [Pt.U, Pt.locs, Pt.cells, Pt.slots] at X322 l322 y322 z322 st322 hQ322
      subst l322 y322 z322
      obtain ⟨b322, kb322, rfl, N322q, K322, V322n, g_b322, sz_b322⟩ := hQ322
      have N322 := Fr.app N321 N322q
      have ne_a1_b322 : a1 ≠ b322 := Nat.ne_of_lt (Nat.lt_of_lt_of_le E_a1.lt sz_b322)
      have ne_t_b322 : t ≠ b322 := Nat.ne_of_lt (Nat.lt_of_lt_of_le V_t'.lt sz_b322)
      have sz0_b322 : h0.size ≤ b322 := sz_b322
      have Fn_323 := (F_v.keep K322 nin0)
      have En_324 := (E_a1.keep K322)
      obtain ⟨T325, h325, X325, e325, W325, st325⟩ := putF X322 hx hZ hown (host := "") (Or.inl (hw _ (List.mem_of_getElem? (i := 12) rfl))) Via.refl rfl Fn_323 En_324 (Or.inl (hw _ (List.mem_of_getElem? (i := 13) rfl))) (hw _ (List.mem_of_getElem? (i := 3) rfl)) (ty := (.array .char)) (by decide) rfl rfl (g := (mkF m 80 #[rv a1, iv p2, iv (-5 : Int32), iv (4 : Int32)] [(.ref b322), (.ref a1)])) rfl rfl (hb hby d3_80)
      have Fw325 := Fn_323.same W325
      have N325 := Fr.snoc X325 N322 g_a1
      obtain ⟨T326, X326, e326, st326⟩ := getF X325 hx hZ hown (host := "") (Or.inl (hw _ (List.mem_of_getElem? (i := 12) rfl))) Via.refl e325 Fw325 (g := (mkF m 84 #[rv a1, iv p2, iv (-5 : Int32), iv (4 : Int32)] [(.ref a1)])) rfl rfl (hb hby d3_84)
      obtain ⟨T327, X327, e327, st327⟩ := getF X326 hx hZ hown (host := "") (Or.inl (hw _ (List.mem_of_getElem? (i := 12) rfl))) Via.refl e326 Fw325 (g := (mkF m 89 #[rv a1, iv p2, iv (-5 : Int32), iv (4 : Int32)] [(.ref a1), (.int (4 : Int32)), (.ref b322)])) rfl rfl (hb hby d3_89)
      have Fn_328 := ((F_c'.keep K322 nin0).other W325 (Or.inr (slot_ne (Or.inl (hw _ (List.mem_of_getElem? (i := 15) rfl))) (Or.inl (hw _ (List.mem_of_getElem? (i := 13) rfl))) (by decide) (t := .int) (t' := (.array .char)) (by decide) (by decide))))
      obtain ⟨T329, X329, e329, st329⟩ := getF X327 hx hZ hown (host := "") (Or.inl (hw _ (List.mem_of_getElem? (i := 14) rfl))) Via.refl e327 Fn_328 (g := (mkF m 96 #[rv a1, iv p2, iv (-5 : Int32), iv (4 : Int32)] [(.ref a1), (.int (5 : Int32)), (.ref b322), (.int (4 : Int32)), (.ref b322)])) rfl rfl (hb hby d3_96)
      have Vn_330 := (V322n.other W325 (Ne.symm ne_a1_b322))
      obtain ⟨T331, h331, L331, X331, e331, N331, K331, Vc331, st331⟩ := cpA X329 hx hZ hown (hw _ (List.mem_of_getElem? (i := 35) rfl)) (hw _ (List.mem_of_getElem? (i := 38) rfl)) (hw _ (List.mem_of_getElem? (i := 36) rfl)) (hw _ (List.mem_of_getElem? (i := 37) rfl)) e329 (us := []) (sp := (4 : Int32)) (dp := (5 : Int32)) (nn := (0 : Int32)) Vn_330 Vn_330 (Or.inl ⟨rfl, rfl⟩) (by decide) (by decide) (by decide) (by decide) (by decide) rfl (Nat.le_of_ble_eq_true rfl) N325 g_b322 (g := (mkF m 101 #[rv a1, iv p2, iv (-5 : Int32), iv (4 : Int32)] [(.int (0 : Int32)), (.int (5 : Int32)), (.ref b322), (.int (4 : Int32)), (.ref b322)])) rfl (by rw [hml]; rfl) rfl (hb hby d3_101) (by decide) (W := 0) (by show 2 * 0 + _ ≤ _; exact Nat.le_of_eq rfl) (by decide)
      have V331 : Arv Z h331 b322 kb322 .char (8 : Int32) [(.int x0), (.int x1), (.int x2), (.int x3), (.int (0 : Int32)), (.int (0 : Int32)), (.int (0 : Int32)), (.int (0 : Int32))] (.int (0 : Int32)) := Vc331
      have Fn_332 := (Fw325.keep K331 (ninS ne_a1_b322 nin0))
      obtain ⟨T333, X333, e333, st333⟩ := getF X331 hx hZ hown (host := "") (Or.inl (hw _ (List.mem_of_getElem? (i := 12) rfl))) Via.refl e331 Fn_332 (g := (mkF m 105 #[rv a1, iv p2, iv (-5 : Int32), iv (4 : Int32)] [(.ref a1)])) rfl rfl (hb hby d3_105)
      obtain ⟨cl334, Ar334, q334, S334, M334, H334, G334⟩ := id V331
      have hin334 : ¬ ((4 : Int32) < 0 ∨ cl334.slots.size ≤ ((4 : Int32)).toNatClampNeg) := inb_of S334 ⟨by decide, by decide⟩
      obtain ⟨T334, h334, X334, e334, W334, st334⟩ := stC X333 hx hZ e333 Ar334 (j := (4 : Int32)) hin334 (g := (mkF m 110 #[rv a1, iv p2, iv (-5 : Int32), iv (4 : Int32)] [(.int p2), (.int (4 : Int32)), (.ref b322)])) rfl rfl (hb hby d3_110)
      have V334 : Arv Z h334 b322 kb322 .char (8 : Int32) [(.int x0), (.int x1), (.int x2), (.int x3), (.int (nar .char p2)), (.int (0 : Int32)), (.int (0 : Int32)), (.int (0 : Int32))] (.int (0 : Int32)) := Arv.set Ar334 q334 S334 M334 H334 G334 (fits_nar_char _) W334 4 rfl (Nat.le_of_ble_eq_true rfl)
      have N334 := Fr.snoc X334 N331 g_b322
      have Fn_335 := ((Fn_328.keep K331 (ninS ne_a1_b322 nin0)).other W334 (Or.inl ne_a1_b322))
      obtain ⟨T336, X336, e336, st336⟩ := getF X334 hx hZ hown (host := "") (Or.inl (hw _ (List.mem_of_getElem? (i := 14) rfl))) Via.refl e334 Fn_335 (g := (mkF m 113 #[rv a1, iv p2, iv (-5 : Int32), iv (4 : Int32)] [(.ref a1), (.ref a1)])) rfl rfl (hb hby d3_113)
      have En_337 := (((En_324.wr W325).keep K331).wr W334)
      obtain ⟨T338, h338, X338, e338, W338, st338⟩ := putF X336 hx hZ hown (host := "") (Or.inl (hw _ (List.mem_of_getElem? (i := 14) rfl))) Via.refl e336 Fn_335 En_337 (Or.inl (hw _ (List.mem_of_getElem? (i := 15) rfl))) (hw _ (List.mem_of_getElem? (i := 3) rfl)) (ty := .int) (by decide) rfl rfl (g := (mkF m 118 #[rv a1, iv p2, iv (-5 : Int32), iv (4 : Int32)] [(.int (5 : Int32)), (.ref a1)])) rfl rfl (hb hby d3_118)
      have Fw338 := Fn_335.same W338
      have N338 := Fr.snoc X338 N334 g_a1
      have pre339 : ∀ tg, own_S p e below T338 m 122 #[rv a1, iv p2, iv (-5 : Int32), iv (4 : Int32)] [(.ref a1)] tg → Steps p.tables e below (s₁.setTop (entryFrame m #[(.ref a1), (.int p2)] 4)) tg := fun tg k => pre193 tg (by
        show own_S p e below T192 m 13 #[rv a1, iv p2, .unset, .unset] [(.int (-5 : Int32))] _
        refine XS.istoreN X192.here hx rfl (hb hby d3_13) rfl (l' := #[rv a1, iv p2, iv (-5 : Int32), .unset]) rfl ?_
        refine XS.iloadN X192.here hx rfl (hb hby d3_14) rfl ?_
        refine XS.ifYes X192.here hx rfl (pc0 := 15) (pc' := 20) rfl (hb hby d3_15) rfl ((if0 _ _).trans (tlt (by decide : (-5 : Int32) < (0 : Int32))).1) (by decide) (by decide) ?_
        show own_S p e below T192 m 20 #[rv a1, iv p2, iv (-5 : Int32), .unset] [] _
        refine XS.aloadN X192.here hx rfl (hb hby d3_20) rfl rfl ?_
        refine st314 _ ?_
        refine XS.sipush X314.here hx rfl (hb hby d3_24) ?_
        show own_S p e below T314 m 27 #[rv a1, iv p2, iv (-5 : Int32), .unset] [(.int (4096 : Int32)), (.int (4 : Int32))] _
        refine XS.icmpYes X314.here hx rfl (pc0 := 27) (pc' := 42) rfl (hb hby d3_27) rfl (feq (by decide : ¬ ((4 : Int32) = (4096 : Int32)))).2 (by decide) (by decide) ?_
        refine XS.iloadN X314.here hx rfl (hb hby d3_42) rfl ?_
        refine XS.ineg X314.here hx rfl (hb hby d3_43) rfl ?_
        show own_S p e below T314 m 44 #[rv a1, iv p2, iv (-5 : Int32), .unset] [(.int (5 : Int32))] _
        refine XS.iconst X314.here hx rfl (hb hby d3_44) ?_
        refine XS.isub X314.here hx rfl (hb hby d3_45) rfl ?_
        refine XS.istoreN X314.here hx rfl (hb hby d3_46) rfl (l' := #[rv a1, iv p2, iv (-5 : Int32), iv (4 : Int32)]) rfl ?_
        show own_S p e below T314 m 47 #[rv a1, iv p2, iv (-5 : Int32), iv (4 : Int32)] [] _
        refine XS.aloadN X314.here hx rfl (hb hby d3_47) rfl rfl ?_
        refine st315 _ ?_
        refine XS.aloadN X315.here hx rfl (hb hby d3_51) rfl rfl ?_
        show own_S p e below T315 m 52 #[rv a1, iv p2, iv (-5 : Int32), iv (4 : Int32)] [(.ref a1), (.int (4 : Int32))] _
        refine st316 _ ?_
        refine X316.arraylength hx (by rw [e316]; exact Ar317.1) (State.isArrayOf_alike hZ.alike Ar317.2.1) (g := (mkF m 55 #[rv a1, iv p2, iv (-5 : Int32), iv (4 : Int32)] [(.ref t), (.int (4 : Int32))])) rfl rfl (hb hby d3_55) _ ?_
        rw [len_of S317 M317]
        refine XS.icmpNo X316.here hx rfl (hb hby d3_56) rfl (teq (by decide : (4 : Int32) = (4 : Int32))).2 ?_
        show own_S p e below T316 m 59 #[rv a1, iv p2, iv (-5 : Int32), iv (4 : Int32)] [] _
        refine XS.aloadN X316.here hx rfl (hb hby d3_59) rfl rfl ?_
        refine XS.aloadN X316.here hx rfl (hb hby d3_60) rfl rfl ?_
        refine st318 _ ?_
        show own_S p e below T318 m 64 #[rv a1, iv p2, iv (-5 : Int32), iv (4 : Int32)] [(.ref t), (.ref a1)] _
        refine XS.iconst X318.here hx rfl (hb hby d3_64) ?_
        refine XS.aloadN X318.here hx rfl (hb hby d3_65) rfl rfl ?_
        refine st319 _ ?_
        show own_S p e below T319 m 69 #[rv a1, iv p2, iv (-5 : Int32), iv (4 : Int32)] [(.ref t), (.int (2 : Int32)), (.ref t), (.ref a1)] _
        refine X319.arraylength hx (by rw [e319]; exact Ar320.1) (State.isArrayOf_alike hZ.alike Ar320.2.1) (g := (mkF m 69 #[rv a1, iv p2, iv (-5 : Int32), iv (4 : Int32)] [(.ref t), (.int (2 : Int32)), (.ref t), (.ref a1)])) rfl rfl (hb hby d3_69) _ ?_
        rw [len_of S320 M320]
        refine XS.imul X319.here hx rfl (hb hby d3_70) rfl ?_
        refine XS.sipush X319.here hx rfl (hb hby d3_71) ?_
        show own_S p e below T319 m 74 #[rv a1, iv p2, iv (-5 : Int32), iv (4 : Int32)] [(.int (4096 : Int32)), (.int (8 : Int32)), (.ref t), (.ref a1)] _
        refine st321 _ ?_
        refine st322 _ ?_
        refine st325 _ ?_
        show own_S p e below T325 m 83 #[rv a1, iv p2, iv (-5 : Int32), iv (4 : Int32)] [] _
        refine XS.aloadN X325.here hx rfl (hb hby d3_83) rfl rfl ?_
        refine st326 _ ?_
        refine XS.iloadN X326.here hx rfl (hb hby d3_87) rfl ?_
        show own_S p e below T326 m 88 #[rv a1, iv p2, iv (-5 : Int32), iv (4 : Int32)] [(.int (4 : Int32)), (.ref b322)] _
        refine XS.aloadN X326.here hx rfl (hb hby d3_88) rfl rfl ?_
        refine st327 _ ?_
        refine XS.iloadN X327.here hx rfl (hb hby d3_92) rfl ?_
        show own_S p e below T327 m 93 #[rv a1, iv p2, iv (-5 : Int32), iv (4 : Int32)] [(.int (4 : Int32)), (.ref b322), (.int (4 : Int32)), (.ref b322)] _
        refine XS.iconst X327.here hx rfl (hb hby d3_93) ?_
        refine XS.iadd X327.here hx rfl (hb hby d3_94) rfl ?_
        refine XS.aloadN X327.here hx rfl (hb hby d3_95) rfl rfl ?_
        show own_S p e below T327 m 96 #[rv a1, iv p2, iv (-5 : Int32), iv (4 : Int32)] [(.ref a1), (.int (5 : Int32)), (.ref b322), (.int (4 : Int32)), (.ref b322)] _
        refine st329 _ ?_
        refine XS.iloadN X329.here hx rfl (hb hby d3_99) rfl ?_
        refine XS.isub X329.here hx rfl (hb hby d3_100) rfl ?_
        show own_S p e below T329 m 101 #[rv a1, iv p2, iv (-5 : Int32), iv (4 : Int32)] [(.int (0 : Int32)), (.int (5 : Int32)), (.ref b322), (.int (4 : Int32)), (.ref b322)] _
        refine st331 _ ?_
        refine XS.aloadN X331.here hx rfl (hb hby d3_104) rfl rfl ?_
        refine st333 _ ?_
        show own_S p e below T333 m 108 #[rv a1, iv p2, iv (-5 : Int32), iv (4 : Int32)] [(.ref b322)] _
        refine XS.iloadN X333.here hx rfl (hb hby d3_108) rfl ?_
        refine XS.iloadN X333.here hx rfl (hb hby d3_109) rfl ?_
        refine st334 _ ?_
        show own_S p e below T334 m 111 #[rv a1, iv p2, iv (-5 : Int32), iv (4 : Int32)] [] _
        refine XS.aloadN X334.here hx rfl (hb hby d3_111) rfl rfl ?_
        refine XS.dup X334.here hx rfl (hb hby d3_112) rfl rfl ?_
        refine st336 _ ?_
        show own_S p e below T336 m 116 #[rv a1, iv p2, iv (-5 : Int32), iv (4 : Int32)] [(.int (4 : Int32)), (.ref a1)] _
        refine XS.iconst X336.here hx rfl (hb hby d3_116) ?_
        refine XS.iadd X336.here hx rfl (hb hby d3_117) rfl ?_
        refine st338 _ ?_
        show own_S p e below T338 m 121 #[rv a1, iv p2, iv (-5 : Int32), iv (4 : Int32)] [] _
        refine XS.aloadN X338.here hx rfl (hb hby d3_121) rfl rfl ?_
        exact k)
      obtain ⟨fs, hr, hrun, hended, hW, hsame⟩ := X338.leave (v := some (.ref a1)) (fun h => by rw [Bd.returns] at h; cases h)
      refine ⟨_, _, pre339 _ ?_, hrun, hended, _, _, rfl, ?_, ⟨_, rfl⟩, hW, hsame.mono (by decide) (by decide)⟩
      · show own_S p e below T338 m 122 #[rv a1, iv p2, iv (-5 : Int32), iv (4 : Int32)] [(.ref a1)] _
        exact retOut X338 hx (t := (.object "com/example/bitstrata/bitstrata/Container")) Bd.returns rfl (Or.inr (Or.inr (Or.inr (Or.inr ⟨rfl, rfl, rfl⟩)))) (hb hby d3_122) hr
      · show QAdd Z a1 p2 t k [x0, x1, x2, x3] h0 n0 _ T338.heap _
        rw [e338]
        have En_340 := (En_337.wr W338)
        have Fn_341 := ((Fn_332.other W334 (Or.inl ne_a1_b322)).other W338 (Or.inr (slot_ne (Or.inl (hw _ (List.mem_of_getElem? (i := 13) rfl))) (Or.inl (hw _ (List.mem_of_getElem? (i := 15) rfl))) (by decide) (t := (.array .char)) (t' := .int) (by decide) (by decide))))
        have Vn_342 := (V334.other W338 (Ne.symm ne_a1_b322))
        rw [hk] at Vn_342
        refine ⟨[x0, x1, x2, x3, p2], b322, _, rfl, N338, ((((((Keep.refl h0 [a1, t]).trans K322 all0).wr W325 (Or.inl (List.mem_of_getElem? (i := 0) rfl))).trans K331 (allS (Or.inr sz_b322) all0)).wr W334 (Or.inr sz_b322)).wr W338 (Or.inl (List.mem_of_getElem? (i := 0) rfl))), En_340, Fn_341, Fw338, Vn_342, g_b322, (Ne.symm ne_a1_b322), Or.inr sz0_b322, Nat.le_of_ble_eq_true rfl, Nat.le_of_ble_eq_true rfl, ?_, ?_, ?_⟩
        · exact ⟨(by first | assumption | exact own_tr (by assumption) (by assumption)), (by first | assumption | exact own_tr (by assumption) (by assumption)), (by first | assumption | exact own_tr (by assumption) (by assumption)), (by first | assumption | exact own_tr (by assumption) (by assumption)), trivial⟩
        · intro x hx; simp only [List.mem_cons, List.not_mem_nil, or_false] at hx; rcases hx with rfl | rfl | rfl | rfl | rfl <;> first | exact hk | exact hch _ (by simp)
        · intro x; simp only [List.mem_cons, List.not_mem_nil, or_false]; try (constructor; (intro h; rcases h with h | h | h | h | h <;> simp [h]); (intro h; rcases h with (h | h | h | h) | h <;> simp [h]))
def own_max (p q : Int32) : Int32 := if p < q then q else p
theorem ef_Max (m : MethodId) (p1 : Int32) (p2 : Int32) : entryFrame m #[(.int p1), (.int p2)] 2 = mkF m 0 #[iv p1, iv p2] [] := by first | (simp [entryFrame, mkF, argsToLocals, Value.category]; done) | rfl
def QMax (Z : State) (p1 : Int32) (p2 : Int32) (h0 : Heap) (n0 : Nat) (v : Option Value) (h : Heap) (L : List Loc) : Prop := v = some (.int (own_max p1 p2)) ∧ Fr n0 L ∧ h = h0
theorem d7_0 : decode jdk_29_method_65_code 0 = .ok (.iload_n 0, 1) := by decide +kernel
theorem d7_1 : decode jdk_29_method_65_code 1 = .ok (.iload_n 1, 1) := by decide +kernel
theorem d7_2 : decode jdk_29_method_65_code 2 = .ok (.if_icmp .lt 7, 3) := by decide +kernel
theorem d7_9 : decode jdk_29_method_65_code 9 = .ok (.iload_n 1, 1) := by decide +kernel
theorem d7_10 : decode jdk_29_method_65_code 10 = .ok (.ireturn, 1) := by decide +kernel
theorem d7_5 : decode jdk_29_method_65_code 5 = .ok (.iload_n 0, 1) := by decide +kernel
theorem d7_6 : decode jdk_29_method_65_code 6 = .ok (.goto 4, 3) := by decide +kernel
set_option maxRecDepth 65536 in
set_option maxHeartbeats 40000000 in
theorem rmMax (l : Launch) (Z : State) (a0 : Array Value) (hw : ∀ d ∈ tables_1, d.before a0 Z = true) (ws : List Jvm.Cond) (p1 : Int32) (p2 : Int32) (h0 : Heap) (n0 : Nat) (Z0 : n0 ≤ h0.size)  :
    MetFree l (⟨"java/lang/Math", "max", "(II)I"⟩ : MethodName) (head1 (Jvm.Cond.code (⟨"java/lang/Math", "max", "(II)I"⟩ : MethodName) jdk_29_method_65_code 2 (some .int) :: ws) ({ frames := 0, cells := 0, slots := 0, locals := 0 } : Room)) (fun a U => a = #[(.int p1), (.int p2)] ∧ Z.Warmed39 U.vm ∧ U.heap = h0) (fun _ _ _ _ _ => True) (fun _ U o U' => ∃ v L, o = .returned v ∧ QMax Z p1 p2 h0 n0 v U'.heap L ∧ FrameEnd U o U' L ({ frames := 0, cells := 0, slots := 0, locals := 0 } : Room).cells ({ frames := 0, cells := 0, slots := 0, locals := 0 } : Room).slots) := by
  refine MetFree.of_bodySF (Jvm.Free.JP.mathPlain rfl (by decide +kernel)) hisR ?_
  intro p e s m args below meth c s₁ Bd hml0 hP hK
  obtain ⟨rfl, hZ, hh⟩ := hP
  have hx := Bd.exec
  have hby := Bd.bytes
  have hml : c.maxLocals = 2 := hml0
  have hown : s.vm.findClass "java/lang/Math" = some m.cls := findClass_of_methodNamed Bd.named
  have hnm := (name_of_methodNamed Bd.named Bd.method).1
  have X0 : Stand p l e ({ frames := 0, cells := 0, slots := 0, locals := 0 } : Room) s m #[(.int p1), (.int p2)] below meth c s₁ [] 0 0 := Stand.of_body Bd
  have e0 : s₁.heap = h0 := by rw [← hh, Bd.state]; rfl
  have N0 := Fr.nil n0
  have pre0 : ∀ tg, Steps p.tables e below (s₁.setTop (mkF m 0 #[iv p1, iv p2] [])) tg → Steps p.tables e below (s₁.setTop (entryFrame m #[(.int p1), (.int p2)] 2)) tg := fun tg k => castTop (ef_Max m p1 p2) k
  have pre2 : ∀ tg, own_S p e below s₁ m 2 #[iv p1, iv p2] [(.int p2), (.int p1)] tg → Steps p.tables e below (s₁.setTop (entryFrame m #[(.int p1), (.int p2)] 2)) tg := fun tg k => pre0 tg (by
    show own_S p e below s₁ m 0 #[iv p1, iv p2] [] _
    refine XS.iloadN X0.here hx rfl (hb hby d7_0) rfl ?_
    refine XS.iloadN X0.here hx rfl (hb hby d7_1) rfl ?_
    exact k)
  by_cases hc2_1 : p1 < p2
  ·  -- pc 2 yes
    have pre3 : ∀ tg, own_S p e below s₁ m 10 #[iv p1, iv p2] [(.int p2)] tg → Steps p.tables e below (s₁.setTop (entryFrame m #[(.int p1), (.int p2)] 2)) tg := fun tg k => pre2 tg (by
      show own_S p e below s₁ m 2 #[iv p1, iv p2] [(.int p2), (.int p1)] _
      refine XS.icmpYes X0.here hx rfl (pc0 := 2) (pc' := 9) rfl (hb hby d7_2) rfl (tlt hc2_1).1 (by decide) (by decide) ?_
      refine XS.iloadN X0.here hx rfl (hb hby d7_9) rfl ?_
      exact k)
    obtain ⟨fs, hr, hrun, hended, hW, hsame⟩ := X0.leave (v := some (.int p2)) (fun h => by rw [Bd.returns] at h; cases h)
    refine ⟨_, _, pre3 _ ?_, hrun, hended, _, _, rfl, ?_, ⟨_, rfl⟩, hW, hsame.mono (by decide) (by decide)⟩
    · show own_S p e below s₁ m 10 #[iv p1, iv p2] [(.int p2)] _
      exact retI X0 hx Bd.returns (hb hby d7_10) hr
    · show QMax Z p1 p2 h0 n0 _ s₁.heap _
      rw [e0]
      exact ⟨by simp [own_max, hc2_1], N0, rfl⟩
  ·  -- pc 2 no
    have pre4 : ∀ tg, own_S p e below s₁ m 10 #[iv p1, iv p2] [(.int p1)] tg → Steps p.tables e below (s₁.setTop (entryFrame m #[(.int p1), (.int p2)] 2)) tg := fun tg k => pre2 tg (by
      show own_S p e below s₁ m 2 #[iv p1, iv p2] [(.int p2), (.int p1)] _
      refine XS.icmpNo X0.here hx rfl (hb hby d7_2) rfl (flt hc2_1).1 ?_
      refine XS.iloadN X0.here hx rfl (hb hby d7_5) rfl ?_
      refine XS.goto X0.here hx rfl (pc0 := 6) (pc' := 10) rfl (hb hby d7_6) (by decide) (by decide) ?_
      exact k)
    obtain ⟨fs, hr, hrun, hended, hW, hsame⟩ := X0.leave (v := some (.int p1)) (fun h => by rw [Bd.returns] at h; cases h)
    refine ⟨_, _, pre4 _ ?_, hrun, hended, _, _, rfl, ?_, ⟨_, rfl⟩, hW, hsame.mono (by decide) (by decide)⟩
    · show own_S p e below s₁ m 10 #[iv p1, iv p2] [(.int p1)] _
      exact retI X0 hx Bd.returns (hb hby d7_10) hr
    · show QMax Z p1 p2 h0 n0 _ s₁.heap _
      rw [e0]
      exact ⟨by simp [own_max, hc2_1], N0, rfl⟩
def own_last : List Int32 → Int32
  | [] => 0
  | [x] => x
  | _ :: y :: r => own_last (y :: r)
theorem own_len5 {xs : List Int32} (h : xs.length = 5) : ∃ a b c d e, xs = [a, b, c, d, e] := by
  match xs, h with
  | [a, b, c, d, e], _ => exact ⟨a, b, c, d, e, rfl⟩
theorem ef_Last (m : MethodId) (a1 : Addr) : entryFrame m #[(.ref a1)] 1 = mkF m 0 #[rv a1] [] := by first | (simp [entryFrame, mkF, argsToLocals, Value.category]; done) | rfl
def QLast (Z : State) (a1 : Addr) (t : Addr) (k : ClassId) (xs : List Int32) (h0 : Heap) (n0 : Nat) (v : Option Value) (h : Heap) (L : List Loc) : Prop := v = some (.int (own_last xs)) ∧ Fr n0 L ∧ h = h0
theorem d8_0 : decode prog_1_method_11_code 0 = .ok (.aload_n 0, 1) := by decide +kernel
theorem d8_1 : decode prog_1_method_11_code 1 = .ok (.getfield 9, 3) := by decide +kernel
theorem d8_4 : decode prog_1_method_11_code 4 = .ok (.aload_n 0, 1) := by decide +kernel
theorem d8_5 : decode prog_1_method_11_code 5 = .ok (.getfield 13, 3) := by decide +kernel
theorem d8_8 : decode prog_1_method_11_code 8 = .ok (.iconst 1, 1) := by decide +kernel
theorem d8_9 : decode prog_1_method_11_code 9 = .ok (.isub, 1) := by decide +kernel
theorem d8_10 : decode prog_1_method_11_code 10 = .ok (.caload, 1) := by decide +kernel
theorem d8_11 : decode prog_1_method_11_code 11 = .ok (.ireturn, 1) := by decide +kernel
set_option maxRecDepth 65536 in
set_option maxHeartbeats 40000000 in
theorem rmLast (l : Launch) (Z : State) (a0 : Array Value) (hw : ∀ d ∈ tables_1, d.before a0 Z = true) (ws : List Jvm.Cond) (a1 : Addr) (t : Addr) (k : ClassId) (xs : List Int32) (h0 : Heap) (n0 : Nat) (Z0 : n0 ≤ h0.size) (F_v : Fld Z h0 a1 "com/example/bitstrata/bitstrata/ArrayContainer" "values" "[C" (.ref t)) (F_c : Fld Z h0 a1 "com/example/bitstrata/bitstrata/ArrayContainer" "cardinality" "I" (.int (Int32.ofNat xs.length))) (V_t : Arv Z h0 t k .char (own_z xs) (own_vs xs) (.int 0)) (hl1 : 1 ≤ xs.length) (hl2 : xs.length ≤ 5) (hch : own_chs xs) :
    MetFree l (⟨"com/example/bitstrata/bitstrata/ArrayContainer", "last", "()C"⟩ : MethodName) (head1 (Jvm.Cond.code (⟨"com/example/bitstrata/bitstrata/ArrayContainer", "last", "()C"⟩ : MethodName) prog_1_method_11_code 1 (some .char) :: ws) ({ frames := 0, cells := 0, slots := 0, locals := 0 } : Room)) (fun a U => a = #[(.ref a1)] ∧ Z.Warmed39 U.vm ∧ U.heap = h0) (fun _ _ _ _ _ => True) (fun _ U o U' => ∃ v L, o = .returned v ∧ QLast Z a1 t k xs h0 n0 v U'.heap L ∧ FrameEnd U o U' L ({ frames := 0, cells := 0, slots := 0, locals := 0 } : Room).cells ({ frames := 0, cells := 0, slots := 0, locals := 0 } : Room).slots) := by
  refine MetFree.of_bodySF (plainFor_of_name pn_0) hisR ?_
  intro p e s m args below meth c s₁ Bd hml0 hP hK
  obtain ⟨rfl, hZ, hh⟩ := hP
  have hx := Bd.exec
  have hby := Bd.bytes
  have hml : c.maxLocals = 1 := hml0
  have hown : s.vm.findClass "com/example/bitstrata/bitstrata/ArrayContainer" = some m.cls := findClass_of_methodNamed Bd.named
  have hnm := (name_of_methodNamed Bd.named Bd.method).1
  have X0 : Stand p l e ({ frames := 0, cells := 0, slots := 0, locals := 0 } : Room) s m #[(.ref a1)] below meth c s₁ [] 0 0 := Stand.of_body Bd
  have e0 : s₁.heap = h0 := by rw [← hh, Bd.state]; rfl
  have N0 := Fr.nil n0
  have pre0 : ∀ tg, Steps p.tables e below (s₁.setTop (mkF m 0 #[rv a1] [])) tg → Steps p.tables e below (s₁.setTop (entryFrame m #[(.ref a1)] 1)) tg := fun tg k => castTop (ef_Last m a1) k
  have hlen : xs.length = 1 ∨ xs.length = 2 ∨ xs.length = 3 ∨ xs.length = 4 ∨ xs.length = 5 := by omega
  rcases hlen with hl | hl | hl | hl | hl
  ·  -- case
    obtain ⟨x0, rfl⟩ := own_len1 hl
    have F_c' : Fld Z h0 a1 "com/example/bitstrata/bitstrata/ArrayContainer" "cardinality" "I" (.int (1 : Int32)) := F_c
    have V_t' : Arv Z h0 t k .char (4 : Int32) [(.int x0), (.int (0 : Int32)), (.int (0 : Int32)), (.int (0 : Int32))] (.int (0 : Int32)) := V_t
    obtain ⟨T1, X1, e1, st1⟩ := getF X0 hx hZ hown (host := "") (Or.inl (hw _ (List.mem_of_getElem? (i := 12) rfl))) Via.refl e0 F_v (g := (mkF m 1 #[rv a1] [(.ref a1)])) rfl rfl (hb hby d8_1)
    obtain ⟨T2, X2, e2, st2⟩ := getF X1 hx hZ hown (host := "") (Or.inl (hw _ (List.mem_of_getElem? (i := 14) rfl))) Via.refl e1 F_c' (g := (mkF m 5 #[rv a1] [(.ref a1), (.ref t)])) rfl rfl (hb hby d8_5)
    obtain ⟨cl3, Ar3, q3, S3, M3, H3, G3⟩ := id V_t'
    have hin3 : ¬ ((0 : Int32) < 0 ∨ cl3.slots.size ≤ ((0 : Int32)).toNatClampNeg) := inb_of S3 ⟨by decide, by decide⟩
    have hat3 : cl3.slots[((0 : Int32)).toNatClampNeg]? = some (.int x0) := H3.at hin3 rfl
    have pre4 : ∀ tg, own_S p e below T2 m 11 #[rv a1] [(.int x0)] tg → Steps p.tables e below (s₁.setTop (entryFrame m #[(.ref a1)] 1)) tg := fun tg k => pre0 tg (by
      show own_S p e below s₁ m 0 #[rv a1] [] _
      refine XS.aloadN X0.here hx rfl (hb hby d8_0) rfl rfl ?_
      refine st1 _ ?_
      refine XS.aloadN X1.here hx rfl (hb hby d8_4) rfl rfl ?_
      show own_S p e below T1 m 5 #[rv a1] [(.ref a1), (.ref t)] _
      refine st2 _ ?_
      refine XS.iconst X2.here hx rfl (hb hby d8_8) ?_
      refine XS.isub X2.here hx rfl (hb hby d8_9) rfl ?_
      show own_S p e below T2 m 10 #[rv a1] [(.int (0 : Int32)), (.ref t)] _
      refine X2.caload hx (j := (0 : Int32)) (v := (.int x0)) (by rw [e2]; exact Ar3.1) (State.isArrayOf_alike hZ.alike Ar3.2.1) Ar3.2.2 hin3 hat3 (g := (mkF m 10 #[rv a1] [(.int (0 : Int32)), (.ref t)])) rfl rfl (hb hby d8_10) _ ?_
      exact k)
    obtain ⟨fs, hr, hrun, hended, hW, hsame⟩ := X2.leave (v := some (.int (nar .char x0))) (fun h => by rw [Bd.returns] at h; cases h)
    refine ⟨_, _, pre4 _ ?_, hrun, hended, _, _, rfl, ?_, ⟨_, rfl⟩, hW, hsame.mono (by decide) (by decide)⟩
    · show own_S p e below T2 m 11 #[rv a1] [(.int x0)] _
      exact retN X2 hx (t := .char) Bd.returns (by simp) (hb hby d8_11) hr
    · show QLast Z a1 t k [x0] h0 n0 _ T2.heap _
      rw [e2]
      refine ⟨?_, N0, rfl⟩
      rw [hch x0 (by simp)]; rfl
  ·  -- case
    obtain ⟨x0, x1, rfl⟩ := own_len2 hl
    have F_c' : Fld Z h0 a1 "com/example/bitstrata/bitstrata/ArrayContainer" "cardinality" "I" (.int (2 : Int32)) := F_c
    have V_t' : Arv Z h0 t k .char (4 : Int32) [(.int x0), (.int x1), (.int (0 : Int32)), (.int (0 : Int32))] (.int (0 : Int32)) := V_t
    obtain ⟨T5, X5, e5, st5⟩ := getF X0 hx hZ hown (host := "") (Or.inl (hw _ (List.mem_of_getElem? (i := 12) rfl))) Via.refl e0 F_v (g := (mkF m 1 #[rv a1] [(.ref a1)])) rfl rfl (hb hby d8_1)
    obtain ⟨T6, X6, e6, st6⟩ := getF X5 hx hZ hown (host := "") (Or.inl (hw _ (List.mem_of_getElem? (i := 14) rfl))) Via.refl e5 F_c' (g := (mkF m 5 #[rv a1] [(.ref a1), (.ref t)])) rfl rfl (hb hby d8_5)
    obtain ⟨cl7, Ar7, q7, S7, M7, H7, G7⟩ := id V_t'
    have hin7 : ¬ ((1 : Int32) < 0 ∨ cl7.slots.size ≤ ((1 : Int32)).toNatClampNeg) := inb_of S7 ⟨by decide, by decide⟩
    have hat7 : cl7.slots[((1 : Int32)).toNatClampNeg]? = some (.int x1) := H7.at hin7 rfl
    have pre8 : ∀ tg, own_S p e below T6 m 11 #[rv a1] [(.int x1)] tg → Steps p.tables e below (s₁.setTop (entryFrame m #[(.ref a1)] 1)) tg := fun tg k => pre0 tg (by
      show own_S p e below s₁ m 0 #[rv a1] [] _
      refine XS.aloadN X0.here hx rfl (hb hby d8_0) rfl rfl ?_
      refine st5 _ ?_
      refine XS.aloadN X5.here hx rfl (hb hby d8_4) rfl rfl ?_
      show own_S p e below T5 m 5 #[rv a1] [(.ref a1), (.ref t)] _
      refine st6 _ ?_
      refine XS.iconst X6.here hx rfl (hb hby d8_8) ?_
      refine XS.isub X6.here hx rfl (hb hby d8_9) rfl ?_
      show own_S p e below T6 m 10 #[rv a1] [(.int (1 : Int32)), (.ref t)] _
      refine X6.caload hx (j := (1 : Int32)) (v := (.int x1)) (by rw [e6]; exact Ar7.1) (State.isArrayOf_alike hZ.alike Ar7.2.1) Ar7.2.2 hin7 hat7 (g := (mkF m 10 #[rv a1] [(.int (1 : Int32)), (.ref t)])) rfl rfl (hb hby d8_10) _ ?_
      exact k)
    obtain ⟨fs, hr, hrun, hended, hW, hsame⟩ := X6.leave (v := some (.int (nar .char x1))) (fun h => by rw [Bd.returns] at h; cases h)
    refine ⟨_, _, pre8 _ ?_, hrun, hended, _, _, rfl, ?_, ⟨_, rfl⟩, hW, hsame.mono (by decide) (by decide)⟩
    · show own_S p e below T6 m 11 #[rv a1] [(.int x1)] _
      exact retN X6 hx (t := .char) Bd.returns (by simp) (hb hby d8_11) hr
    · show QLast Z a1 t k [x0, x1] h0 n0 _ T6.heap _
      rw [e6]
      refine ⟨?_, N0, rfl⟩
      rw [hch x1 (by simp)]; rfl
  ·  -- case
    obtain ⟨x0, x1, x2, rfl⟩ := own_len3 hl
    have F_c' : Fld Z h0 a1 "com/example/bitstrata/bitstrata/ArrayContainer" "cardinality" "I" (.int (3 : Int32)) := F_c
    have V_t' : Arv Z h0 t k .char (4 : Int32) [(.int x0), (.int x1), (.int x2), (.int (0 : Int32))] (.int (0 : Int32)) := V_t
    obtain ⟨T9, X9, e9, st9⟩ := getF X0 hx hZ hown (host := "") (Or.inl (hw _ (List.mem_of_getElem? (i := 12) rfl))) Via.refl e0 F_v (g := (mkF m 1 #[rv a1] [(.ref a1)])) rfl rfl (hb hby d8_1)
    obtain ⟨T10, X10, e10, st10⟩ := getF X9 hx hZ hown (host := "") (Or.inl (hw _ (List.mem_of_getElem? (i := 14) rfl))) Via.refl e9 F_c' (g := (mkF m 5 #[rv a1] [(.ref a1), (.ref t)])) rfl rfl (hb hby d8_5)
    obtain ⟨cl11, Ar11, q11, S11, M11, H11, G11⟩ := id V_t'
    have hin11 : ¬ ((2 : Int32) < 0 ∨ cl11.slots.size ≤ ((2 : Int32)).toNatClampNeg) := inb_of S11 ⟨by decide, by decide⟩
    have hat11 : cl11.slots[((2 : Int32)).toNatClampNeg]? = some (.int x2) := H11.at hin11 rfl
    have pre12 : ∀ tg, own_S p e below T10 m 11 #[rv a1] [(.int x2)] tg → Steps p.tables e below (s₁.setTop (entryFrame m #[(.ref a1)] 1)) tg := fun tg k => pre0 tg (by
      show own_S p e below s₁ m 0 #[rv a1] [] _
      refine XS.aloadN X0.here hx rfl (hb hby d8_0) rfl rfl ?_
      refine st9 _ ?_
      refine XS.aloadN X9.here hx rfl (hb hby d8_4) rfl rfl ?_
      show own_S p e below T9 m 5 #[rv a1] [(.ref a1), (.ref t)] _
      refine st10 _ ?_
      refine XS.iconst X10.here hx rfl (hb hby d8_8) ?_
      refine XS.isub X10.here hx rfl (hb hby d8_9) rfl ?_
      show own_S p e below T10 m 10 #[rv a1] [(.int (2 : Int32)), (.ref t)] _
      refine X10.caload hx (j := (2 : Int32)) (v := (.int x2)) (by rw [e10]; exact Ar11.1) (State.isArrayOf_alike hZ.alike Ar11.2.1) Ar11.2.2 hin11 hat11 (g := (mkF m 10 #[rv a1] [(.int (2 : Int32)), (.ref t)])) rfl rfl (hb hby d8_10) _ ?_
      exact k)
    obtain ⟨fs, hr, hrun, hended, hW, hsame⟩ := X10.leave (v := some (.int (nar .char x2))) (fun h => by rw [Bd.returns] at h; cases h)
    refine ⟨_, _, pre12 _ ?_, hrun, hended, _, _, rfl, ?_, ⟨_, rfl⟩, hW, hsame.mono (by decide) (by decide)⟩
    · show own_S p e below T10 m 11 #[rv a1] [(.int x2)] _
      exact retN X10 hx (t := .char) Bd.returns (by simp) (hb hby d8_11) hr
    · show QLast Z a1 t k [x0, x1, x2] h0 n0 _ T10.heap _
      rw [e10]
      refine ⟨?_, N0, rfl⟩
      rw [hch x2 (by simp)]; rfl
  ·  -- case
    obtain ⟨x0, x1, x2, x3, rfl⟩ := own_len4 hl
    have F_c' : Fld Z h0 a1 "com/example/bitstrata/bitstrata/ArrayContainer" "cardinality" "I" (.int (4 : Int32)) := F_c
    have V_t' : Arv Z h0 t k .char (4 : Int32) [(.int x0), (.int x1), (.int x2), (.int x3)] (.int (0 : Int32)) := V_t
    obtain ⟨T13, X13, e13, st13⟩ := getF X0 hx hZ hown (host := "") (Or.inl (hw _ (List.mem_of_getElem? (i := 12) rfl))) Via.refl e0 F_v (g := (mkF m 1 #[rv a1] [(.ref a1)])) rfl rfl (hb hby d8_1)
    obtain ⟨T14, X14, e14, st14⟩ := getF X13 hx hZ hown (host := "") (Or.inl (hw _ (List.mem_of_getElem? (i := 14) rfl))) Via.refl e13 F_c' (g := (mkF m 5 #[rv a1] [(.ref a1), (.ref t)])) rfl rfl (hb hby d8_5)
    obtain ⟨cl15, Ar15, q15, S15, M15, H15, G15⟩ := id V_t'
    have hin15 : ¬ ((3 : Int32) < 0 ∨ cl15.slots.size ≤ ((3 : Int32)).toNatClampNeg) := inb_of S15 ⟨by decide, by decide⟩
    have hat15 : cl15.slots[((3 : Int32)).toNatClampNeg]? = some (.int x3) := H15.at hin15 rfl
    have pre16 : ∀ tg, own_S p e below T14 m 11 #[rv a1] [(.int x3)] tg → Steps p.tables e below (s₁.setTop (entryFrame m #[(.ref a1)] 1)) tg := fun tg k => pre0 tg (by
      show own_S p e below s₁ m 0 #[rv a1] [] _
      refine XS.aloadN X0.here hx rfl (hb hby d8_0) rfl rfl ?_
      refine st13 _ ?_
      refine XS.aloadN X13.here hx rfl (hb hby d8_4) rfl rfl ?_
      show own_S p e below T13 m 5 #[rv a1] [(.ref a1), (.ref t)] _
      refine st14 _ ?_
      refine XS.iconst X14.here hx rfl (hb hby d8_8) ?_
      refine XS.isub X14.here hx rfl (hb hby d8_9) rfl ?_
      show own_S p e below T14 m 10 #[rv a1] [(.int (3 : Int32)), (.ref t)] _
      refine X14.caload hx (j := (3 : Int32)) (v := (.int x3)) (by rw [e14]; exact Ar15.1) (State.isArrayOf_alike hZ.alike Ar15.2.1) Ar15.2.2 hin15 hat15 (g := (mkF m 10 #[rv a1] [(.int (3 : Int32)), (.ref t)])) rfl rfl (hb hby d8_10) _ ?_
      exact k)
    obtain ⟨fs, hr, hrun, hended, hW, hsame⟩ := X14.leave (v := some (.int (nar .char x3))) (fun h => by rw [Bd.returns] at h; cases h)
    refine ⟨_, _, pre16 _ ?_, hrun, hended, _, _, rfl, ?_, ⟨_, rfl⟩, hW, hsame.mono (by decide) (by decide)⟩
    · show own_S p e below T14 m 11 #[rv a1] [(.int x3)] _
      exact retN X14 hx (t := .char) Bd.returns (by simp) (hb hby d8_11) hr
    · show QLast Z a1 t k [x0, x1, x2, x3] h0 n0 _ T14.heap _
      rw [e14]
      refine ⟨?_, N0, rfl⟩
      rw [hch x3 (by simp)]; rfl
  ·  -- case
    obtain ⟨x0, x1, x2, x3, x4, rfl⟩ := own_len5 hl
    have F_c' : Fld Z h0 a1 "com/example/bitstrata/bitstrata/ArrayContainer" "cardinality" "I" (.int (5 : Int32)) := F_c
    have V_t' : Arv Z h0 t k .char (8 : Int32) [(.int x0), (.int x1), (.int x2), (.int x3), (.int x4), (.int (0 : Int32)), (.int (0 : Int32)), (.int (0 : Int32))] (.int (0 : Int32)) := V_t
    obtain ⟨T17, X17, e17, st17⟩ := getF X0 hx hZ hown (host := "") (Or.inl (hw _ (List.mem_of_getElem? (i := 12) rfl))) Via.refl e0 F_v (g := (mkF m 1 #[rv a1] [(.ref a1)])) rfl rfl (hb hby d8_1)
    obtain ⟨T18, X18, e18, st18⟩ := getF X17 hx hZ hown (host := "") (Or.inl (hw _ (List.mem_of_getElem? (i := 14) rfl))) Via.refl e17 F_c' (g := (mkF m 5 #[rv a1] [(.ref a1), (.ref t)])) rfl rfl (hb hby d8_5)
    obtain ⟨cl19, Ar19, q19, S19, M19, H19, G19⟩ := id V_t'
    have hin19 : ¬ ((4 : Int32) < 0 ∨ cl19.slots.size ≤ ((4 : Int32)).toNatClampNeg) := inb_of S19 ⟨by decide, by decide⟩
    have hat19 : cl19.slots[((4 : Int32)).toNatClampNeg]? = some (.int x4) := H19.at hin19 rfl
    have pre20 : ∀ tg, own_S p e below T18 m 11 #[rv a1] [(.int x4)] tg → Steps p.tables e below (s₁.setTop (entryFrame m #[(.ref a1)] 1)) tg := fun tg k => pre0 tg (by
      show own_S p e below s₁ m 0 #[rv a1] [] _
      refine XS.aloadN X0.here hx rfl (hb hby d8_0) rfl rfl ?_
      refine st17 _ ?_
      refine XS.aloadN X17.here hx rfl (hb hby d8_4) rfl rfl ?_
      show own_S p e below T17 m 5 #[rv a1] [(.ref a1), (.ref t)] _
      refine st18 _ ?_
      refine XS.iconst X18.here hx rfl (hb hby d8_8) ?_
      refine XS.isub X18.here hx rfl (hb hby d8_9) rfl ?_
      show own_S p e below T18 m 10 #[rv a1] [(.int (4 : Int32)), (.ref t)] _
      refine X18.caload hx (j := (4 : Int32)) (v := (.int x4)) (by rw [e18]; exact Ar19.1) (State.isArrayOf_alike hZ.alike Ar19.2.1) Ar19.2.2 hin19 hat19 (g := (mkF m 10 #[rv a1] [(.int (4 : Int32)), (.ref t)])) rfl rfl (hb hby d8_10) _ ?_
      exact k)
    obtain ⟨fs, hr, hrun, hended, hW, hsame⟩ := X18.leave (v := some (.int (nar .char x4))) (fun h => by rw [Bd.returns] at h; cases h)
    refine ⟨_, _, pre20 _ ?_, hrun, hended, _, _, rfl, ?_, ⟨_, rfl⟩, hW, hsame.mono (by decide) (by decide)⟩
    · show own_S p e below T18 m 11 #[rv a1] [(.int x4)] _
      exact retN X18 hx (t := .char) Bd.returns (by simp) (hb hby d8_11) hr
    · show QLast Z a1 t k [x0, x1, x2, x3, x4] h0 n0 _ T18.heap _
      rw [e18]
      refine ⟨?_, N0, rfl⟩
      rw [hch x4 (by simp)]; rfl
theorem own_last_mem : ∀ (xs : List Int32), 1 ≤ xs.length → own_last xs ∈ xs
  | [], h => absurd h (by decide)
  | [x], _ => by simp [own_last]
  | x :: y :: r, _ => by
    have := own_last_mem (y :: r) (by simp)
    simp only [own_last]
    exact List.mem_cons_of_mem _ this
theorem own_last_le : ∀ (xs : List Int32), own_srt xs → ∀ x ∈ xs, ¬ own_last xs < x
  | [], _, x, h => by cases h
  | [y], _, x, h => by
    cases List.mem_singleton.mp h
    exact own_irr _
  | z :: y :: r, hs, x, h => by
    have ih := own_last_le (y :: r) hs.2
    simp only [own_last]
    rcases List.mem_cons.mp h with rfl | h
    · intro q
      exact ih y (by simp) (own_tr q hs.1)
    · exact ih x h
def own_top (M : Int32) (xs : List Int32) : Prop := M ∈ xs ∧ ∀ x ∈ xs, ¬ M < x
theorem own_top_last {M : Int32} {xs : List Int32} (h : own_top M xs) (hs : own_srt xs) (hl : 1 ≤ xs.length) : own_last xs = M := own_eq (own_last_le xs hs M h.1) (h.2 _ (own_last_mem xs hl))
theorem own_top_add {M key : Int32} {xs ys : List Int32} (h : own_top M xs) (hm : ∀ x, x ∈ ys ↔ (x ∈ xs ∨ x = key)) : own_top (own_max M key) ys := by
  unfold own_max
  split
  · rename_i q
    refine ⟨(hm _).mpr (Or.inr rfl), fun x hx => ?_⟩
    rcases (hm _).mp hx with hx | rfl
    · exact fun z => h.2 x hx (own_tr q z)
    · exact own_irr _
  · rename_i q
    refine ⟨(hm _).mpr (Or.inl h.1), fun x hx => ?_⟩
    rcases (hm _).mp hx with hx | rfl
    · exact h.2 x hx
    · exact q
theorem own_top1 (x : Int32) : own_top x [x] := ⟨by simp, fun y hy => by cases List.mem_singleton.mp hy; exact own_irr _⟩
theorem own_k (k : Int32) : ((k &&& (2147483647 : Int32)) % (5 : Int32)) = 0 ∨ ((k &&& (2147483647 : Int32)) % (5 : Int32)) = 1 ∨ ((k &&& (2147483647 : Int32)) % (5 : Int32)) = 2 ∨ ((k &&& (2147483647 : Int32)) % (5 : Int32)) = 3 ∨ ((k &&& (2147483647 : Int32)) % (5 : Int32)) = 4 := by
  have e1 := c_mask k (2147483647 : Int32) 31 (by decide) (by decide)
  have e2 := (c_irem (k &&& (2147483647 : Int32)) 5 5 (by decide)).1 (by omega)
  have l0 : (0 : Int32).toInt = 0 := by decide
  have l1 : (1 : Int32).toInt = 1 := by decide
  have l2 : (2 : Int32).toInt = 2 := by decide
  have l3 : (3 : Int32).toInt = 3 := by decide
  have l4 : (4 : Int32).toInt = 4 := by decide
  have l5 : (5 : Int32).toInt = 5 := by decide
  simp only [← Int32.toInt_inj, l0, l1, l2, l3, l4] at *
  omega
theorem pn_2 : plainName "com/example/bitstrata/bitstrata/ArrayContainerLastPinLaw" = true := by first | (simp [plainName, overriddenIn]; done) | decide +kernel
theorem ef_0 (m : MethodId) (i1 : Int32) (i2 : Int32) (i3 : Int32) (i4 : Int32) (i5 : Int32) (i6 : Int32) : entryFrame m #[(.int i1), (.int i2), (.int i3), (.int i4), (.int i5), (.int i6)] maxLocals = mkF m 0 #[iv i1, iv i2, iv i3, iv i4, iv i5, iv i6, .unset, .unset, .unset, .unset, .unset, .unset, .unset, .unset, .unset] [] := by first | (simp [entryFrame, mkF, argsToLocals, Value.category, maxLocals]; done) | rfl
def Q0 (Z : State) (i1 : Int32) (i2 : Int32) (i3 : Int32) (i4 : Int32) (i5 : Int32) (i6 : Int32) (h0 : Heap) (n0 : Nat) (v : Option Value) (h : Heap) (L : List Loc) : Prop := v = some (.int 1) ∧ Fr n0 L
theorem pd_4 : parseMethodDescriptor "(C)V" = some ⟨[.char], none⟩ := by decide +kernel
theorem pd_5 : parseMethodDescriptor "()C" = some ⟨[], some .char⟩ := by decide +kernel
theorem pd_6 : parseMethodDescriptor "(C)Lcom/example/bitstrata/bitstrata/Container;" = some ⟨[.char], some (.object "com/example/bitstrata/bitstrata/Container")⟩ := by decide +kernel
set_option maxRecDepth 65536 in
set_option maxHeartbeats 40000000 in
theorem rm0 (l : Launch) (Z : State) (a0 : Array Value) (hw : ∀ d ∈ tables_1, d.before a0 Z = true) (ws : List Jvm.Cond) (i1 : Int32) (i2 : Int32) (i3 : Int32) (i4 : Int32) (i5 : Int32) (i6 : Int32) (h0 : Heap) (n0 : Nat) (Z0 : n0 ≤ h0.size)  :
    MetFree l x (head1 (Jvm.Cond.code x code maxLocals ret :: ws) room_1) (fun a U => a = #[(.int i1), (.int i2), (.int i3), (.int i4), (.int i5), (.int i6)] ∧ Z.Warmed39 U.vm ∧ U.heap = h0) (fun _ _ _ _ _ => True) (fun _ U o U' => ∃ v L, o = .returned v ∧ Q0 Z i1 i2 i3 i4 i5 i6 h0 n0 v U'.heap L ∧ FrameEnd U o U' L room_1.cells room_1.slots) := by
  refine MetFree.of_bodySF (plainFor_of_name pn_2) hisR ?_
  intro p e s m args below meth c s₁ Bd hml0 hP hK
  obtain ⟨rfl, hZ, hh⟩ := hP
  have hx := Bd.exec
  have hby := Bd.bytes
  have hml : c.maxLocals = 15 := hml0
  have hown : s.vm.findClass "com/example/bitstrata/bitstrata/ArrayContainerLastPinLaw" = some m.cls := findClass_of_methodNamed Bd.named
  have hnm := (name_of_methodNamed Bd.named Bd.method).1
  have X0 : Stand p l e room_1 s m #[(.int i1), (.int i2), (.int i3), (.int i4), (.int i5), (.int i6)] below meth c s₁ [] 0 0 := Stand.of_body Bd
  have e0 : s₁.heap = h0 := by rw [← hh, Bd.state]; rfl
  have N0 := Fr.nil n0
  have pre0 : ∀ tg, Steps p.tables e below (s₁.setTop (mkF m 0 #[iv i1, iv i2, iv i3, iv i4, iv i5, iv i6, .unset, .unset, .unset, .unset, .unset, .unset, .unset, .unset, .unset] [])) tg → Steps p.tables e below (s₁.setTop (entryFrame m #[(.int i1), (.int i2), (.int i3), (.int i4), (.int i5), (.int i6)] maxLocals)) tg := fun tg k => castTop (ef_0 m i1 i2 i3 i4 i5 i6) k
  have pre1 : ∀ tg, own_S p e below s₁ m 45 #[iv i1, iv i2, iv i3, iv i4, iv i5, iv i6, iv ((i1 &&& (65535 : Int32)).toUInt32.toUInt16.toUInt32.toInt32), iv ((i2 &&& (65535 : Int32)).toUInt32.toUInt16.toUInt32.toInt32), iv ((i3 &&& (65535 : Int32)).toUInt32.toUInt16.toUInt32.toInt32), iv ((i4 &&& (65535 : Int32)).toUInt32.toUInt16.toUInt32.toInt32), iv ((i5 &&& (65535 : Int32)).toUInt32.toUInt16.toUInt32.toInt32), iv ((i6 &&& (2147483647 : Int32)) % (5 : Int32)), .unset, .unset, .unset] [] tg → Steps p.tables e below (s₁.setTop (entryFrame m #[(.int i1), (.int i2), (.int i3), (.int i4), (.int i5), (.int i6)] maxLocals)) tg := fun tg k => pre0 tg (by
    show own_S p e below s₁ m 0 #[iv i1, iv i2, iv i3, iv i4, iv i5, iv i6, .unset, .unset, .unset, .unset, .unset, .unset, .unset, .unset, .unset] [] _
    refine XS.iloadN X0.here hx rfl (hb hby at_0) rfl ?_
    refine X0.ldcInt hx hown (mvT hZ (hw _ (List.mem_of_getElem? (i := 0) rfl))) (g := (mkF m 1 #[iv i1, iv i2, iv i3, iv i4, iv i5, iv i6, .unset, .unset, .unset, .unset, .unset, .unset, .unset, .unset, .unset] [(.int i1)])) rfl (hb hby at_1) _ ?_
    refine XS.iand X0.here hx rfl (hb hby at_3) rfl ?_
    show own_S p e below s₁ m 4 #[iv i1, iv i2, iv i3, iv i4, iv i5, iv i6, .unset, .unset, .unset, .unset, .unset, .unset, .unset, .unset, .unset] [(.int (i1 &&& (65535 : Int32)))] _
    refine XS.i2c X0.here hx rfl (hb hby at_4) rfl ?_
    refine XS.istore X0.here hx rfl (hb hby at_5) rfl (l' := #[iv i1, iv i2, iv i3, iv i4, iv i5, iv i6, iv ((i1 &&& (65535 : Int32)).toUInt32.toUInt16.toUInt32.toInt32), .unset, .unset, .unset, .unset, .unset, .unset, .unset, .unset]) rfl ?_
    refine XS.iloadN X0.here hx rfl (hb hby at_7) rfl ?_
    show own_S p e below s₁ m 8 #[iv i1, iv i2, iv i3, iv i4, iv i5, iv i6, iv ((i1 &&& (65535 : Int32)).toUInt32.toUInt16.toUInt32.toInt32), .unset, .unset, .unset, .unset, .unset, .unset, .unset, .unset] [(.int i2)] _
    refine X0.ldcInt hx hown (mvT hZ (hw _ (List.mem_of_getElem? (i := 0) rfl))) (g := (mkF m 8 #[iv i1, iv i2, iv i3, iv i4, iv i5, iv i6, iv ((i1 &&& (65535 : Int32)).toUInt32.toUInt16.toUInt32.toInt32), .unset, .unset, .unset, .unset, .unset, .unset, .unset, .unset] [(.int i2)])) rfl (hb hby at_8) _ ?_
    refine XS.iand X0.here hx rfl (hb hby at_10) rfl ?_
    refine XS.i2c X0.here hx rfl (hb hby at_11) rfl ?_
    show own_S p e below s₁ m 12 #[iv i1, iv i2, iv i3, iv i4, iv i5, iv i6, iv ((i1 &&& (65535 : Int32)).toUInt32.toUInt16.toUInt32.toInt32), .unset, .unset, .unset, .unset, .unset, .unset, .unset, .unset] [(.int ((i2 &&& (65535 : Int32)).toUInt32.toUInt16.toUInt32.toInt32))] _
    refine XS.istore X0.here hx rfl (hb hby at_12) rfl (l' := #[iv i1, iv i2, iv i3, iv i4, iv i5, iv i6, iv ((i1 &&& (65535 : Int32)).toUInt32.toUInt16.toUInt32.toInt32), iv ((i2 &&& (65535 : Int32)).toUInt32.toUInt16.toUInt32.toInt32), .unset, .unset, .unset, .unset, .unset, .unset, .unset]) rfl ?_
    refine XS.iloadN X0.here hx rfl (hb hby at_14) rfl ?_
    refine X0.ldcInt hx hown (mvT hZ (hw _ (List.mem_of_getElem? (i := 0) rfl))) (g := (mkF m 15 #[iv i1, iv i2, iv i3, iv i4, iv i5, iv i6, iv ((i1 &&& (65535 : Int32)).toUInt32.toUInt16.toUInt32.toInt32), iv ((i2 &&& (65535 : Int32)).toUInt32.toUInt16.toUInt32.toInt32), .unset, .unset, .unset, .unset, .unset, .unset, .unset] [(.int i3)])) rfl (hb hby at_15) _ ?_
    show own_S p e below s₁ m 17 #[iv i1, iv i2, iv i3, iv i4, iv i5, iv i6, iv ((i1 &&& (65535 : Int32)).toUInt32.toUInt16.toUInt32.toInt32), iv ((i2 &&& (65535 : Int32)).toUInt32.toUInt16.toUInt32.toInt32), .unset, .unset, .unset, .unset, .unset, .unset, .unset] [(.int (65535 : Int32)), (.int i3)] _
    refine XS.iand X0.here hx rfl (hb hby at_17) rfl ?_
    refine XS.i2c X0.here hx rfl (hb hby at_18) rfl ?_
    refine XS.istore X0.here hx rfl (hb hby at_19) rfl (l' := #[iv i1, iv i2, iv i3, iv i4, iv i5, iv i6, iv ((i1 &&& (65535 : Int32)).toUInt32.toUInt16.toUInt32.toInt32), iv ((i2 &&& (65535 : Int32)).toUInt32.toUInt16.toUInt32.toInt32), iv ((i3 &&& (65535 : Int32)).toUInt32.toUInt16.toUInt32.toInt32), .unset, .unset, .unset, .unset, .unset, .unset]) rfl ?_
    show own_S p e below s₁ m 21 #[iv i1, iv i2, iv i3, iv i4, iv i5, iv i6, iv ((i1 &&& (65535 : Int32)).toUInt32.toUInt16.toUInt32.toInt32), iv ((i2 &&& (65535 : Int32)).toUInt32.toUInt16.toUInt32.toInt32), iv ((i3 &&& (65535 : Int32)).toUInt32.toUInt16.toUInt32.toInt32), .unset, .unset, .unset, .unset, .unset, .unset] [] _
    refine XS.iloadN X0.here hx rfl (hb hby at_21) rfl ?_
    refine X0.ldcInt hx hown (mvT hZ (hw _ (List.mem_of_getElem? (i := 0) rfl))) (g := (mkF m 22 #[iv i1, iv i2, iv i3, iv i4, iv i5, iv i6, iv ((i1 &&& (65535 : Int32)).toUInt32.toUInt16.toUInt32.toInt32), iv ((i2 &&& (65535 : Int32)).toUInt32.toUInt16.toUInt32.toInt32), iv ((i3 &&& (65535 : Int32)).toUInt32.toUInt16.toUInt32.toInt32), .unset, .unset, .unset, .unset, .unset, .unset] [(.int i4)])) rfl (hb hby at_22) _ ?_
    refine XS.iand X0.here hx rfl (hb hby at_24) rfl ?_
    show own_S p e below s₁ m 25 #[iv i1, iv i2, iv i3, iv i4, iv i5, iv i6, iv ((i1 &&& (65535 : Int32)).toUInt32.toUInt16.toUInt32.toInt32), iv ((i2 &&& (65535 : Int32)).toUInt32.toUInt16.toUInt32.toInt32), iv ((i3 &&& (65535 : Int32)).toUInt32.toUInt16.toUInt32.toInt32), .unset, .unset, .unset, .unset, .unset, .unset] [(.int (i4 &&& (65535 : Int32)))] _
    refine XS.i2c X0.here hx rfl (hb hby at_25) rfl ?_
    refine XS.istore X0.here hx rfl (hb hby at_26) rfl (l' := #[iv i1, iv i2, iv i3, iv i4, iv i5, iv i6, iv ((i1 &&& (65535 : Int32)).toUInt32.toUInt16.toUInt32.toInt32), iv ((i2 &&& (65535 : Int32)).toUInt32.toUInt16.toUInt32.toInt32), iv ((i3 &&& (65535 : Int32)).toUInt32.toUInt16.toUInt32.toInt32), iv ((i4 &&& (65535 : Int32)).toUInt32.toUInt16.toUInt32.toInt32), .unset, .unset, .unset, .unset, .unset]) rfl ?_
    refine XS.iload X0.here hx rfl (hb hby at_28) rfl ?_
    show own_S p e below s₁ m 30 #[iv i1, iv i2, iv i3, iv i4, iv i5, iv i6, iv ((i1 &&& (65535 : Int32)).toUInt32.toUInt16.toUInt32.toInt32), iv ((i2 &&& (65535 : Int32)).toUInt32.toUInt16.toUInt32.toInt32), iv ((i3 &&& (65535 : Int32)).toUInt32.toUInt16.toUInt32.toInt32), iv ((i4 &&& (65535 : Int32)).toUInt32.toUInt16.toUInt32.toInt32), .unset, .unset, .unset, .unset, .unset] [(.int i5)] _
    refine X0.ldcInt hx hown (mvT hZ (hw _ (List.mem_of_getElem? (i := 0) rfl))) (g := (mkF m 30 #[iv i1, iv i2, iv i3, iv i4, iv i5, iv i6, iv ((i1 &&& (65535 : Int32)).toUInt32.toUInt16.toUInt32.toInt32), iv ((i2 &&& (65535 : Int32)).toUInt32.toUInt16.toUInt32.toInt32), iv ((i3 &&& (65535 : Int32)).toUInt32.toUInt16.toUInt32.toInt32), iv ((i4 &&& (65535 : Int32)).toUInt32.toUInt16.toUInt32.toInt32), .unset, .unset, .unset, .unset, .unset] [(.int i5)])) rfl (hb hby at_30) _ ?_
    refine XS.iand X0.here hx rfl (hb hby at_32) rfl ?_
    refine XS.i2c X0.here hx rfl (hb hby at_33) rfl ?_
    show own_S p e below s₁ m 34 #[iv i1, iv i2, iv i3, iv i4, iv i5, iv i6, iv ((i1 &&& (65535 : Int32)).toUInt32.toUInt16.toUInt32.toInt32), iv ((i2 &&& (65535 : Int32)).toUInt32.toUInt16.toUInt32.toInt32), iv ((i3 &&& (65535 : Int32)).toUInt32.toUInt16.toUInt32.toInt32), iv ((i4 &&& (65535 : Int32)).toUInt32.toUInt16.toUInt32.toInt32), .unset, .unset, .unset, .unset, .unset] [(.int ((i5 &&& (65535 : Int32)).toUInt32.toUInt16.toUInt32.toInt32))] _
    refine XS.istore X0.here hx rfl (hb hby at_34) rfl (l' := #[iv i1, iv i2, iv i3, iv i4, iv i5, iv i6, iv ((i1 &&& (65535 : Int32)).toUInt32.toUInt16.toUInt32.toInt32), iv ((i2 &&& (65535 : Int32)).toUInt32.toUInt16.toUInt32.toInt32), iv ((i3 &&& (65535 : Int32)).toUInt32.toUInt16.toUInt32.toInt32), iv ((i4 &&& (65535 : Int32)).toUInt32.toUInt16.toUInt32.toInt32), iv ((i5 &&& (65535 : Int32)).toUInt32.toUInt16.toUInt32.toInt32), .unset, .unset, .unset, .unset]) rfl ?_
    refine XS.iload X0.here hx rfl (hb hby at_36) rfl ?_
    refine X0.ldcInt hx hown (mvT hZ (hw _ (List.mem_of_getElem? (i := 1) rfl))) (g := (mkF m 38 #[iv i1, iv i2, iv i3, iv i4, iv i5, iv i6, iv ((i1 &&& (65535 : Int32)).toUInt32.toUInt16.toUInt32.toInt32), iv ((i2 &&& (65535 : Int32)).toUInt32.toUInt16.toUInt32.toInt32), iv ((i3 &&& (65535 : Int32)).toUInt32.toUInt16.toUInt32.toInt32), iv ((i4 &&& (65535 : Int32)).toUInt32.toUInt16.toUInt32.toInt32), iv ((i5 &&& (65535 : Int32)).toUInt32.toUInt16.toUInt32.toInt32), .unset, .unset, .unset, .unset] [(.int i6)])) rfl (hb hby at_38) _ ?_
    show own_S p e below s₁ m 40 #[iv i1, iv i2, iv i3, iv i4, iv i5, iv i6, iv ((i1 &&& (65535 : Int32)).toUInt32.toUInt16.toUInt32.toInt32), iv ((i2 &&& (65535 : Int32)).toUInt32.toUInt16.toUInt32.toInt32), iv ((i3 &&& (65535 : Int32)).toUInt32.toUInt16.toUInt32.toInt32), iv ((i4 &&& (65535 : Int32)).toUInt32.toUInt16.toUInt32.toInt32), iv ((i5 &&& (65535 : Int32)).toUInt32.toUInt16.toUInt32.toInt32), .unset, .unset, .unset, .unset] [(.int (2147483647 : Int32)), (.int i6)] _
    refine XS.iand X0.here hx rfl (hb hby at_40) rfl ?_
    refine XS.iconst X0.here hx rfl (hb hby at_41) ?_
    refine iremM X0 hx rfl (hb hby at_42) rfl (by decide) ?_
    show own_S p e below s₁ m 43 #[iv i1, iv i2, iv i3, iv i4, iv i5, iv i6, iv ((i1 &&& (65535 : Int32)).toUInt32.toUInt16.toUInt32.toInt32), iv ((i2 &&& (65535 : Int32)).toUInt32.toUInt16.toUInt32.toInt32), iv ((i3 &&& (65535 : Int32)).toUInt32.toUInt16.toUInt32.toInt32), iv ((i4 &&& (65535 : Int32)).toUInt32.toUInt16.toUInt32.toInt32), iv ((i5 &&& (65535 : Int32)).toUInt32.toUInt16.toUInt32.toInt32), .unset, .unset, .unset, .unset] [(.int ((i6 &&& (2147483647 : Int32)) % (5 : Int32)))] _
    refine XS.istore X0.here hx rfl (hb hby at_43) rfl (l' := #[iv i1, iv i2, iv i3, iv i4, iv i5, iv i6, iv ((i1 &&& (65535 : Int32)).toUInt32.toUInt16.toUInt32.toInt32), iv ((i2 &&& (65535 : Int32)).toUInt32.toUInt16.toUInt32.toInt32), iv ((i3 &&& (65535 : Int32)).toUInt32.toUInt16.toUInt32.toInt32), iv ((i4 &&& (65535 : Int32)).toUInt32.toUInt16.toUInt32.toInt32), iv ((i5 &&& (65535 : Int32)).toUInt32.toUInt16.toUInt32.toInt32), iv ((i6 &&& (2147483647 : Int32)) % (5 : Int32)), .unset, .unset, .unset]) rfl ?_
    exact k)
  obtain ⟨c0, ec0⟩ : ∃ z, z = ((i1 &&& (65535 : Int32)).toUInt32.toUInt16.toUInt32.toInt32) := ⟨_, rfl⟩
  have hk0 : nar .char c0 = c0 := by rw [ec0]; exact own_nn _
  rw [← ec0] at pre1
  obtain ⟨c1, ec1⟩ : ∃ z, z = ((i2 &&& (65535 : Int32)).toUInt32.toUInt16.toUInt32.toInt32) := ⟨_, rfl⟩
  have hk1 : nar .char c1 = c1 := by rw [ec1]; exact own_nn _
  rw [← ec1] at pre1
  obtain ⟨c2, ec2⟩ : ∃ z, z = ((i3 &&& (65535 : Int32)).toUInt32.toUInt16.toUInt32.toInt32) := ⟨_, rfl⟩
  have hk2 : nar .char c2 = c2 := by rw [ec2]; exact own_nn _
  rw [← ec2] at pre1
  obtain ⟨c3, ec3⟩ : ∃ z, z = ((i4 &&& (65535 : Int32)).toUInt32.toUInt16.toUInt32.toInt32) := ⟨_, rfl⟩
  have hk3 : nar .char c3 = c3 := by rw [ec3]; exact own_nn _
  rw [← ec3] at pre1
  obtain ⟨c4, ec4⟩ : ∃ z, z = ((i5 &&& (65535 : Int32)).toUInt32.toUInt16.toUInt32.toInt32) := ⟨_, rfl⟩
  have hk4 : nar .char c4 = c4 := by rw [ec4]; exact own_nn _
  rw [← ec4] at pre1
  have hk0' := own_k i6
  obtain ⟨kv, ekv⟩ : ∃ z, z = ((i6 &&& (2147483647 : Int32)) % (5 : Int32)) := ⟨_, rfl⟩
  rw [← ekv] at hk0' pre1
  obtain ⟨T2, h2, X2, e2, E2, A2, D2, -, st2⟩ := newO X0 hx hZ hown (hw _ (List.mem_of_getElem? (i := 2) rfl)) (hw _ (List.mem_of_getElem? (i := 3) rfl)) (hw _ (List.mem_of_getElem? (i := 4) rfl)) e0 (g := (mkF m 45 #[iv i1, iv i2, iv i3, iv i4, iv i5, iv i6, iv c0, iv c1, iv c2, iv c3, iv c4, iv kv, .unset, .unset, .unset] [])) rfl (hb hby at_45) (by decide) (by decide)
  obtain ⟨b2, g2⟩ : ∃ z, z = h0.size := ⟨_, rfl⟩
  rw [← g2] at A2 D2 st2
  have g_b2 : n0 ≤ b2 := Nat.le_trans Z0 (Nat.le_of_eq g2.symm)
  have sz_b2 : h0.size ≤ b2 := Nat.le_trans ((Keep.refl h0 [])).1 (Nat.le_of_eq g2.symm)
  have F_values_b2 : Fld Z h2 b2 "com/example/bitstrata/bitstrata/ArrayContainer" "values" "[C" .null := D2 (Or.inl (hw _ (List.mem_of_getElem? (i := 13) rfl))) (ty := (.array .char)) (by decide)
  have F_cardinality_b2 : Fld Z h2 b2 "com/example/bitstrata/bitstrata/ArrayContainer" "cardinality" "I" (.int (0 : Int32)) := D2 (Or.inl (hw _ (List.mem_of_getElem? (i := 15) rfl))) (ty := .int) (by decide)
  have Zs4 : n0 ≤ h2.size := (Nat.le_trans Z0 E2.1)
  obtain ⟨_, _, ⟨T3, L3, k3, n3⟩, -, X3, ⟨Lc3, hQ3, l3, y3, z3⟩, st3⟩ := X2.specialBack hx (y := (⟨"com/example/bitstrata/bitstrata/ArrayContainer", "<init>", "(C)V"⟩ : MethodName)) rfl hown (mvT hZ (hw _ (List.mem_of_getElem? (i := 5) rfl))) (mvT hZ (hw _ (List.mem_of_getElem? (i := 6) rfl))) (mvT hZ (hw _ (List.mem_of_getElem? (i := 7) rfl))) (by decide) (backOf (W := 1) (rmI l Z a0 hw [] b2 c0 h2 n0 Zs4 A2 g_b2 F_values_b2 F_cardinality_b2 hk0) hZ (hw _ (List.mem_of_getElem? (i := 7) rfl)) (hw _ (List.mem_of_getElem? (i := 4) rfl)) (by decide) (by decide)) (g := (mkF m 51 #[iv i1, iv i2, iv i3, iv i4, iv i5, iv i6, iv c0, iv c1, iv c2, iv c3, iv c4, iv kv, .unset, .unset, .unset] [(.int c0), (.ref b2), (.ref b2)])) rfl (by rw [hml]; rfl) (Steps.refl _) (a := b2) (argsL := [(.int c0)]) (rest := [(.ref b2)]) (lenOf pd_4 rfl) rfl (by show 2 * 0 + _ ≤ _; exact Nat.le_of_eq rfl) (hb hby at_51) (fun _ _ => ⟨rfl, e2, (by decide : 1 + 1 ≤ _), (by decide : 2 + 4 ≤ _)⟩)
  dsimp only [Pt.U, Pt.locs, Pt.cells, Pt.slots] at X3 l3 y3 z3 st3 hQ3
  subst l3 y3 z3
  obtain ⟨t3, k_3, rfl, N3q, K3, E3c, Fv3, Fc3, V_t3, g_t3, sz_t3⟩ := hQ3
  have N3 := Fr.app N0 N3q
  have ne_t3 : t3 ≠ b2 := Nat.ne_of_gt (Nat.lt_of_lt_of_le A2.lt sz_t3)
  have hlen0 : [c0].length = 1 := rfl
  have Fcb3 : Fld Z T3.heap b2 "com/example/bitstrata/bitstrata/ArrayContainer" "cardinality" "I" (.int (Int32.ofNat [c0].length)) := Fc3
  have Vb3 : Arv Z T3.heap t3 k_3 .char (own_z [c0]) (own_vs [c0]) (.int 0) := V_t3
  have pre5 : ∀ tg, own_S p e below T3 m 60 #[iv i1, iv i2, iv i3, iv i4, iv i5, iv i6, iv c0, iv c1, iv c2, iv c3, iv c4, iv kv, rv b2, iv c0, .unset] [] tg → Steps p.tables e below (s₁.setTop (entryFrame m #[(.int i1), (.int i2), (.int i3), (.int i4), (.int i5), (.int i6)] maxLocals)) tg := fun tg k => pre1 tg (by
    show own_S p e below s₁ m 45 #[iv i1, iv i2, iv i3, iv i4, iv i5, iv i6, iv c0, iv c1, iv c2, iv c3, iv c4, iv kv, .unset, .unset, .unset] [] _
    refine st2 _ ?_
    refine XS.dup X2.here hx rfl (hb hby at_48) rfl rfl ?_
    refine XS.iload X2.here hx rfl (hb hby at_49) rfl ?_
    show own_S p e below T2 m 51 #[iv i1, iv i2, iv i3, iv i4, iv i5, iv i6, iv c0, iv c1, iv c2, iv c3, iv c4, iv kv, .unset, .unset, .unset] [(.int c0), (.ref b2), (.ref b2)] _
    refine st3.trans ?_
    refine XS.astore X3.here hx rfl (hb hby at_54) rfl rfl (l' := #[iv i1, iv i2, iv i3, iv i4, iv i5, iv i6, iv c0, iv c1, iv c2, iv c3, iv c4, iv kv, rv b2, .unset, .unset]) rfl ?_
    refine XS.iload X3.here hx rfl (hb hby at_56) rfl ?_
    show own_S p e below T3 m 58 #[iv i1, iv i2, iv i3, iv i4, iv i5, iv i6, iv c0, iv c1, iv c2, iv c3, iv c4, iv kv, rv b2, .unset, .unset] [(.int c0)] _
    refine XS.istore X3.here hx rfl (hb hby at_58) rfl (l' := #[iv i1, iv i2, iv i3, iv i4, iv i5, iv i6, iv c0, iv c1, iv c2, iv c3, iv c4, iv kv, rv b2, iv c0, .unset]) rfl ?_
    exact k)
  rcases hk0' with rfl | rfl | rfl | rfl | rfl
  ·  -- case
    have Zs7 : n0 ≤ T3.heap.size := (Nat.le_trans Zs4 K3.1)
    obtain ⟨cq6, kq6, q6a, q6b, q6c⟩ := isOf hZ rfl E3c
    obtain ⟨_, _, ⟨T6, L6, k6, n6⟩, -, X6, ⟨Lc6, hQ6, l6, y6, z6⟩, st6⟩ := X3.interfaceBack hx (xi := (⟨"com/example/bitstrata/bitstrata/Container", "last", "()C"⟩ : MethodName)) (y := (⟨"com/example/bitstrata/bitstrata/ArrayContainer", "last", "()C"⟩ : MethodName)) hown (mvT hZ (hw _ (List.mem_of_getElem? (i := 43) rfl))) (mvT hZ (hw _ (List.mem_of_getElem? (i := 44) rfl))) (mvT hZ (hw _ (List.mem_of_getElem? (i := 45) rfl))) (mvT hZ (hw _ (List.mem_of_getElem? (i := 46) rfl))) (mvT hZ (hw _ (List.mem_of_getElem? (i := 47) rfl))) (mvT hZ (hw _ (List.mem_of_getElem? (i := 48) rfl))) (mvT hZ (hw _ (List.mem_of_getElem? (i := 49) rfl))) (mvT hZ (hw _ (List.mem_of_getElem? (i := 23) rfl))) (by decide) (backOf (W := 0) (rmLast l Z a0 hw [] b2 t3 k_3 [c0] T3.heap n0 Zs7 Fv3 Fcb3 Vb3 (Nat.le_refl 1 : 1 ≤ [c0].length) (by omega) (by intro x hx; cases List.mem_singleton.mp hx; exact hk0 : own_chs [c0])) hZ (hw _ (List.mem_of_getElem? (i := 50) rfl)) (hw _ (List.mem_of_getElem? (i := 4) rfl)) (by decide) (by decide)) q6a q6b q6c (g := (mkF m 166 #[iv i1, iv i2, iv i3, iv i4, iv i5, iv i6, iv c0, iv c1, iv c2, iv c3, iv c4, iv (0 : Int32), rv b2, iv c0, .unset] [(.ref b2)])) rfl (by rw [hml]; rfl) (Steps.refl _) (argsL := []) (rest := []) (lenOf pd_5 rfl) rfl (by show 2 * 0 + _ ≤ _; exact Nat.le_of_eq rfl) (hb hby at_166) (fun _ _ => ⟨rfl, rfl, (by decide : 2 + 0 ≤ _), (by decide : 6 + 0 ≤ _)⟩)
    dsimp only [Pt.U, Pt.locs, Pt.cells, Pt.slots] at X6 l6 y6 z6 st6 hQ6
    subst l6 y6 z6
    obtain ⟨hv6, N6q, e6q⟩ := hQ6
    have N6 := Fr.app N3 N6q
    rw [own_top_last (own_top1 c0) (trivial : own_srt [c0]) (Nat.le_refl 1 : 1 ≤ [c0].length)] at hv6
    subst hv6
    have e6 : T6.heap = T3.heap := e6q
    have pre8 : ∀ tg, own_S p e below T6 m 185 #[iv i1, iv i2, iv i3, iv i4, iv i5, iv i6, iv c0, iv c1, iv c2, iv c3, iv c4, iv (0 : Int32), rv b2, iv c0, iv c0] [(.int (1 : Int32))] tg → Steps p.tables e below (s₁.setTop (entryFrame m #[(.int i1), (.int i2), (.int i3), (.int i4), (.int i5), (.int i6)] maxLocals)) tg := fun tg k => pre5 tg (by
      show own_S p e below T3 m 60 #[iv i1, iv i2, iv i3, iv i4, iv i5, iv i6, iv c0, iv c1, iv c2, iv c3, iv c4, iv (0 : Int32), rv b2, iv c0, .unset] [] _
      refine XS.iload X3.here hx rfl (hb hby at_60) rfl ?_
      refine XS.iconst X3.here hx rfl (hb hby at_62) ?_
      refine XS.icmpYes X3.here hx rfl (pc0 := 63) (pc' := 86) rfl (hb hby at_63) rfl (tlt (by decide : (0 : Int32) < (1 : Int32))).1 (by decide) (by decide) ?_
      show own_S p e below T3 m 86 #[iv i1, iv i2, iv i3, iv i4, iv i5, iv i6, iv c0, iv c1, iv c2, iv c3, iv c4, iv (0 : Int32), rv b2, iv c0, .unset] [] _
      refine XS.iload X3.here hx rfl (hb hby at_86) rfl ?_
      refine XS.iconst X3.here hx rfl (hb hby at_88) ?_
      refine XS.icmpYes X3.here hx rfl (pc0 := 89) (pc' := 112) rfl (hb hby at_89) rfl (tlt (by decide : (0 : Int32) < (2 : Int32))).1 (by decide) (by decide) ?_
      show own_S p e below T3 m 112 #[iv i1, iv i2, iv i3, iv i4, iv i5, iv i6, iv c0, iv c1, iv c2, iv c3, iv c4, iv (0 : Int32), rv b2, iv c0, .unset] [] _
      refine XS.iload X3.here hx rfl (hb hby at_112) rfl ?_
      refine XS.iconst X3.here hx rfl (hb hby at_114) ?_
      refine XS.icmpYes X3.here hx rfl (pc0 := 115) (pc' := 138) rfl (hb hby at_115) rfl (tlt (by decide : (0 : Int32) < (3 : Int32))).1 (by decide) (by decide) ?_
      show own_S p e below T3 m 138 #[iv i1, iv i2, iv i3, iv i4, iv i5, iv i6, iv c0, iv c1, iv c2, iv c3, iv c4, iv (0 : Int32), rv b2, iv c0, .unset] [] _
      refine XS.iload X3.here hx rfl (hb hby at_138) rfl ?_
      refine XS.iconst X3.here hx rfl (hb hby at_140) ?_
      refine XS.icmpYes X3.here hx rfl (pc0 := 141) (pc' := 164) rfl (hb hby at_141) rfl (tlt (by decide : (0 : Int32) < (4 : Int32))).1 (by decide) (by decide) ?_
      show own_S p e below T3 m 164 #[iv i1, iv i2, iv i3, iv i4, iv i5, iv i6, iv c0, iv c1, iv c2, iv c3, iv c4, iv (0 : Int32), rv b2, iv c0, .unset] [] _
      refine XS.aload X3.here hx rfl (hb hby at_164) rfl rfl ?_
      refine st6.trans ?_
      refine XS.istore X6.here hx rfl (hb hby at_171) rfl (l' := #[iv i1, iv i2, iv i3, iv i4, iv i5, iv i6, iv c0, iv c1, iv c2, iv c3, iv c4, iv (0 : Int32), rv b2, iv c0, iv c0]) rfl ?_
      show own_S p e below T6 m 173 #[iv i1, iv i2, iv i3, iv i4, iv i5, iv i6, iv c0, iv c1, iv c2, iv c3, iv c4, iv (0 : Int32), rv b2, iv c0, iv c0] [] _
      refine XS.iload X6.here hx rfl (hb hby at_173) rfl ?_
      refine XS.iload X6.here hx rfl (hb hby at_175) rfl ?_
      refine XS.icmpNo X6.here hx rfl (hb hby at_177) rfl (teq (rfl : c0 = c0)).2 ?_
      show own_S p e below T6 m 180 #[iv i1, iv i2, iv i3, iv i4, iv i5, iv i6, iv c0, iv c1, iv c2, iv c3, iv c4, iv (0 : Int32), rv b2, iv c0, iv c0] [] _
      refine XS.iconst X6.here hx rfl (hb hby at_180) ?_
      refine XS.goto X6.here hx rfl (pc0 := 181) (pc' := 185) rfl (hb hby at_181) (by decide) (by decide) ?_
      exact k)
    obtain ⟨fs, hr, hrun, hended, hW, hsame⟩ := X6.leave (v := some (.int (nar .boolean (1 : Int32)))) (fun h => by rw [Bd.returns] at h; cases h)
    refine ⟨_, _, pre8 _ ?_, hrun, hended, _, _, rfl, ?_, ⟨_, rfl⟩, hW, hsame.mono (by decide) (by decide)⟩
    · show own_S p e below T6 m 185 #[iv i1, iv i2, iv i3, iv i4, iv i5, iv i6, iv c0, iv c1, iv c2, iv c3, iv c4, iv (0 : Int32), rv b2, iv c0, iv c0] [(.int (1 : Int32))] _
      exact retN X6 hx (t := .boolean) Bd.returns (by simp) (hb hby at_185) hr
    · show Q0 Z i1 i2 i3 i4 i5 i6 h0 n0 _ T6.heap _
      rw [e6]
      exact ⟨rfl, N6⟩
  ·  -- case
    have Zs10 : n0 ≤ T3.heap.size := (Nat.le_trans Zs4 K3.1)
    obtain ⟨cq9, kq9, q9a, q9b, q9c⟩ := isOf hZ rfl E3c
    obtain ⟨_, _, ⟨T9, L9, k9, n9⟩, -, X9, ⟨Lc9, hQ9, l9, y9, z9⟩, st9⟩ := X3.interfaceBack hx (xi := (⟨"com/example/bitstrata/bitstrata/Container", "add", "(C)Lcom/example/bitstrata/bitstrata/Container;"⟩ : MethodName)) (y := (⟨"com/example/bitstrata/bitstrata/ArrayContainer", "add", "(C)Lcom/example/bitstrata/bitstrata/Container;"⟩ : MethodName)) hown (mvT hZ (hw _ (List.mem_of_getElem? (i := 16) rfl))) (mvT hZ (hw _ (List.mem_of_getElem? (i := 17) rfl))) (mvT hZ (hw _ (List.mem_of_getElem? (i := 18) rfl))) (mvT hZ (hw _ (List.mem_of_getElem? (i := 19) rfl))) (mvT hZ (hw _ (List.mem_of_getElem? (i := 20) rfl))) (mvT hZ (hw _ (List.mem_of_getElem? (i := 21) rfl))) (mvT hZ (hw _ (List.mem_of_getElem? (i := 22) rfl))) (mvT hZ (hw _ (List.mem_of_getElem? (i := 23) rfl))) (by decide) (backOf (W := 0) (rmAdd l Z a0 hw [] b2 c1 t3 k_3 [c0] T3.heap n0 Zs10 E3c g_b2 g_t3 Fv3 Fcb3 Vb3 ne_t3 (Nat.le_refl 1 : 1 ≤ [c0].length) (by omega) (trivial : own_srt [c0]) (by intro x hx; cases List.mem_singleton.mp hx; exact hk0 : own_chs [c0]) hk1) hZ (hw _ (List.mem_of_getElem? (i := 24) rfl)) (hw _ (List.mem_of_getElem? (i := 4) rfl)) (by decide) (by decide)) q9a q9b q9c (g := (mkF m 70 #[iv i1, iv i2, iv i3, iv i4, iv i5, iv i6, iv c0, iv c1, iv c2, iv c3, iv c4, iv (1 : Int32), rv b2, iv c0, .unset] [(.int c1), (.ref b2)])) rfl (by rw [hml]; rfl) (Steps.refl _) (argsL := [(.int c1)]) (rest := []) (lenOf pd_6 rfl) rfl (by show 2 * 0 + _ ≤ _; exact Nat.le_of_eq rfl) (hb hby at_70) (fun _ _ => ⟨rfl, rfl, (by decide : 2 + 1 ≤ _), (by decide : 6 + 8 ≤ _)⟩)
    dsimp only [Pt.U, Pt.locs, Pt.cells, Pt.slots] at X9 l9 y9 z9 st9 hQ9
    subst l9 y9 z9
    obtain ⟨ys9, u9, ku9, rfl, N9q, K9, E9c, Fv9, Fc9, V9u, g_u9, ne_u9, -, l1_9, l2_9, hs9, hch9, hm9⟩ := hQ9
    have N9 := Fr.app N3 N9q
    have Zs12 : n0 ≤ T9.heap.size := (Nat.le_trans Zs10 K9.1)
    obtain ⟨_, _, ⟨T11, L11, k11, n11⟩, -, X11, ⟨Lc11, hQ11, l11, y11, z11⟩, st11⟩ := Jvm.LawKit.callS X9 hx (y := (⟨"java/lang/Math", "max", "(II)I"⟩ : MethodName)) hown (mvT hZ (hw _ (List.mem_of_getElem? (i := 39) rfl))) (mvT hZ (hw _ (List.mem_of_getElem? (i := 40) rfl))) (mvT hZ (hw _ (List.mem_of_getElem? (i := 41) rfl))) (mvT hZ (hw _ (List.mem_of_getElem? (i := 42) rfl))) (by decide) (backOf (W := 0) (rmMax l Z a0 hw [] c0 c1 T9.heap n0 Zs12 ) hZ (hw _ (List.mem_of_getElem? (i := 42) rfl)) (hw _ (List.mem_of_getElem? (i := 41) rfl)) (by decide) (by decide)) (g := (mkF m 81 #[iv i1, iv i2, iv i3, iv i4, iv i5, iv i6, iv c0, iv c1, iv c2, iv c3, iv c4, iv (1 : Int32), rv b2, iv c0, .unset] [(.int c1), (.int c0)])) rfl (by rw [hml]; rfl) (argsL := [(.int c0), (.int c1)]) (rest := []) (lenOf pd_2 rfl) rfl (by show 2 * 0 + _ ≤ _; exact Nat.le_of_eq rfl) (hb hby at_81) (fun _ _ => ⟨rfl, rfl, (by decide : 3 + 0 ≤ _), (by decide : 14 + 0 ≤ _)⟩)
    dsimp only [Pt.U, Pt.locs, Pt.cells, Pt.slots] at X11 l11 y11 z11 st11 hQ11
    subst l11 y11 z11
    obtain ⟨rfl, N11q, e11q⟩ := hQ11
    have N11 := Fr.app N9 N11q
    have e11 : T11.heap = T9.heap := e11q
    obtain ⟨cq13, kq13, q13a, q13b, q13c⟩ := isOf hZ e11 E9c
    obtain ⟨_, _, ⟨T13, L13, k13, n13⟩, -, X13, ⟨Lc13, hQ13, l13, y13, z13⟩, st13⟩ := X11.interfaceBack hx (xi := (⟨"com/example/bitstrata/bitstrata/Container", "last", "()C"⟩ : MethodName)) (y := (⟨"com/example/bitstrata/bitstrata/ArrayContainer", "last", "()C"⟩ : MethodName)) hown (mvT hZ (hw _ (List.mem_of_getElem? (i := 43) rfl))) (mvT hZ (hw _ (List.mem_of_getElem? (i := 44) rfl))) (mvT hZ (hw _ (List.mem_of_getElem? (i := 45) rfl))) (mvT hZ (hw _ (List.mem_of_getElem? (i := 46) rfl))) (mvT hZ (hw _ (List.mem_of_getElem? (i := 47) rfl))) (mvT hZ (hw _ (List.mem_of_getElem? (i := 48) rfl))) (mvT hZ (hw _ (List.mem_of_getElem? (i := 49) rfl))) (mvT hZ (hw _ (List.mem_of_getElem? (i := 23) rfl))) (by decide) (backOf (W := 0) (rmLast l Z a0 hw [] b2 u9 ku9 ys9 T9.heap n0 Zs12 Fv9 Fc9 V9u l1_9 (by omega) hch9) hZ (hw _ (List.mem_of_getElem? (i := 50) rfl)) (hw _ (List.mem_of_getElem? (i := 4) rfl)) (by decide) (by decide)) q13a q13b q13c (g := (mkF m 166 #[iv i1, iv i2, iv i3, iv i4, iv i5, iv i6, iv c0, iv c1, iv c2, iv c3, iv c4, iv (1 : Int32), rv b2, iv (own_max c0 c1), .unset] [(.ref b2)])) rfl (by rw [hml]; rfl) (Steps.refl _) (argsL := []) (rest := []) (lenOf pd_5 rfl) rfl (by show 2 * 0 + _ ≤ _; exact Nat.le_of_eq rfl) (hb hby at_166) (fun _ _ => ⟨rfl, e11, (by decide : 3 + 0 ≤ _), (by decide : 14 + 0 ≤ _)⟩)
    dsimp only [Pt.U, Pt.locs, Pt.cells, Pt.slots] at X13 l13 y13 z13 st13 hQ13
    subst l13 y13 z13
    obtain ⟨hv13, N13q, e13q⟩ := hQ13
    have N13 := Fr.app N11 N13q
    rw [own_top_last (own_top_add (own_top1 c0) hm9) hs9 l1_9] at hv13
    subst hv13
    have e13 : T13.heap = T9.heap := e13q
    have pre14 : ∀ tg, own_S p e below T13 m 185 #[iv i1, iv i2, iv i3, iv i4, iv i5, iv i6, iv c0, iv c1, iv c2, iv c3, iv c4, iv (1 : Int32), rv b2, iv (own_max c0 c1), iv (own_max c0 c1)] [(.int (1 : Int32))] tg → Steps p.tables e below (s₁.setTop (entryFrame m #[(.int i1), (.int i2), (.int i3), (.int i4), (.int i5), (.int i6)] maxLocals)) tg := fun tg k => pre5 tg (by
      show own_S p e below T3 m 60 #[iv i1, iv i2, iv i3, iv i4, iv i5, iv i6, iv c0, iv c1, iv c2, iv c3, iv c4, iv (1 : Int32), rv b2, iv c0, .unset] [] _
      refine XS.iload X3.here hx rfl (hb hby at_60) rfl ?_
      refine XS.iconst X3.here hx rfl (hb hby at_62) ?_
      refine XS.icmpNo X3.here hx rfl (hb hby at_63) rfl (flt (by decide : ¬ ((1 : Int32) < (1 : Int32)))).1 ?_
      show own_S p e below T3 m 66 #[iv i1, iv i2, iv i3, iv i4, iv i5, iv i6, iv c0, iv c1, iv c2, iv c3, iv c4, iv (1 : Int32), rv b2, iv c0, .unset] [] _
      refine XS.aload X3.here hx rfl (hb hby at_66) rfl rfl ?_
      refine XS.iload X3.here hx rfl (hb hby at_68) rfl ?_
      refine st9.trans ?_
      show own_S p e below T9 m 75 #[iv i1, iv i2, iv i3, iv i4, iv i5, iv i6, iv c0, iv c1, iv c2, iv c3, iv c4, iv (1 : Int32), rv b2, iv c0, .unset] [(.ref b2)] _
      refine XS.astore X9.here hx rfl (hb hby at_75) rfl rfl (l' := #[iv i1, iv i2, iv i3, iv i4, iv i5, iv i6, iv c0, iv c1, iv c2, iv c3, iv c4, iv (1 : Int32), rv b2, iv c0, .unset]) rfl ?_
      refine XS.iload X9.here hx rfl (hb hby at_77) rfl ?_
      refine XS.iload X9.here hx rfl (hb hby at_79) rfl ?_
      show own_S p e below T9 m 81 #[iv i1, iv i2, iv i3, iv i4, iv i5, iv i6, iv c0, iv c1, iv c2, iv c3, iv c4, iv (1 : Int32), rv b2, iv c0, .unset] [(.int c1), (.int c0)] _
      refine st11 _ ?_
      refine XS.istore X11.here hx rfl (hb hby at_84) rfl (l' := #[iv i1, iv i2, iv i3, iv i4, iv i5, iv i6, iv c0, iv c1, iv c2, iv c3, iv c4, iv (1 : Int32), rv b2, iv (own_max c0 c1), .unset]) rfl ?_
      refine XS.iload X11.here hx rfl (hb hby at_86) rfl ?_
      show own_S p e below T11 m 88 #[iv i1, iv i2, iv i3, iv i4, iv i5, iv i6, iv c0, iv c1, iv c2, iv c3, iv c4, iv (1 : Int32), rv b2, iv (own_max c0 c1), .unset] [(.int (1 : Int32))] _
      refine XS.iconst X11.here hx rfl (hb hby at_88) ?_
      refine XS.icmpYes X11.here hx rfl (pc0 := 89) (pc' := 112) rfl (hb hby at_89) rfl (tlt (by decide : (1 : Int32) < (2 : Int32))).1 (by decide) (by decide) ?_
      refine XS.iload X11.here hx rfl (hb hby at_112) rfl ?_
      show own_S p e below T11 m 114 #[iv i1, iv i2, iv i3, iv i4, iv i5, iv i6, iv c0, iv c1, iv c2, iv c3, iv c4, iv (1 : Int32), rv b2, iv (own_max c0 c1), .unset] [(.int (1 : Int32))] _
      refine XS.iconst X11.here hx rfl (hb hby at_114) ?_
      refine XS.icmpYes X11.here hx rfl (pc0 := 115) (pc' := 138) rfl (hb hby at_115) rfl (tlt (by decide : (1 : Int32) < (3 : Int32))).1 (by decide) (by decide) ?_
      refine XS.iload X11.here hx rfl (hb hby at_138) rfl ?_
      show own_S p e below T11 m 140 #[iv i1, iv i2, iv i3, iv i4, iv i5, iv i6, iv c0, iv c1, iv c2, iv c3, iv c4, iv (1 : Int32), rv b2, iv (own_max c0 c1), .unset] [(.int (1 : Int32))] _
      refine XS.iconst X11.here hx rfl (hb hby at_140) ?_
      refine XS.icmpYes X11.here hx rfl (pc0 := 141) (pc' := 164) rfl (hb hby at_141) rfl (tlt (by decide : (1 : Int32) < (4 : Int32))).1 (by decide) (by decide) ?_
      refine XS.aload X11.here hx rfl (hb hby at_164) rfl rfl ?_
      show own_S p e below T11 m 166 #[iv i1, iv i2, iv i3, iv i4, iv i5, iv i6, iv c0, iv c1, iv c2, iv c3, iv c4, iv (1 : Int32), rv b2, iv (own_max c0 c1), .unset] [(.ref b2)] _
      refine st13.trans ?_
      refine XS.istore X13.here hx rfl (hb hby at_171) rfl (l' := #[iv i1, iv i2, iv i3, iv i4, iv i5, iv i6, iv c0, iv c1, iv c2, iv c3, iv c4, iv (1 : Int32), rv b2, iv (own_max c0 c1), iv (own_max c0 c1)]) rfl ?_
      refine XS.iload X13.here hx rfl (hb hby at_173) rfl ?_
      show own_S p e below T13 m 175 #[iv i1, iv i2, iv i3, iv i4, iv i5, iv i6, iv c0, iv c1, iv c2, iv c3, iv c4, iv (1 : Int32), rv b2, iv (own_max c0 c1), iv (own_max c0 c1)] [(.int (own_max c0 c1))] _
      refine XS.iload X13.here hx rfl (hb hby at_175) rfl ?_
      refine XS.icmpNo X13.here hx rfl (hb hby at_177) rfl (teq (rfl : (own_max c0 c1) = (own_max c0 c1))).2 ?_
      refine XS.iconst X13.here hx rfl (hb hby at_180) ?_
      show own_S p e below T13 m 181 #[iv i1, iv i2, iv i3, iv i4, iv i5, iv i6, iv c0, iv c1, iv c2, iv c3, iv c4, iv (1 : Int32), rv b2, iv (own_max c0 c1), iv (own_max c0 c1)] [(.int (1 : Int32))] _
      refine XS.goto X13.here hx rfl (pc0 := 181) (pc' := 185) rfl (hb hby at_181) (by decide) (by decide) ?_
      exact k)
    obtain ⟨fs, hr, hrun, hended, hW, hsame⟩ := X13.leave (v := some (.int (nar .boolean (1 : Int32)))) (fun h => by rw [Bd.returns] at h; cases h)
    refine ⟨_, _, pre14 _ ?_, hrun, hended, _, _, rfl, ?_, ⟨_, rfl⟩, hW, hsame.mono (by decide) (by decide)⟩
    · show own_S p e below T13 m 185 #[iv i1, iv i2, iv i3, iv i4, iv i5, iv i6, iv c0, iv c1, iv c2, iv c3, iv c4, iv (1 : Int32), rv b2, iv (own_max c0 c1), iv (own_max c0 c1)] [(.int (1 : Int32))] _
      exact retN X13 hx (t := .boolean) Bd.returns (by simp) (hb hby at_185) hr
    · show Q0 Z i1 i2 i3 i4 i5 i6 h0 n0 _ T13.heap _
      rw [e13]
      exact ⟨rfl, N13⟩
  ·  -- case
    have Zs16 : n0 ≤ T3.heap.size := (Nat.le_trans Zs4 K3.1)
    obtain ⟨cq15, kq15, q15a, q15b, q15c⟩ := isOf hZ rfl E3c
    obtain ⟨_, _, ⟨T15, L15, k15, n15⟩, -, X15, ⟨Lc15, hQ15, l15, y15, z15⟩, st15⟩ := X3.interfaceBack hx (xi := (⟨"com/example/bitstrata/bitstrata/Container", "add", "(C)Lcom/example/bitstrata/bitstrata/Container;"⟩ : MethodName)) (y := (⟨"com/example/bitstrata/bitstrata/ArrayContainer", "add", "(C)Lcom/example/bitstrata/bitstrata/Container;"⟩ : MethodName)) hown (mvT hZ (hw _ (List.mem_of_getElem? (i := 16) rfl))) (mvT hZ (hw _ (List.mem_of_getElem? (i := 17) rfl))) (mvT hZ (hw _ (List.mem_of_getElem? (i := 18) rfl))) (mvT hZ (hw _ (List.mem_of_getElem? (i := 19) rfl))) (mvT hZ (hw _ (List.mem_of_getElem? (i := 20) rfl))) (mvT hZ (hw _ (List.mem_of_getElem? (i := 21) rfl))) (mvT hZ (hw _ (List.mem_of_getElem? (i := 22) rfl))) (mvT hZ (hw _ (List.mem_of_getElem? (i := 23) rfl))) (by decide) (backOf (W := 0) (rmAdd l Z a0 hw [] b2 c1 t3 k_3 [c0] T3.heap n0 Zs16 E3c g_b2 g_t3 Fv3 Fcb3 Vb3 ne_t3 (Nat.le_refl 1 : 1 ≤ [c0].length) (by omega) (trivial : own_srt [c0]) (by intro x hx; cases List.mem_singleton.mp hx; exact hk0 : own_chs [c0]) hk1) hZ (hw _ (List.mem_of_getElem? (i := 24) rfl)) (hw _ (List.mem_of_getElem? (i := 4) rfl)) (by decide) (by decide)) q15a q15b q15c (g := (mkF m 70 #[iv i1, iv i2, iv i3, iv i4, iv i5, iv i6, iv c0, iv c1, iv c2, iv c3, iv c4, iv (2 : Int32), rv b2, iv c0, .unset] [(.int c1), (.ref b2)])) rfl (by rw [hml]; rfl) (Steps.refl _) (argsL := [(.int c1)]) (rest := []) (lenOf pd_6 rfl) rfl (by show 2 * 0 + _ ≤ _; exact Nat.le_of_eq rfl) (hb hby at_70) (fun _ _ => ⟨rfl, rfl, (by decide : 2 + 1 ≤ _), (by decide : 6 + 8 ≤ _)⟩)
    dsimp only [Pt.U, Pt.locs, Pt.cells, Pt.slots] at X15 l15 y15 z15 st15 hQ15
    subst l15 y15 z15
    obtain ⟨ys15, u15, ku15, rfl, N15q, K15, E15c, Fv15, Fc15, V15u, g_u15, ne_u15, -, l1_15, l2_15, hs15, hch15, hm15⟩ := hQ15
    have N15 := Fr.app N3 N15q
    have Zs18 : n0 ≤ T15.heap.size := (Nat.le_trans Zs16 K15.1)
    obtain ⟨_, _, ⟨T17, L17, k17, n17⟩, -, X17, ⟨Lc17, hQ17, l17, y17, z17⟩, st17⟩ := Jvm.LawKit.callS X15 hx (y := (⟨"java/lang/Math", "max", "(II)I"⟩ : MethodName)) hown (mvT hZ (hw _ (List.mem_of_getElem? (i := 39) rfl))) (mvT hZ (hw _ (List.mem_of_getElem? (i := 40) rfl))) (mvT hZ (hw _ (List.mem_of_getElem? (i := 41) rfl))) (mvT hZ (hw _ (List.mem_of_getElem? (i := 42) rfl))) (by decide) (backOf (W := 0) (rmMax l Z a0 hw [] c0 c1 T15.heap n0 Zs18 ) hZ (hw _ (List.mem_of_getElem? (i := 42) rfl)) (hw _ (List.mem_of_getElem? (i := 41) rfl)) (by decide) (by decide)) (g := (mkF m 81 #[iv i1, iv i2, iv i3, iv i4, iv i5, iv i6, iv c0, iv c1, iv c2, iv c3, iv c4, iv (2 : Int32), rv b2, iv c0, .unset] [(.int c1), (.int c0)])) rfl (by rw [hml]; rfl) (argsL := [(.int c0), (.int c1)]) (rest := []) (lenOf pd_2 rfl) rfl (by show 2 * 0 + _ ≤ _; exact Nat.le_of_eq rfl) (hb hby at_81) (fun _ _ => ⟨rfl, rfl, (by decide : 3 + 0 ≤ _), (by decide : 14 + 0 ≤ _)⟩)
    dsimp only [Pt.U, Pt.locs, Pt.cells, Pt.slots] at X17 l17 y17 z17 st17 hQ17
    subst l17 y17 z17
    obtain ⟨rfl, N17q, e17q⟩ := hQ17
    have N17 := Fr.app N15 N17q
    have e17 : T17.heap = T15.heap := e17q
    obtain ⟨cq19, kq19, q19a, q19b, q19c⟩ := isOf hZ e17 E15c
    obtain ⟨_, _, ⟨T19, L19, k19, n19⟩, -, X19, ⟨Lc19, hQ19, l19, y19, z19⟩, st19⟩ := X17.interfaceBack hx (xi := (⟨"com/example/bitstrata/bitstrata/Container", "add", "(C)Lcom/example/bitstrata/bitstrata/Container;"⟩ : MethodName)) (y := (⟨"com/example/bitstrata/bitstrata/ArrayContainer", "add", "(C)Lcom/example/bitstrata/bitstrata/Container;"⟩ : MethodName)) hown (mvT hZ (hw _ (List.mem_of_getElem? (i := 16) rfl))) (mvT hZ (hw _ (List.mem_of_getElem? (i := 17) rfl))) (mvT hZ (hw _ (List.mem_of_getElem? (i := 18) rfl))) (mvT hZ (hw _ (List.mem_of_getElem? (i := 19) rfl))) (mvT hZ (hw _ (List.mem_of_getElem? (i := 20) rfl))) (mvT hZ (hw _ (List.mem_of_getElem? (i := 21) rfl))) (mvT hZ (hw _ (List.mem_of_getElem? (i := 22) rfl))) (mvT hZ (hw _ (List.mem_of_getElem? (i := 23) rfl))) (by decide) (backOf (W := 0) (rmAdd l Z a0 hw [] b2 c2 u15 ku15 ys15 T15.heap n0 Zs18 E15c g_b2 g_u15 Fv15 Fc15 V15u ne_u15 l1_15 (by omega) hs15 hch15 hk2) hZ (hw _ (List.mem_of_getElem? (i := 24) rfl)) (hw _ (List.mem_of_getElem? (i := 4) rfl)) (by decide) (by decide)) q19a q19b q19c (g := (mkF m 96 #[iv i1, iv i2, iv i3, iv i4, iv i5, iv i6, iv c0, iv c1, iv c2, iv c3, iv c4, iv (2 : Int32), rv b2, iv (own_max c0 c1), .unset] [(.int c2), (.ref b2)])) rfl (by rw [hml]; rfl) (Steps.refl _) (argsL := [(.int c2)]) (rest := []) (lenOf pd_6 rfl) rfl (by show 2 * 0 + _ ≤ _; exact Nat.le_of_eq rfl) (hb hby at_96) (fun _ _ => ⟨rfl, e17, (by decide : 3 + 1 ≤ _), (by decide : 14 + 8 ≤ _)⟩)
    dsimp only [Pt.U, Pt.locs, Pt.cells, Pt.slots] at X19 l19 y19 z19 st19 hQ19
    subst l19 y19 z19
    obtain ⟨ys19, u19, ku19, rfl, N19q, K19, E19c, Fv19, Fc19, V19u, g_u19, ne_u19, -, l1_19, l2_19, hs19, hch19, hm19⟩ := hQ19
    have N19 := Fr.app N17 N19q
    have Zs21 : n0 ≤ T19.heap.size := (Nat.le_trans Zs18 K19.1)
    obtain ⟨_, _, ⟨T20, L20, k20, n20⟩, -, X20, ⟨Lc20, hQ20, l20, y20, z20⟩, st20⟩ := Jvm.LawKit.callS X19 hx (y := (⟨"java/lang/Math", "max", "(II)I"⟩ : MethodName)) hown (mvT hZ (hw _ (List.mem_of_getElem? (i := 39) rfl))) (mvT hZ (hw _ (List.mem_of_getElem? (i := 40) rfl))) (mvT hZ (hw _ (List.mem_of_getElem? (i := 41) rfl))) (mvT hZ (hw _ (List.mem_of_getElem? (i := 42) rfl))) (by decide) (backOf (W := 0) (rmMax l Z a0 hw [] (own_max c0 c1) c2 T19.heap n0 Zs21 ) hZ (hw _ (List.mem_of_getElem? (i := 42) rfl)) (hw _ (List.mem_of_getElem? (i := 41) rfl)) (by decide) (by decide)) (g := (mkF m 107 #[iv i1, iv i2, iv i3, iv i4, iv i5, iv i6, iv c0, iv c1, iv c2, iv c3, iv c4, iv (2 : Int32), rv b2, iv (own_max c0 c1), .unset] [(.int c2), (.int (own_max c0 c1))])) rfl (by rw [hml]; rfl) (argsL := [(.int (own_max c0 c1)), (.int c2)]) (rest := []) (lenOf pd_2 rfl) rfl (by show 2 * 0 + _ ≤ _; exact Nat.le_of_eq rfl) (hb hby at_107) (fun _ _ => ⟨rfl, rfl, (by decide : 4 + 0 ≤ _), (by decide : 22 + 0 ≤ _)⟩)
    dsimp only [Pt.U, Pt.locs, Pt.cells, Pt.slots] at X20 l20 y20 z20 st20 hQ20
    subst l20 y20 z20
    obtain ⟨rfl, N20q, e20q⟩ := hQ20
    have N20 := Fr.app N19 N20q
    have e20 : T20.heap = T19.heap := e20q
    obtain ⟨cq22, kq22, q22a, q22b, q22c⟩ := isOf hZ e20 E19c
    obtain ⟨_, _, ⟨T22, L22, k22, n22⟩, -, X22, ⟨Lc22, hQ22, l22, y22, z22⟩, st22⟩ := X20.interfaceBack hx (xi := (⟨"com/example/bitstrata/bitstrata/Container", "last", "()C"⟩ : MethodName)) (y := (⟨"com/example/bitstrata/bitstrata/ArrayContainer", "last", "()C"⟩ : MethodName)) hown (mvT hZ (hw _ (List.mem_of_getElem? (i := 43) rfl))) (mvT hZ (hw _ (List.mem_of_getElem? (i := 44) rfl))) (mvT hZ (hw _ (List.mem_of_getElem? (i := 45) rfl))) (mvT hZ (hw _ (List.mem_of_getElem? (i := 46) rfl))) (mvT hZ (hw _ (List.mem_of_getElem? (i := 47) rfl))) (mvT hZ (hw _ (List.mem_of_getElem? (i := 48) rfl))) (mvT hZ (hw _ (List.mem_of_getElem? (i := 49) rfl))) (mvT hZ (hw _ (List.mem_of_getElem? (i := 23) rfl))) (by decide) (backOf (W := 0) (rmLast l Z a0 hw [] b2 u19 ku19 ys19 T19.heap n0 Zs21 Fv19 Fc19 V19u l1_19 (by omega) hch19) hZ (hw _ (List.mem_of_getElem? (i := 50) rfl)) (hw _ (List.mem_of_getElem? (i := 4) rfl)) (by decide) (by decide)) q22a q22b q22c (g := (mkF m 166 #[iv i1, iv i2, iv i3, iv i4, iv i5, iv i6, iv c0, iv c1, iv c2, iv c3, iv c4, iv (2 : Int32), rv b2, iv (own_max (own_max c0 c1) c2), .unset] [(.ref b2)])) rfl (by rw [hml]; rfl) (Steps.refl _) (argsL := []) (rest := []) (lenOf pd_5 rfl) rfl (by show 2 * 0 + _ ≤ _; exact Nat.le_of_eq rfl) (hb hby at_166) (fun _ _ => ⟨rfl, e20, (by decide : 4 + 0 ≤ _), (by decide : 22 + 0 ≤ _)⟩)
    dsimp only [Pt.U, Pt.locs, Pt.cells, Pt.slots] at X22 l22 y22 z22 st22 hQ22
    subst l22 y22 z22
    obtain ⟨hv22, N22q, e22q⟩ := hQ22
    have N22 := Fr.app N20 N22q
    rw [own_top_last (own_top_add (own_top_add (own_top1 c0) hm15) hm19) hs19 l1_19] at hv22
    subst hv22
    have e22 : T22.heap = T19.heap := e22q
    have pre23 : ∀ tg, own_S p e below T22 m 185 #[iv i1, iv i2, iv i3, iv i4, iv i5, iv i6, iv c0, iv c1, iv c2, iv c3, iv c4, iv (2 : Int32), rv b2, iv (own_max (own_max c0 c1) c2), iv (own_max (own_max c0 c1) c2)] [(.int (1 : Int32))] tg → Steps p.tables e below (s₁.setTop (entryFrame m #[(.int i1), (.int i2), (.int i3), (.int i4), (.int i5), (.int i6)] maxLocals)) tg := fun tg k => pre5 tg (by
      show own_S p e below T3 m 60 #[iv i1, iv i2, iv i3, iv i4, iv i5, iv i6, iv c0, iv c1, iv c2, iv c3, iv c4, iv (2 : Int32), rv b2, iv c0, .unset] [] _
      refine XS.iload X3.here hx rfl (hb hby at_60) rfl ?_
      refine XS.iconst X3.here hx rfl (hb hby at_62) ?_
      refine XS.icmpNo X3.here hx rfl (hb hby at_63) rfl (flt (by decide : ¬ ((2 : Int32) < (1 : Int32)))).1 ?_
      show own_S p e below T3 m 66 #[iv i1, iv i2, iv i3, iv i4, iv i5, iv i6, iv c0, iv c1, iv c2, iv c3, iv c4, iv (2 : Int32), rv b2, iv c0, .unset] [] _
      refine XS.aload X3.here hx rfl (hb hby at_66) rfl rfl ?_
      refine XS.iload X3.here hx rfl (hb hby at_68) rfl ?_
      refine st15.trans ?_
      show own_S p e below T15 m 75 #[iv i1, iv i2, iv i3, iv i4, iv i5, iv i6, iv c0, iv c1, iv c2, iv c3, iv c4, iv (2 : Int32), rv b2, iv c0, .unset] [(.ref b2)] _
      refine XS.astore X15.here hx rfl (hb hby at_75) rfl rfl (l' := #[iv i1, iv i2, iv i3, iv i4, iv i5, iv i6, iv c0, iv c1, iv c2, iv c3, iv c4, iv (2 : Int32), rv b2, iv c0, .unset]) rfl ?_
      refine XS.iload X15.here hx rfl (hb hby at_77) rfl ?_
      refine XS.iload X15.here hx rfl (hb hby at_79) rfl ?_
      show own_S p e below T15 m 81 #[iv i1, iv i2, iv i3, iv i4, iv i5, iv i6, iv c0, iv c1, iv c2, iv c3, iv c4, iv (2 : Int32), rv b2, iv c0, .unset] [(.int c1), (.int c0)] _
      refine st17 _ ?_
      refine XS.istore X17.here hx rfl (hb hby at_84) rfl (l' := #[iv i1, iv i2, iv i3, iv i4, iv i5, iv i6, iv c0, iv c1, iv c2, iv c3, iv c4, iv (2 : Int32), rv b2, iv (own_max c0 c1), .unset]) rfl ?_
      refine XS.iload X17.here hx rfl (hb hby at_86) rfl ?_
      show own_S p e below T17 m 88 #[iv i1, iv i2, iv i3, iv i4, iv i5, iv i6, iv c0, iv c1, iv c2, iv c3, iv c4, iv (2 : Int32), rv b2, iv (own_max c0 c1), .unset] [(.int (2 : Int32))] _
      refine XS.iconst X17.here hx rfl (hb hby at_88) ?_
      refine XS.icmpNo X17.here hx rfl (hb hby at_89) rfl (flt (by decide : ¬ ((2 : Int32) < (2 : Int32)))).1 ?_
      refine XS.aload X17.here hx rfl (hb hby at_92) rfl rfl ?_
      show own_S p e below T17 m 94 #[iv i1, iv i2, iv i3, iv i4, iv i5, iv i6, iv c0, iv c1, iv c2, iv c3, iv c4, iv (2 : Int32), rv b2, iv (own_max c0 c1), .unset] [(.ref b2)] _
      refine XS.iload X17.here hx rfl (hb hby at_94) rfl ?_
      refine st19.trans ?_
      refine XS.astore X19.here hx rfl (hb hby at_101) rfl rfl (l' := #[iv i1, iv i2, iv i3, iv i4, iv i5, iv i6, iv c0, iv c1, iv c2, iv c3, iv c4, iv (2 : Int32), rv b2, iv (own_max c0 c1), .unset]) rfl ?_
      show own_S p e below T19 m 103 #[iv i1, iv i2, iv i3, iv i4, iv i5, iv i6, iv c0, iv c1, iv c2, iv c3, iv c4, iv (2 : Int32), rv b2, iv (own_max c0 c1), .unset] [] _
      refine XS.iload X19.here hx rfl (hb hby at_103) rfl ?_
      refine XS.iload X19.here hx rfl (hb hby at_105) rfl ?_
      refine st20 _ ?_
      show own_S p e below T20 m 110 #[iv i1, iv i2, iv i3, iv i4, iv i5, iv i6, iv c0, iv c1, iv c2, iv c3, iv c4, iv (2 : Int32), rv b2, iv (own_max c0 c1), .unset] [(.int (own_max (own_max c0 c1) c2))] _
      refine XS.istore X20.here hx rfl (hb hby at_110) rfl (l' := #[iv i1, iv i2, iv i3, iv i4, iv i5, iv i6, iv c0, iv c1, iv c2, iv c3, iv c4, iv (2 : Int32), rv b2, iv (own_max (own_max c0 c1) c2), .unset]) rfl ?_
      refine XS.iload X20.here hx rfl (hb hby at_112) rfl ?_
      refine XS.iconst X20.here hx rfl (hb hby at_114) ?_
      show own_S p e below T20 m 115 #[iv i1, iv i2, iv i3, iv i4, iv i5, iv i6, iv c0, iv c1, iv c2, iv c3, iv c4, iv (2 : Int32), rv b2, iv (own_max (own_max c0 c1) c2), .unset] [(.int (3 : Int32)), (.int (2 : Int32))] _
      refine XS.icmpYes X20.here hx rfl (pc0 := 115) (pc' := 138) rfl (hb hby at_115) rfl (tlt (by decide : (2 : Int32) < (3 : Int32))).1 (by decide) (by decide) ?_
      refine XS.iload X20.here hx rfl (hb hby at_138) rfl ?_
      refine XS.iconst X20.here hx rfl (hb hby at_140) ?_
      show own_S p e below T20 m 141 #[iv i1, iv i2, iv i3, iv i4, iv i5, iv i6, iv c0, iv c1, iv c2, iv c3, iv c4, iv (2 : Int32), rv b2, iv (own_max (own_max c0 c1) c2), .unset] [(.int (4 : Int32)), (.int (2 : Int32))] _
      refine XS.icmpYes X20.here hx rfl (pc0 := 141) (pc' := 164) rfl (hb hby at_141) rfl (tlt (by decide : (2 : Int32) < (4 : Int32))).1 (by decide) (by decide) ?_
      refine XS.aload X20.here hx rfl (hb hby at_164) rfl rfl ?_
      refine st22.trans ?_
      show own_S p e below T22 m 171 #[iv i1, iv i2, iv i3, iv i4, iv i5, iv i6, iv c0, iv c1, iv c2, iv c3, iv c4, iv (2 : Int32), rv b2, iv (own_max (own_max c0 c1) c2), .unset] [(.int (own_max (own_max c0 c1) c2))] _
      refine XS.istore X22.here hx rfl (hb hby at_171) rfl (l' := #[iv i1, iv i2, iv i3, iv i4, iv i5, iv i6, iv c0, iv c1, iv c2, iv c3, iv c4, iv (2 : Int32), rv b2, iv (own_max (own_max c0 c1) c2), iv (own_max (own_max c0 c1) c2)]) rfl ?_
      refine XS.iload X22.here hx rfl (hb hby at_173) rfl ?_
      refine XS.iload X22.here hx rfl (hb hby at_175) rfl ?_
      show own_S p e below T22 m 177 #[iv i1, iv i2, iv i3, iv i4, iv i5, iv i6, iv c0, iv c1, iv c2, iv c3, iv c4, iv (2 : Int32), rv b2, iv (own_max (own_max c0 c1) c2), iv (own_max (own_max c0 c1) c2)] [(.int (own_max (own_max c0 c1) c2)), (.int (own_max (own_max c0 c1) c2))] _
      refine XS.icmpNo X22.here hx rfl (hb hby at_177) rfl (teq (rfl : (own_max (own_max c0 c1) c2) = (own_max (own_max c0 c1) c2))).2 ?_
      refine XS.iconst X22.here hx rfl (hb hby at_180) ?_
      refine XS.goto X22.here hx rfl (pc0 := 181) (pc' := 185) rfl (hb hby at_181) (by decide) (by decide) ?_
      exact k)
    obtain ⟨fs, hr, hrun, hended, hW, hsame⟩ := X22.leave (v := some (.int (nar .boolean (1 : Int32)))) (fun h => by rw [Bd.returns] at h; cases h)
    refine ⟨_, _, pre23 _ ?_, hrun, hended, _, _, rfl, ?_, ⟨_, rfl⟩, hW, hsame.mono (by decide) (by decide)⟩
    · show own_S p e below T22 m 185 #[iv i1, iv i2, iv i3, iv i4, iv i5, iv i6, iv c0, iv c1, iv c2, iv c3, iv c4, iv (2 : Int32), rv b2, iv (own_max (own_max c0 c1) c2), iv (own_max (own_max c0 c1) c2)] [(.int (1 : Int32))] _
      exact retN X22 hx (t := .boolean) Bd.returns (by simp) (hb hby at_185) hr
    · show Q0 Z i1 i2 i3 i4 i5 i6 h0 n0 _ T22.heap _
      rw [e22]
      exact ⟨rfl, N22⟩
  ·  -- case
    have Zs25 : n0 ≤ T3.heap.size := (Nat.le_trans Zs4 K3.1)
    obtain ⟨cq24, kq24, q24a, q24b, q24c⟩ := isOf hZ rfl E3c
    obtain ⟨_, _, ⟨T24, L24, k24, n24⟩, -, X24, ⟨Lc24, hQ24, l24, y24, z24⟩, st24⟩ := X3.interfaceBack hx (xi := (⟨"com/example/bitstrata/bitstrata/Container", "add", "(C)Lcom/example/bitstrata/bitstrata/Container;"⟩ : MethodName)) (y := (⟨"com/example/bitstrata/bitstrata/ArrayContainer", "add", "(C)Lcom/example/bitstrata/bitstrata/Container;"⟩ : MethodName)) hown (mvT hZ (hw _ (List.mem_of_getElem? (i := 16) rfl))) (mvT hZ (hw _ (List.mem_of_getElem? (i := 17) rfl))) (mvT hZ (hw _ (List.mem_of_getElem? (i := 18) rfl))) (mvT hZ (hw _ (List.mem_of_getElem? (i := 19) rfl))) (mvT hZ (hw _ (List.mem_of_getElem? (i := 20) rfl))) (mvT hZ (hw _ (List.mem_of_getElem? (i := 21) rfl))) (mvT hZ (hw _ (List.mem_of_getElem? (i := 22) rfl))) (mvT hZ (hw _ (List.mem_of_getElem? (i := 23) rfl))) (by decide) (backOf (W := 0) (rmAdd l Z a0 hw [] b2 c1 t3 k_3 [c0] T3.heap n0 Zs25 E3c g_b2 g_t3 Fv3 Fcb3 Vb3 ne_t3 (Nat.le_refl 1 : 1 ≤ [c0].length) (by omega) (trivial : own_srt [c0]) (by intro x hx; cases List.mem_singleton.mp hx; exact hk0 : own_chs [c0]) hk1) hZ (hw _ (List.mem_of_getElem? (i := 24) rfl)) (hw _ (List.mem_of_getElem? (i := 4) rfl)) (by decide) (by decide)) q24a q24b q24c (g := (mkF m 70 #[iv i1, iv i2, iv i3, iv i4, iv i5, iv i6, iv c0, iv c1, iv c2, iv c3, iv c4, iv (3 : Int32), rv b2, iv c0, .unset] [(.int c1), (.ref b2)])) rfl (by rw [hml]; rfl) (Steps.refl _) (argsL := [(.int c1)]) (rest := []) (lenOf pd_6 rfl) rfl (by show 2 * 0 + _ ≤ _; exact Nat.le_of_eq rfl) (hb hby at_70) (fun _ _ => ⟨rfl, rfl, (by decide : 2 + 1 ≤ _), (by decide : 6 + 8 ≤ _)⟩)
    dsimp only [Pt.U, Pt.locs, Pt.cells, Pt.slots] at X24 l24 y24 z24 st24 hQ24
    subst l24 y24 z24
    obtain ⟨ys24, u24, ku24, rfl, N24q, K24, E24c, Fv24, Fc24, V24u, g_u24, ne_u24, -, l1_24, l2_24, hs24, hch24, hm24⟩ := hQ24
    have N24 := Fr.app N3 N24q
    have Zs27 : n0 ≤ T24.heap.size := (Nat.le_trans Zs25 K24.1)
    obtain ⟨_, _, ⟨T26, L26, k26, n26⟩, -, X26, ⟨Lc26, hQ26, l26, y26, z26⟩, st26⟩ := Jvm.LawKit.callS X24 hx (y := (⟨"java/lang/Math", "max", "(II)I"⟩ : MethodName)) hown (mvT hZ (hw _ (List.mem_of_getElem? (i := 39) rfl))) (mvT hZ (hw _ (List.mem_of_getElem? (i := 40) rfl))) (mvT hZ (hw _ (List.mem_of_getElem? (i := 41) rfl))) (mvT hZ (hw _ (List.mem_of_getElem? (i := 42) rfl))) (by decide) (backOf (W := 0) (rmMax l Z a0 hw [] c0 c1 T24.heap n0 Zs27 ) hZ (hw _ (List.mem_of_getElem? (i := 42) rfl)) (hw _ (List.mem_of_getElem? (i := 41) rfl)) (by decide) (by decide)) (g := (mkF m 81 #[iv i1, iv i2, iv i3, iv i4, iv i5, iv i6, iv c0, iv c1, iv c2, iv c3, iv c4, iv (3 : Int32), rv b2, iv c0, .unset] [(.int c1), (.int c0)])) rfl (by rw [hml]; rfl) (argsL := [(.int c0), (.int c1)]) (rest := []) (lenOf pd_2 rfl) rfl (by show 2 * 0 + _ ≤ _; exact Nat.le_of_eq rfl) (hb hby at_81) (fun _ _ => ⟨rfl, rfl, (by decide : 3 + 0 ≤ _), (by decide : 14 + 0 ≤ _)⟩)
    dsimp only [Pt.U, Pt.locs, Pt.cells, Pt.slots] at X26 l26 y26 z26 st26 hQ26
    subst l26 y26 z26
    obtain ⟨rfl, N26q, e26q⟩ := hQ26
    have N26 := Fr.app N24 N26q
    have e26 : T26.heap = T24.heap := e26q
    obtain ⟨cq28, kq28, q28a, q28b, q28c⟩ := isOf hZ e26 E24c
    obtain ⟨_, _, ⟨T28, L28, k28, n28⟩, -, X28, ⟨Lc28, hQ28, l28, y28, z28⟩, st28⟩ := X26.interfaceBack hx (xi := (⟨"com/example/bitstrata/bitstrata/Container", "add", "(C)Lcom/example/bitstrata/bitstrata/Container;"⟩ : MethodName)) (y := (⟨"com/example/bitstrata/bitstrata/ArrayContainer", "add", "(C)Lcom/example/bitstrata/bitstrata/Container;"⟩ : MethodName)) hown (mvT hZ (hw _ (List.mem_of_getElem? (i := 16) rfl))) (mvT hZ (hw _ (List.mem_of_getElem? (i := 17) rfl))) (mvT hZ (hw _ (List.mem_of_getElem? (i := 18) rfl))) (mvT hZ (hw _ (List.mem_of_getElem? (i := 19) rfl))) (mvT hZ (hw _ (List.mem_of_getElem? (i := 20) rfl))) (mvT hZ (hw _ (List.mem_of_getElem? (i := 21) rfl))) (mvT hZ (hw _ (List.mem_of_getElem? (i := 22) rfl))) (mvT hZ (hw _ (List.mem_of_getElem? (i := 23) rfl))) (by decide) (backOf (W := 0) (rmAdd l Z a0 hw [] b2 c2 u24 ku24 ys24 T24.heap n0 Zs27 E24c g_b2 g_u24 Fv24 Fc24 V24u ne_u24 l1_24 (by omega) hs24 hch24 hk2) hZ (hw _ (List.mem_of_getElem? (i := 24) rfl)) (hw _ (List.mem_of_getElem? (i := 4) rfl)) (by decide) (by decide)) q28a q28b q28c (g := (mkF m 96 #[iv i1, iv i2, iv i3, iv i4, iv i5, iv i6, iv c0, iv c1, iv c2, iv c3, iv c4, iv (3 : Int32), rv b2, iv (own_max c0 c1), .unset] [(.int c2), (.ref b2)])) rfl (by rw [hml]; rfl) (Steps.refl _) (argsL := [(.int c2)]) (rest := []) (lenOf pd_6 rfl) rfl (by show 2 * 0 + _ ≤ _; exact Nat.le_of_eq rfl) (hb hby at_96) (fun _ _ => ⟨rfl, e26, (by decide : 3 + 1 ≤ _), (by decide : 14 + 8 ≤ _)⟩)
    dsimp only [Pt.U, Pt.locs, Pt.cells, Pt.slots] at X28 l28 y28 z28 st28 hQ28
    subst l28 y28 z28
    obtain ⟨ys28, u28, ku28, rfl, N28q, K28, E28c, Fv28, Fc28, V28u, g_u28, ne_u28, -, l1_28, l2_28, hs28, hch28, hm28⟩ := hQ28
    have N28 := Fr.app N26 N28q
    have Zs30 : n0 ≤ T28.heap.size := (Nat.le_trans Zs27 K28.1)
    obtain ⟨_, _, ⟨T29, L29, k29, n29⟩, -, X29, ⟨Lc29, hQ29, l29, y29, z29⟩, st29⟩ := Jvm.LawKit.callS X28 hx (y := (⟨"java/lang/Math", "max", "(II)I"⟩ : MethodName)) hown (mvT hZ (hw _ (List.mem_of_getElem? (i := 39) rfl))) (mvT hZ (hw _ (List.mem_of_getElem? (i := 40) rfl))) (mvT hZ (hw _ (List.mem_of_getElem? (i := 41) rfl))) (mvT hZ (hw _ (List.mem_of_getElem? (i := 42) rfl))) (by decide) (backOf (W := 0) (rmMax l Z a0 hw [] (own_max c0 c1) c2 T28.heap n0 Zs30 ) hZ (hw _ (List.mem_of_getElem? (i := 42) rfl)) (hw _ (List.mem_of_getElem? (i := 41) rfl)) (by decide) (by decide)) (g := (mkF m 107 #[iv i1, iv i2, iv i3, iv i4, iv i5, iv i6, iv c0, iv c1, iv c2, iv c3, iv c4, iv (3 : Int32), rv b2, iv (own_max c0 c1), .unset] [(.int c2), (.int (own_max c0 c1))])) rfl (by rw [hml]; rfl) (argsL := [(.int (own_max c0 c1)), (.int c2)]) (rest := []) (lenOf pd_2 rfl) rfl (by show 2 * 0 + _ ≤ _; exact Nat.le_of_eq rfl) (hb hby at_107) (fun _ _ => ⟨rfl, rfl, (by decide : 4 + 0 ≤ _), (by decide : 22 + 0 ≤ _)⟩)
    dsimp only [Pt.U, Pt.locs, Pt.cells, Pt.slots] at X29 l29 y29 z29 st29 hQ29
    subst l29 y29 z29
    obtain ⟨rfl, N29q, e29q⟩ := hQ29
    have N29 := Fr.app N28 N29q
    have e29 : T29.heap = T28.heap := e29q
    obtain ⟨cq31, kq31, q31a, q31b, q31c⟩ := isOf hZ e29 E28c
    obtain ⟨_, _, ⟨T31, L31, k31, n31⟩, -, X31, ⟨Lc31, hQ31, l31, y31, z31⟩, st31⟩ := X29.interfaceBack hx (xi := (⟨"com/example/bitstrata/bitstrata/Container", "add", "(C)Lcom/example/bitstrata/bitstrata/Container;"⟩ : MethodName)) (y := (⟨"com/example/bitstrata/bitstrata/ArrayContainer", "add", "(C)Lcom/example/bitstrata/bitstrata/Container;"⟩ : MethodName)) hown (mvT hZ (hw _ (List.mem_of_getElem? (i := 16) rfl))) (mvT hZ (hw _ (List.mem_of_getElem? (i := 17) rfl))) (mvT hZ (hw _ (List.mem_of_getElem? (i := 18) rfl))) (mvT hZ (hw _ (List.mem_of_getElem? (i := 19) rfl))) (mvT hZ (hw _ (List.mem_of_getElem? (i := 20) rfl))) (mvT hZ (hw _ (List.mem_of_getElem? (i := 21) rfl))) (mvT hZ (hw _ (List.mem_of_getElem? (i := 22) rfl))) (mvT hZ (hw _ (List.mem_of_getElem? (i := 23) rfl))) (by decide) (backOf (W := 0) (rmAdd l Z a0 hw [] b2 c3 u28 ku28 ys28 T28.heap n0 Zs30 E28c g_b2 g_u28 Fv28 Fc28 V28u ne_u28 l1_28 (by omega) hs28 hch28 hk3) hZ (hw _ (List.mem_of_getElem? (i := 24) rfl)) (hw _ (List.mem_of_getElem? (i := 4) rfl)) (by decide) (by decide)) q31a q31b q31c (g := (mkF m 122 #[iv i1, iv i2, iv i3, iv i4, iv i5, iv i6, iv c0, iv c1, iv c2, iv c3, iv c4, iv (3 : Int32), rv b2, iv (own_max (own_max c0 c1) c2), .unset] [(.int c3), (.ref b2)])) rfl (by rw [hml]; rfl) (Steps.refl _) (argsL := [(.int c3)]) (rest := []) (lenOf pd_6 rfl) rfl (by show 2 * 0 + _ ≤ _; exact Nat.le_of_eq rfl) (hb hby at_122) (fun _ _ => ⟨rfl, e29, (by decide : 4 + 1 ≤ _), (by decide : 22 + 8 ≤ _)⟩)
    dsimp only [Pt.U, Pt.locs, Pt.cells, Pt.slots] at X31 l31 y31 z31 st31 hQ31
    subst l31 y31 z31
    obtain ⟨ys31, u31, ku31, rfl, N31q, K31, E31c, Fv31, Fc31, V31u, g_u31, ne_u31, -, l1_31, l2_31, hs31, hch31, hm31⟩ := hQ31
    have N31 := Fr.app N29 N31q
    have Zs33 : n0 ≤ T31.heap.size := (Nat.le_trans Zs30 K31.1)
    obtain ⟨_, _, ⟨T32, L32, k32, n32⟩, -, X32, ⟨Lc32, hQ32, l32, y32, z32⟩, st32⟩ := Jvm.LawKit.callS X31 hx (y := (⟨"java/lang/Math", "max", "(II)I"⟩ : MethodName)) hown (mvT hZ (hw _ (List.mem_of_getElem? (i := 39) rfl))) (mvT hZ (hw _ (List.mem_of_getElem? (i := 40) rfl))) (mvT hZ (hw _ (List.mem_of_getElem? (i := 41) rfl))) (mvT hZ (hw _ (List.mem_of_getElem? (i := 42) rfl))) (by decide) (backOf (W := 0) (rmMax l Z a0 hw [] (own_max (own_max c0 c1) c2) c3 T31.heap n0 Zs33 ) hZ (hw _ (List.mem_of_getElem? (i := 42) rfl)) (hw _ (List.mem_of_getElem? (i := 41) rfl)) (by decide) (by decide)) (g := (mkF m 133 #[iv i1, iv i2, iv i3, iv i4, iv i5, iv i6, iv c0, iv c1, iv c2, iv c3, iv c4, iv (3 : Int32), rv b2, iv (own_max (own_max c0 c1) c2), .unset] [(.int c3), (.int (own_max (own_max c0 c1) c2))])) rfl (by rw [hml]; rfl) (argsL := [(.int (own_max (own_max c0 c1) c2)), (.int c3)]) (rest := []) (lenOf pd_2 rfl) rfl (by show 2 * 0 + _ ≤ _; exact Nat.le_of_eq rfl) (hb hby at_133) (fun _ _ => ⟨rfl, rfl, (by decide : 5 + 0 ≤ _), (by decide : 30 + 0 ≤ _)⟩)
    dsimp only [Pt.U, Pt.locs, Pt.cells, Pt.slots] at X32 l32 y32 z32 st32 hQ32
    subst l32 y32 z32
    obtain ⟨rfl, N32q, e32q⟩ := hQ32
    have N32 := Fr.app N31 N32q
    have e32 : T32.heap = T31.heap := e32q
    obtain ⟨cq34, kq34, q34a, q34b, q34c⟩ := isOf hZ e32 E31c
    obtain ⟨_, _, ⟨T34, L34, k34, n34⟩, -, X34, ⟨Lc34, hQ34, l34, y34, z34⟩, st34⟩ := X32.interfaceBack hx (xi := (⟨"com/example/bitstrata/bitstrata/Container", "last", "()C"⟩ : MethodName)) (y := (⟨"com/example/bitstrata/bitstrata/ArrayContainer", "last", "()C"⟩ : MethodName)) hown (mvT hZ (hw _ (List.mem_of_getElem? (i := 43) rfl))) (mvT hZ (hw _ (List.mem_of_getElem? (i := 44) rfl))) (mvT hZ (hw _ (List.mem_of_getElem? (i := 45) rfl))) (mvT hZ (hw _ (List.mem_of_getElem? (i := 46) rfl))) (mvT hZ (hw _ (List.mem_of_getElem? (i := 47) rfl))) (mvT hZ (hw _ (List.mem_of_getElem? (i := 48) rfl))) (mvT hZ (hw _ (List.mem_of_getElem? (i := 49) rfl))) (mvT hZ (hw _ (List.mem_of_getElem? (i := 23) rfl))) (by decide) (backOf (W := 0) (rmLast l Z a0 hw [] b2 u31 ku31 ys31 T31.heap n0 Zs33 Fv31 Fc31 V31u l1_31 (by omega) hch31) hZ (hw _ (List.mem_of_getElem? (i := 50) rfl)) (hw _ (List.mem_of_getElem? (i := 4) rfl)) (by decide) (by decide)) q34a q34b q34c (g := (mkF m 166 #[iv i1, iv i2, iv i3, iv i4, iv i5, iv i6, iv c0, iv c1, iv c2, iv c3, iv c4, iv (3 : Int32), rv b2, iv (own_max (own_max (own_max c0 c1) c2) c3), .unset] [(.ref b2)])) rfl (by rw [hml]; rfl) (Steps.refl _) (argsL := []) (rest := []) (lenOf pd_5 rfl) rfl (by show 2 * 0 + _ ≤ _; exact Nat.le_of_eq rfl) (hb hby at_166) (fun _ _ => ⟨rfl, e32, (by decide : 5 + 0 ≤ _), (by decide : 30 + 0 ≤ _)⟩)
    dsimp only [Pt.U, Pt.locs, Pt.cells, Pt.slots] at X34 l34 y34 z34 st34 hQ34
    subst l34 y34 z34
    obtain ⟨hv34, N34q, e34q⟩ := hQ34
    have N34 := Fr.app N32 N34q
    rw [own_top_last (own_top_add (own_top_add (own_top_add (own_top1 c0) hm24) hm28) hm31) hs31 l1_31] at hv34
    subst hv34
    have e34 : T34.heap = T31.heap := e34q
    have pre35 : ∀ tg, own_S p e below T34 m 185 #[iv i1, iv i2, iv i3, iv i4, iv i5, iv i6, iv c0, iv c1, iv c2, iv c3, iv c4, iv (3 : Int32), rv b2, iv (own_max (own_max (own_max c0 c1) c2) c3), iv (own_max (own_max (own_max c0 c1) c2) c3)] [(.int (1 : Int32))] tg → Steps p.tables e below (s₁.setTop (entryFrame m #[(.int i1), (.int i2), (.int i3), (.int i4), (.int i5), (.int i6)] maxLocals)) tg := fun tg k => pre5 tg (by
      show own_S p e below T3 m 60 #[iv i1, iv i2, iv i3, iv i4, iv i5, iv i6, iv c0, iv c1, iv c2, iv c3, iv c4, iv (3 : Int32), rv b2, iv c0, .unset] [] _
      refine XS.iload X3.here hx rfl (hb hby at_60) rfl ?_
      refine XS.iconst X3.here hx rfl (hb hby at_62) ?_
      refine XS.icmpNo X3.here hx rfl (hb hby at_63) rfl (flt (by decide : ¬ ((3 : Int32) < (1 : Int32)))).1 ?_
      show own_S p e below T3 m 66 #[iv i1, iv i2, iv i3, iv i4, iv i5, iv i6, iv c0, iv c1, iv c2, iv c3, iv c4, iv (3 : Int32), rv b2, iv c0, .unset] [] _
      refine XS.aload X3.here hx rfl (hb hby at_66) rfl rfl ?_
      refine XS.iload X3.here hx rfl (hb hby at_68) rfl ?_
      refine st24.trans ?_
      show own_S p e below T24 m 75 #[iv i1, iv i2, iv i3, iv i4, iv i5, iv i6, iv c0, iv c1, iv c2, iv c3, iv c4, iv (3 : Int32), rv b2, iv c0, .unset] [(.ref b2)] _
      refine XS.astore X24.here hx rfl (hb hby at_75) rfl rfl (l' := #[iv i1, iv i2, iv i3, iv i4, iv i5, iv i6, iv c0, iv c1, iv c2, iv c3, iv c4, iv (3 : Int32), rv b2, iv c0, .unset]) rfl ?_
      refine XS.iload X24.here hx rfl (hb hby at_77) rfl ?_
      refine XS.iload X24.here hx rfl (hb hby at_79) rfl ?_
      show own_S p e below T24 m 81 #[iv i1, iv i2, iv i3, iv i4, iv i5, iv i6, iv c0, iv c1, iv c2, iv c3, iv c4, iv (3 : Int32), rv b2, iv c0, .unset] [(.int c1), (.int c0)] _
      refine st26 _ ?_
      refine XS.istore X26.here hx rfl (hb hby at_84) rfl (l' := #[iv i1, iv i2, iv i3, iv i4, iv i5, iv i6, iv c0, iv c1, iv c2, iv c3, iv c4, iv (3 : Int32), rv b2, iv (own_max c0 c1), .unset]) rfl ?_
      refine XS.iload X26.here hx rfl (hb hby at_86) rfl ?_
      show own_S p e below T26 m 88 #[iv i1, iv i2, iv i3, iv i4, iv i5, iv i6, iv c0, iv c1, iv c2, iv c3, iv c4, iv (3 : Int32), rv b2, iv (own_max c0 c1), .unset] [(.int (3 : Int32))] _
      refine XS.iconst X26.here hx rfl (hb hby at_88) ?_
      refine XS.icmpNo X26.here hx rfl (hb hby at_89) rfl (flt (by decide : ¬ ((3 : Int32) < (2 : Int32)))).1 ?_
      refine XS.aload X26.here hx rfl (hb hby at_92) rfl rfl ?_
      show own_S p e below T26 m 94 #[iv i1, iv i2, iv i3, iv i4, iv i5, iv i6, iv c0, iv c1, iv c2, iv c3, iv c4, iv (3 : Int32), rv b2, iv (own_max c0 c1), .unset] [(.ref b2)] _
      refine XS.iload X26.here hx rfl (hb hby at_94) rfl ?_
      refine st28.trans ?_
      refine XS.astore X28.here hx rfl (hb hby at_101) rfl rfl (l' := #[iv i1, iv i2, iv i3, iv i4, iv i5, iv i6, iv c0, iv c1, iv c2, iv c3, iv c4, iv (3 : Int32), rv b2, iv (own_max c0 c1), .unset]) rfl ?_
      show own_S p e below T28 m 103 #[iv i1, iv i2, iv i3, iv i4, iv i5, iv i6, iv c0, iv c1, iv c2, iv c3, iv c4, iv (3 : Int32), rv b2, iv (own_max c0 c1), .unset] [] _
      refine XS.iload X28.here hx rfl (hb hby at_103) rfl ?_
      refine XS.iload X28.here hx rfl (hb hby at_105) rfl ?_
      refine st29 _ ?_
      show own_S p e below T29 m 110 #[iv i1, iv i2, iv i3, iv i4, iv i5, iv i6, iv c0, iv c1, iv c2, iv c3, iv c4, iv (3 : Int32), rv b2, iv (own_max c0 c1), .unset] [(.int (own_max (own_max c0 c1) c2))] _
      refine XS.istore X29.here hx rfl (hb hby at_110) rfl (l' := #[iv i1, iv i2, iv i3, iv i4, iv i5, iv i6, iv c0, iv c1, iv c2, iv c3, iv c4, iv (3 : Int32), rv b2, iv (own_max (own_max c0 c1) c2), .unset]) rfl ?_
      refine XS.iload X29.here hx rfl (hb hby at_112) rfl ?_
      refine XS.iconst X29.here hx rfl (hb hby at_114) ?_
      show own_S p e below T29 m 115 #[iv i1, iv i2, iv i3, iv i4, iv i5, iv i6, iv c0, iv c1, iv c2, iv c3, iv c4, iv (3 : Int32), rv b2, iv (own_max (own_max c0 c1) c2), .unset] [(.int (3 : Int32)), (.int (3 : Int32))] _
      refine XS.icmpNo X29.here hx rfl (hb hby at_115) rfl (flt (by decide : ¬ ((3 : Int32) < (3 : Int32)))).1 ?_
      refine XS.aload X29.here hx rfl (hb hby at_118) rfl rfl ?_
      refine XS.iload X29.here hx rfl (hb hby at_120) rfl ?_
      show own_S p e below T29 m 122 #[iv i1, iv i2, iv i3, iv i4, iv i5, iv i6, iv c0, iv c1, iv c2, iv c3, iv c4, iv (3 : Int32), rv b2, iv (own_max (own_max c0 c1) c2), .unset] [(.int c3), (.ref b2)] _
      refine st31.trans ?_
      refine XS.astore X31.here hx rfl (hb hby at_127) rfl rfl (l' := #[iv i1, iv i2, iv i3, iv i4, iv i5, iv i6, iv c0, iv c1, iv c2, iv c3, iv c4, iv (3 : Int32), rv b2, iv (own_max (own_max c0 c1) c2), .unset]) rfl ?_
      refine XS.iload X31.here hx rfl (hb hby at_129) rfl ?_
      show own_S p e below T31 m 131 #[iv i1, iv i2, iv i3, iv i4, iv i5, iv i6, iv c0, iv c1, iv c2, iv c3, iv c4, iv (3 : Int32), rv b2, iv (own_max (own_max c0 c1) c2), .unset] [(.int (own_max (own_max c0 c1) c2))] _
      refine XS.iload X31.here hx rfl (hb hby at_131) rfl ?_
      refine st32 _ ?_
      refine XS.istore X32.here hx rfl (hb hby at_136) rfl (l' := #[iv i1, iv i2, iv i3, iv i4, iv i5, iv i6, iv c0, iv c1, iv c2, iv c3, iv c4, iv (3 : Int32), rv b2, iv (own_max (own_max (own_max c0 c1) c2) c3), .unset]) rfl ?_
      show own_S p e below T32 m 138 #[iv i1, iv i2, iv i3, iv i4, iv i5, iv i6, iv c0, iv c1, iv c2, iv c3, iv c4, iv (3 : Int32), rv b2, iv (own_max (own_max (own_max c0 c1) c2) c3), .unset] [] _
      refine XS.iload X32.here hx rfl (hb hby at_138) rfl ?_
      refine XS.iconst X32.here hx rfl (hb hby at_140) ?_
      refine XS.icmpYes X32.here hx rfl (pc0 := 141) (pc' := 164) rfl (hb hby at_141) rfl (tlt (by decide : (3 : Int32) < (4 : Int32))).1 (by decide) (by decide) ?_
      show own_S p e below T32 m 164 #[iv i1, iv i2, iv i3, iv i4, iv i5, iv i6, iv c0, iv c1, iv c2, iv c3, iv c4, iv (3 : Int32), rv b2, iv (own_max (own_max (own_max c0 c1) c2) c3), .unset] [] _
      refine XS.aload X32.here hx rfl (hb hby at_164) rfl rfl ?_
      refine st34.trans ?_
      refine XS.istore X34.here hx rfl (hb hby at_171) rfl (l' := #[iv i1, iv i2, iv i3, iv i4, iv i5, iv i6, iv c0, iv c1, iv c2, iv c3, iv c4, iv (3 : Int32), rv b2, iv (own_max (own_max (own_max c0 c1) c2) c3), iv (own_max (own_max (own_max c0 c1) c2) c3)]) rfl ?_
      show own_S p e below T34 m 173 #[iv i1, iv i2, iv i3, iv i4, iv i5, iv i6, iv c0, iv c1, iv c2, iv c3, iv c4, iv (3 : Int32), rv b2, iv (own_max (own_max (own_max c0 c1) c2) c3), iv (own_max (own_max (own_max c0 c1) c2) c3)] [] _
      refine XS.iload X34.here hx rfl (hb hby at_173) rfl ?_
      refine XS.iload X34.here hx rfl (hb hby at_175) rfl ?_
      refine XS.icmpNo X34.here hx rfl (hb hby at_177) rfl (teq (rfl : (own_max (own_max (own_max c0 c1) c2) c3) = (own_max (own_max (own_max c0 c1) c2) c3))).2 ?_
      show own_S p e below T34 m 180 #[iv i1, iv i2, iv i3, iv i4, iv i5, iv i6, iv c0, iv c1, iv c2, iv c3, iv c4, iv (3 : Int32), rv b2, iv (own_max (own_max (own_max c0 c1) c2) c3), iv (own_max (own_max (own_max c0 c1) c2) c3)] [] _
      refine XS.iconst X34.here hx rfl (hb hby at_180) ?_
      refine XS.goto X34.here hx rfl (pc0 := 181) (pc' := 185) rfl (hb hby at_181) (by decide) (by decide) ?_
      exact k)
    obtain ⟨fs, hr, hrun, hended, hW, hsame⟩ := X34.leave (v := some (.int (nar .boolean (1 : Int32)))) (fun h => by rw [Bd.returns] at h; cases h)
    refine ⟨_, _, pre35 _ ?_, hrun, hended, _, _, rfl, ?_, ⟨_, rfl⟩, hW, hsame.mono (by decide) (by decide)⟩
    · show own_S p e below T34 m 185 #[iv i1, iv i2, iv i3, iv i4, iv i5, iv i6, iv c0, iv c1, iv c2, iv c3, iv c4, iv (3 : Int32), rv b2, iv (own_max (own_max (own_max c0 c1) c2) c3), iv (own_max (own_max (own_max c0 c1) c2) c3)] [(.int (1 : Int32))] _
      exact retN X34 hx (t := .boolean) Bd.returns (by simp) (hb hby at_185) hr
    · show Q0 Z i1 i2 i3 i4 i5 i6 h0 n0 _ T34.heap _
      rw [e34]
      exact ⟨rfl, N34⟩
  ·  -- case
    have Zs37 : n0 ≤ T3.heap.size := (Nat.le_trans Zs4 K3.1)
    obtain ⟨cq36, kq36, q36a, q36b, q36c⟩ := isOf hZ rfl E3c
    obtain ⟨_, _, ⟨T36, L36, k36, n36⟩, -, X36, ⟨Lc36, hQ36, l36, y36, z36⟩, st36⟩ := X3.interfaceBack hx (xi := (⟨"com/example/bitstrata/bitstrata/Container", "add", "(C)Lcom/example/bitstrata/bitstrata/Container;"⟩ : MethodName)) (y := (⟨"com/example/bitstrata/bitstrata/ArrayContainer", "add", "(C)Lcom/example/bitstrata/bitstrata/Container;"⟩ : MethodName)) hown (mvT hZ (hw _ (List.mem_of_getElem? (i := 16) rfl))) (mvT hZ (hw _ (List.mem_of_getElem? (i := 17) rfl))) (mvT hZ (hw _ (List.mem_of_getElem? (i := 18) rfl))) (mvT hZ (hw _ (List.mem_of_getElem? (i := 19) rfl))) (mvT hZ (hw _ (List.mem_of_getElem? (i := 20) rfl))) (mvT hZ (hw _ (List.mem_of_getElem? (i := 21) rfl))) (mvT hZ (hw _ (List.mem_of_getElem? (i := 22) rfl))) (mvT hZ (hw _ (List.mem_of_getElem? (i := 23) rfl))) (by decide) (backOf (W := 0) (rmAdd l Z a0 hw [] b2 c1 t3 k_3 [c0] T3.heap n0 Zs37 E3c g_b2 g_t3 Fv3 Fcb3 Vb3 ne_t3 (Nat.le_refl 1 : 1 ≤ [c0].length) (by omega) (trivial : own_srt [c0]) (by intro x hx; cases List.mem_singleton.mp hx; exact hk0 : own_chs [c0]) hk1) hZ (hw _ (List.mem_of_getElem? (i := 24) rfl)) (hw _ (List.mem_of_getElem? (i := 4) rfl)) (by decide) (by decide)) q36a q36b q36c (g := (mkF m 70 #[iv i1, iv i2, iv i3, iv i4, iv i5, iv i6, iv c0, iv c1, iv c2, iv c3, iv c4, iv (4 : Int32), rv b2, iv c0, .unset] [(.int c1), (.ref b2)])) rfl (by rw [hml]; rfl) (Steps.refl _) (argsL := [(.int c1)]) (rest := []) (lenOf pd_6 rfl) rfl (by show 2 * 0 + _ ≤ _; exact Nat.le_of_eq rfl) (hb hby at_70) (fun _ _ => ⟨rfl, rfl, (by decide : 2 + 1 ≤ _), (by decide : 6 + 8 ≤ _)⟩)
    dsimp only [Pt.U, Pt.locs, Pt.cells, Pt.slots] at X36 l36 y36 z36 st36 hQ36
    subst l36 y36 z36
    obtain ⟨ys36, u36, ku36, rfl, N36q, K36, E36c, Fv36, Fc36, V36u, g_u36, ne_u36, -, l1_36, l2_36, hs36, hch36, hm36⟩ := hQ36
    have N36 := Fr.app N3 N36q
    have Zs39 : n0 ≤ T36.heap.size := (Nat.le_trans Zs37 K36.1)
    obtain ⟨_, _, ⟨T38, L38, k38, n38⟩, -, X38, ⟨Lc38, hQ38, l38, y38, z38⟩, st38⟩ := Jvm.LawKit.callS X36 hx (y := (⟨"java/lang/Math", "max", "(II)I"⟩ : MethodName)) hown (mvT hZ (hw _ (List.mem_of_getElem? (i := 39) rfl))) (mvT hZ (hw _ (List.mem_of_getElem? (i := 40) rfl))) (mvT hZ (hw _ (List.mem_of_getElem? (i := 41) rfl))) (mvT hZ (hw _ (List.mem_of_getElem? (i := 42) rfl))) (by decide) (backOf (W := 0) (rmMax l Z a0 hw [] c0 c1 T36.heap n0 Zs39 ) hZ (hw _ (List.mem_of_getElem? (i := 42) rfl)) (hw _ (List.mem_of_getElem? (i := 41) rfl)) (by decide) (by decide)) (g := (mkF m 81 #[iv i1, iv i2, iv i3, iv i4, iv i5, iv i6, iv c0, iv c1, iv c2, iv c3, iv c4, iv (4 : Int32), rv b2, iv c0, .unset] [(.int c1), (.int c0)])) rfl (by rw [hml]; rfl) (argsL := [(.int c0), (.int c1)]) (rest := []) (lenOf pd_2 rfl) rfl (by show 2 * 0 + _ ≤ _; exact Nat.le_of_eq rfl) (hb hby at_81) (fun _ _ => ⟨rfl, rfl, (by decide : 3 + 0 ≤ _), (by decide : 14 + 0 ≤ _)⟩)
    dsimp only [Pt.U, Pt.locs, Pt.cells, Pt.slots] at X38 l38 y38 z38 st38 hQ38
    subst l38 y38 z38
    obtain ⟨rfl, N38q, e38q⟩ := hQ38
    have N38 := Fr.app N36 N38q
    have e38 : T38.heap = T36.heap := e38q
    obtain ⟨cq40, kq40, q40a, q40b, q40c⟩ := isOf hZ e38 E36c
    obtain ⟨_, _, ⟨T40, L40, k40, n40⟩, -, X40, ⟨Lc40, hQ40, l40, y40, z40⟩, st40⟩ := X38.interfaceBack hx (xi := (⟨"com/example/bitstrata/bitstrata/Container", "add", "(C)Lcom/example/bitstrata/bitstrata/Container;"⟩ : MethodName)) (y := (⟨"com/example/bitstrata/bitstrata/ArrayContainer", "add", "(C)Lcom/example/bitstrata/bitstrata/Container;"⟩ : MethodName)) hown (mvT hZ (hw _ (List.mem_of_getElem? (i := 16) rfl))) (mvT hZ (hw _ (List.mem_of_getElem? (i := 17) rfl))) (mvT hZ (hw _ (List.mem_of_getElem? (i := 18) rfl))) (mvT hZ (hw _ (List.mem_of_getElem? (i := 19) rfl))) (mvT hZ (hw _ (List.mem_of_getElem? (i := 20) rfl))) (mvT hZ (hw _ (List.mem_of_getElem? (i := 21) rfl))) (mvT hZ (hw _ (List.mem_of_getElem? (i := 22) rfl))) (mvT hZ (hw _ (List.mem_of_getElem? (i := 23) rfl))) (by decide) (backOf (W := 0) (rmAdd l Z a0 hw [] b2 c2 u36 ku36 ys36 T36.heap n0 Zs39 E36c g_b2 g_u36 Fv36 Fc36 V36u ne_u36 l1_36 (by omega) hs36 hch36 hk2) hZ (hw _ (List.mem_of_getElem? (i := 24) rfl)) (hw _ (List.mem_of_getElem? (i := 4) rfl)) (by decide) (by decide)) q40a q40b q40c (g := (mkF m 96 #[iv i1, iv i2, iv i3, iv i4, iv i5, iv i6, iv c0, iv c1, iv c2, iv c3, iv c4, iv (4 : Int32), rv b2, iv (own_max c0 c1), .unset] [(.int c2), (.ref b2)])) rfl (by rw [hml]; rfl) (Steps.refl _) (argsL := [(.int c2)]) (rest := []) (lenOf pd_6 rfl) rfl (by show 2 * 0 + _ ≤ _; exact Nat.le_of_eq rfl) (hb hby at_96) (fun _ _ => ⟨rfl, e38, (by decide : 3 + 1 ≤ _), (by decide : 14 + 8 ≤ _)⟩)
    dsimp only [Pt.U, Pt.locs, Pt.cells, Pt.slots] at X40 l40 y40 z40 st40 hQ40
    subst l40 y40 z40
    obtain ⟨ys40, u40, ku40, rfl, N40q, K40, E40c, Fv40, Fc40, V40u, g_u40, ne_u40, -, l1_40, l2_40, hs40, hch40, hm40⟩ := hQ40
    have N40 := Fr.app N38 N40q
    have Zs42 : n0 ≤ T40.heap.size := (Nat.le_trans Zs39 K40.1)
    obtain ⟨_, _, ⟨T41, L41, k41, n41⟩, -, X41, ⟨Lc41, hQ41, l41, y41, z41⟩, st41⟩ := Jvm.LawKit.callS X40 hx (y := (⟨"java/lang/Math", "max", "(II)I"⟩ : MethodName)) hown (mvT hZ (hw _ (List.mem_of_getElem? (i := 39) rfl))) (mvT hZ (hw _ (List.mem_of_getElem? (i := 40) rfl))) (mvT hZ (hw _ (List.mem_of_getElem? (i := 41) rfl))) (mvT hZ (hw _ (List.mem_of_getElem? (i := 42) rfl))) (by decide) (backOf (W := 0) (rmMax l Z a0 hw [] (own_max c0 c1) c2 T40.heap n0 Zs42 ) hZ (hw _ (List.mem_of_getElem? (i := 42) rfl)) (hw _ (List.mem_of_getElem? (i := 41) rfl)) (by decide) (by decide)) (g := (mkF m 107 #[iv i1, iv i2, iv i3, iv i4, iv i5, iv i6, iv c0, iv c1, iv c2, iv c3, iv c4, iv (4 : Int32), rv b2, iv (own_max c0 c1), .unset] [(.int c2), (.int (own_max c0 c1))])) rfl (by rw [hml]; rfl) (argsL := [(.int (own_max c0 c1)), (.int c2)]) (rest := []) (lenOf pd_2 rfl) rfl (by show 2 * 0 + _ ≤ _; exact Nat.le_of_eq rfl) (hb hby at_107) (fun _ _ => ⟨rfl, rfl, (by decide : 4 + 0 ≤ _), (by decide : 22 + 0 ≤ _)⟩)
    dsimp only [Pt.U, Pt.locs, Pt.cells, Pt.slots] at X41 l41 y41 z41 st41 hQ41
    subst l41 y41 z41
    obtain ⟨rfl, N41q, e41q⟩ := hQ41
    have N41 := Fr.app N40 N41q
    have e41 : T41.heap = T40.heap := e41q
    obtain ⟨cq43, kq43, q43a, q43b, q43c⟩ := isOf hZ e41 E40c
    obtain ⟨_, _, ⟨T43, L43, k43, n43⟩, -, X43, ⟨Lc43, hQ43, l43, y43, z43⟩, st43⟩ := X41.interfaceBack hx (xi := (⟨"com/example/bitstrata/bitstrata/Container", "add", "(C)Lcom/example/bitstrata/bitstrata/Container;"⟩ : MethodName)) (y := (⟨"com/example/bitstrata/bitstrata/ArrayContainer", "add", "(C)Lcom/example/bitstrata/bitstrata/Container;"⟩ : MethodName)) hown (mvT hZ (hw _ (List.mem_of_getElem? (i := 16) rfl))) (mvT hZ (hw _ (List.mem_of_getElem? (i := 17) rfl))) (mvT hZ (hw _ (List.mem_of_getElem? (i := 18) rfl))) (mvT hZ (hw _ (List.mem_of_getElem? (i := 19) rfl))) (mvT hZ (hw _ (List.mem_of_getElem? (i := 20) rfl))) (mvT hZ (hw _ (List.mem_of_getElem? (i := 21) rfl))) (mvT hZ (hw _ (List.mem_of_getElem? (i := 22) rfl))) (mvT hZ (hw _ (List.mem_of_getElem? (i := 23) rfl))) (by decide) (backOf (W := 0) (rmAdd l Z a0 hw [] b2 c3 u40 ku40 ys40 T40.heap n0 Zs42 E40c g_b2 g_u40 Fv40 Fc40 V40u ne_u40 l1_40 (by omega) hs40 hch40 hk3) hZ (hw _ (List.mem_of_getElem? (i := 24) rfl)) (hw _ (List.mem_of_getElem? (i := 4) rfl)) (by decide) (by decide)) q43a q43b q43c (g := (mkF m 122 #[iv i1, iv i2, iv i3, iv i4, iv i5, iv i6, iv c0, iv c1, iv c2, iv c3, iv c4, iv (4 : Int32), rv b2, iv (own_max (own_max c0 c1) c2), .unset] [(.int c3), (.ref b2)])) rfl (by rw [hml]; rfl) (Steps.refl _) (argsL := [(.int c3)]) (rest := []) (lenOf pd_6 rfl) rfl (by show 2 * 0 + _ ≤ _; exact Nat.le_of_eq rfl) (hb hby at_122) (fun _ _ => ⟨rfl, e41, (by decide : 4 + 1 ≤ _), (by decide : 22 + 8 ≤ _)⟩)
    dsimp only [Pt.U, Pt.locs, Pt.cells, Pt.slots] at X43 l43 y43 z43 st43 hQ43
    subst l43 y43 z43
    obtain ⟨ys43, u43, ku43, rfl, N43q, K43, E43c, Fv43, Fc43, V43u, g_u43, ne_u43, -, l1_43, l2_43, hs43, hch43, hm43⟩ := hQ43
    have N43 := Fr.app N41 N43q
    have Zs45 : n0 ≤ T43.heap.size := (Nat.le_trans Zs42 K43.1)
    obtain ⟨_, _, ⟨T44, L44, k44, n44⟩, -, X44, ⟨Lc44, hQ44, l44, y44, z44⟩, st44⟩ := Jvm.LawKit.callS X43 hx (y := (⟨"java/lang/Math", "max", "(II)I"⟩ : MethodName)) hown (mvT hZ (hw _ (List.mem_of_getElem? (i := 39) rfl))) (mvT hZ (hw _ (List.mem_of_getElem? (i := 40) rfl))) (mvT hZ (hw _ (List.mem_of_getElem? (i := 41) rfl))) (mvT hZ (hw _ (List.mem_of_getElem? (i := 42) rfl))) (by decide) (backOf (W := 0) (rmMax l Z a0 hw [] (own_max (own_max c0 c1) c2) c3 T43.heap n0 Zs45 ) hZ (hw _ (List.mem_of_getElem? (i := 42) rfl)) (hw _ (List.mem_of_getElem? (i := 41) rfl)) (by decide) (by decide)) (g := (mkF m 133 #[iv i1, iv i2, iv i3, iv i4, iv i5, iv i6, iv c0, iv c1, iv c2, iv c3, iv c4, iv (4 : Int32), rv b2, iv (own_max (own_max c0 c1) c2), .unset] [(.int c3), (.int (own_max (own_max c0 c1) c2))])) rfl (by rw [hml]; rfl) (argsL := [(.int (own_max (own_max c0 c1) c2)), (.int c3)]) (rest := []) (lenOf pd_2 rfl) rfl (by show 2 * 0 + _ ≤ _; exact Nat.le_of_eq rfl) (hb hby at_133) (fun _ _ => ⟨rfl, rfl, (by decide : 5 + 0 ≤ _), (by decide : 30 + 0 ≤ _)⟩)
    dsimp only [Pt.U, Pt.locs, Pt.cells, Pt.slots] at X44 l44 y44 z44 st44 hQ44
    subst l44 y44 z44
    obtain ⟨rfl, N44q, e44q⟩ := hQ44
    have N44 := Fr.app N43 N44q
    have e44 : T44.heap = T43.heap := e44q
    obtain ⟨cq46, kq46, q46a, q46b, q46c⟩ := isOf hZ e44 E43c
    obtain ⟨_, _, ⟨T46, L46, k46, n46⟩, -, X46, ⟨Lc46, hQ46, l46, y46, z46⟩, st46⟩ := X44.interfaceBack hx (xi := (⟨"com/example/bitstrata/bitstrata/Container", "add", "(C)Lcom/example/bitstrata/bitstrata/Container;"⟩ : MethodName)) (y := (⟨"com/example/bitstrata/bitstrata/ArrayContainer", "add", "(C)Lcom/example/bitstrata/bitstrata/Container;"⟩ : MethodName)) hown (mvT hZ (hw _ (List.mem_of_getElem? (i := 16) rfl))) (mvT hZ (hw _ (List.mem_of_getElem? (i := 17) rfl))) (mvT hZ (hw _ (List.mem_of_getElem? (i := 18) rfl))) (mvT hZ (hw _ (List.mem_of_getElem? (i := 19) rfl))) (mvT hZ (hw _ (List.mem_of_getElem? (i := 20) rfl))) (mvT hZ (hw _ (List.mem_of_getElem? (i := 21) rfl))) (mvT hZ (hw _ (List.mem_of_getElem? (i := 22) rfl))) (mvT hZ (hw _ (List.mem_of_getElem? (i := 23) rfl))) (by decide) (backOf (W := 0) (rmAdd l Z a0 hw [] b2 c4 u43 ku43 ys43 T43.heap n0 Zs45 E43c g_b2 g_u43 Fv43 Fc43 V43u ne_u43 l1_43 (by omega) hs43 hch43 hk4) hZ (hw _ (List.mem_of_getElem? (i := 24) rfl)) (hw _ (List.mem_of_getElem? (i := 4) rfl)) (by decide) (by decide)) q46a q46b q46c (g := (mkF m 148 #[iv i1, iv i2, iv i3, iv i4, iv i5, iv i6, iv c0, iv c1, iv c2, iv c3, iv c4, iv (4 : Int32), rv b2, iv (own_max (own_max (own_max c0 c1) c2) c3), .unset] [(.int c4), (.ref b2)])) rfl (by rw [hml]; rfl) (Steps.refl _) (argsL := [(.int c4)]) (rest := []) (lenOf pd_6 rfl) rfl (by show 2 * 0 + _ ≤ _; exact Nat.le_of_eq rfl) (hb hby at_148) (fun _ _ => ⟨rfl, e44, (by decide : 5 + 1 ≤ _), (by decide : 30 + 8 ≤ _)⟩)
    dsimp only [Pt.U, Pt.locs, Pt.cells, Pt.slots] at X46 l46 y46 z46 st46 hQ46
    subst l46 y46 z46
    obtain ⟨ys46, u46, ku46, rfl, N46q, K46, E46c, Fv46, Fc46, V46u, g_u46, ne_u46, -, l1_46, l2_46, hs46, hch46, hm46⟩ := hQ46
    have N46 := Fr.app N44 N46q
    have Zs48 : n0 ≤ T46.heap.size := (Nat.le_trans Zs45 K46.1)
    obtain ⟨_, _, ⟨T47, L47, k47, n47⟩, -, X47, ⟨Lc47, hQ47, l47, y47, z47⟩, st47⟩ := Jvm.LawKit.callS X46 hx (y := (⟨"java/lang/Math", "max", "(II)I"⟩ : MethodName)) hown (mvT hZ (hw _ (List.mem_of_getElem? (i := 39) rfl))) (mvT hZ (hw _ (List.mem_of_getElem? (i := 40) rfl))) (mvT hZ (hw _ (List.mem_of_getElem? (i := 41) rfl))) (mvT hZ (hw _ (List.mem_of_getElem? (i := 42) rfl))) (by decide) (backOf (W := 0) (rmMax l Z a0 hw [] (own_max (own_max (own_max c0 c1) c2) c3) c4 T46.heap n0 Zs48 ) hZ (hw _ (List.mem_of_getElem? (i := 42) rfl)) (hw _ (List.mem_of_getElem? (i := 41) rfl)) (by decide) (by decide)) (g := (mkF m 159 #[iv i1, iv i2, iv i3, iv i4, iv i5, iv i6, iv c0, iv c1, iv c2, iv c3, iv c4, iv (4 : Int32), rv b2, iv (own_max (own_max (own_max c0 c1) c2) c3), .unset] [(.int c4), (.int (own_max (own_max (own_max c0 c1) c2) c3))])) rfl (by rw [hml]; rfl) (argsL := [(.int (own_max (own_max (own_max c0 c1) c2) c3)), (.int c4)]) (rest := []) (lenOf pd_2 rfl) rfl (by show 2 * 0 + _ ≤ _; exact Nat.le_of_eq rfl) (hb hby at_159) (fun _ _ => ⟨rfl, rfl, (by decide : 6 + 0 ≤ _), (by decide : 38 + 0 ≤ _)⟩)
    dsimp only [Pt.U, Pt.locs, Pt.cells, Pt.slots] at X47 l47 y47 z47 st47 hQ47
    subst l47 y47 z47
    obtain ⟨rfl, N47q, e47q⟩ := hQ47
    have N47 := Fr.app N46 N47q
    have e47 : T47.heap = T46.heap := e47q
    obtain ⟨cq49, kq49, q49a, q49b, q49c⟩ := isOf hZ e47 E46c
    obtain ⟨_, _, ⟨T49, L49, k49, n49⟩, -, X49, ⟨Lc49, hQ49, l49, y49, z49⟩, st49⟩ := X47.interfaceBack hx (xi := (⟨"com/example/bitstrata/bitstrata/Container", "last", "()C"⟩ : MethodName)) (y := (⟨"com/example/bitstrata/bitstrata/ArrayContainer", "last", "()C"⟩ : MethodName)) hown (mvT hZ (hw _ (List.mem_of_getElem? (i := 43) rfl))) (mvT hZ (hw _ (List.mem_of_getElem? (i := 44) rfl))) (mvT hZ (hw _ (List.mem_of_getElem? (i := 45) rfl))) (mvT hZ (hw _ (List.mem_of_getElem? (i := 46) rfl))) (mvT hZ (hw _ (List.mem_of_getElem? (i := 47) rfl))) (mvT hZ (hw _ (List.mem_of_getElem? (i := 48) rfl))) (mvT hZ (hw _ (List.mem_of_getElem? (i := 49) rfl))) (mvT hZ (hw _ (List.mem_of_getElem? (i := 23) rfl))) (by decide) (backOf (W := 0) (rmLast l Z a0 hw [] b2 u46 ku46 ys46 T46.heap n0 Zs48 Fv46 Fc46 V46u l1_46 (by omega) hch46) hZ (hw _ (List.mem_of_getElem? (i := 50) rfl)) (hw _ (List.mem_of_getElem? (i := 4) rfl)) (by decide) (by decide)) q49a q49b q49c (g := (mkF m 166 #[iv i1, iv i2, iv i3, iv i4, iv i5, iv i6, iv c0, iv c1, iv c2, iv c3, iv c4, iv (4 : Int32), rv b2, iv (own_max (own_max (own_max (own_max c0 c1) c2) c3) c4), .unset] [(.ref b2)])) rfl (by rw [hml]; rfl) (Steps.refl _) (argsL := []) (rest := []) (lenOf pd_5 rfl) rfl (by show 2 * 0 + _ ≤ _; exact Nat.le_of_eq rfl) (hb hby at_166) (fun _ _ => ⟨rfl, e47, (by decide : 6 + 0 ≤ _), (by decide : 38 + 0 ≤ _)⟩)
    dsimp only [Pt.U, Pt.locs, Pt.cells, Pt.slots] at X49 l49 y49 z49 st49 hQ49
    subst l49 y49 z49
    obtain ⟨hv49, N49q, e49q⟩ := hQ49
    have N49 := Fr.app N47 N49q
    rw [own_top_last (own_top_add (own_top_add (own_top_add (own_top_add (own_top1 c0) hm36) hm40) hm43) hm46) hs46 l1_46] at hv49
    subst hv49
    have e49 : T49.heap = T46.heap := e49q
    have pre50 : ∀ tg, own_S p e below T49 m 185 #[iv i1, iv i2, iv i3, iv i4, iv i5, iv i6, iv c0, iv c1, iv c2, iv c3, iv c4, iv (4 : Int32), rv b2, iv (own_max (own_max (own_max (own_max c0 c1) c2) c3) c4), iv (own_max (own_max (own_max (own_max c0 c1) c2) c3) c4)] [(.int (1 : Int32))] tg → Steps p.tables e below (s₁.setTop (entryFrame m #[(.int i1), (.int i2), (.int i3), (.int i4), (.int i5), (.int i6)] maxLocals)) tg := fun tg k => pre5 tg (by
      show own_S p e below T3 m 60 #[iv i1, iv i2, iv i3, iv i4, iv i5, iv i6, iv c0, iv c1, iv c2, iv c3, iv c4, iv (4 : Int32), rv b2, iv c0, .unset] [] _
      refine XS.iload X3.here hx rfl (hb hby at_60) rfl ?_
      refine XS.iconst X3.here hx rfl (hb hby at_62) ?_
      refine XS.icmpNo X3.here hx rfl (hb hby at_63) rfl (flt (by decide : ¬ ((4 : Int32) < (1 : Int32)))).1 ?_
      show own_S p e below T3 m 66 #[iv i1, iv i2, iv i3, iv i4, iv i5, iv i6, iv c0, iv c1, iv c2, iv c3, iv c4, iv (4 : Int32), rv b2, iv c0, .unset] [] _
      refine XS.aload X3.here hx rfl (hb hby at_66) rfl rfl ?_
      refine XS.iload X3.here hx rfl (hb hby at_68) rfl ?_
      refine st36.trans ?_
      show own_S p e below T36 m 75 #[iv i1, iv i2, iv i3, iv i4, iv i5, iv i6, iv c0, iv c1, iv c2, iv c3, iv c4, iv (4 : Int32), rv b2, iv c0, .unset] [(.ref b2)] _
      refine XS.astore X36.here hx rfl (hb hby at_75) rfl rfl (l' := #[iv i1, iv i2, iv i3, iv i4, iv i5, iv i6, iv c0, iv c1, iv c2, iv c3, iv c4, iv (4 : Int32), rv b2, iv c0, .unset]) rfl ?_
      refine XS.iload X36.here hx rfl (hb hby at_77) rfl ?_
      refine XS.iload X36.here hx rfl (hb hby at_79) rfl ?_
      show own_S p e below T36 m 81 #[iv i1, iv i2, iv i3, iv i4, iv i5, iv i6, iv c0, iv c1, iv c2, iv c3, iv c4, iv (4 : Int32), rv b2, iv c0, .unset] [(.int c1), (.int c0)] _
      refine st38 _ ?_
      refine XS.istore X38.here hx rfl (hb hby at_84) rfl (l' := #[iv i1, iv i2, iv i3, iv i4, iv i5, iv i6, iv c0, iv c1, iv c2, iv c3, iv c4, iv (4 : Int32), rv b2, iv (own_max c0 c1), .unset]) rfl ?_
      refine XS.iload X38.here hx rfl (hb hby at_86) rfl ?_
      show own_S p e below T38 m 88 #[iv i1, iv i2, iv i3, iv i4, iv i5, iv i6, iv c0, iv c1, iv c2, iv c3, iv c4, iv (4 : Int32), rv b2, iv (own_max c0 c1), .unset] [(.int (4 : Int32))] _
      refine XS.iconst X38.here hx rfl (hb hby at_88) ?_
      refine XS.icmpNo X38.here hx rfl (hb hby at_89) rfl (flt (by decide : ¬ ((4 : Int32) < (2 : Int32)))).1 ?_
      refine XS.aload X38.here hx rfl (hb hby at_92) rfl rfl ?_
      show own_S p e below T38 m 94 #[iv i1, iv i2, iv i3, iv i4, iv i5, iv i6, iv c0, iv c1, iv c2, iv c3, iv c4, iv (4 : Int32), rv b2, iv (own_max c0 c1), .unset] [(.ref b2)] _
      refine XS.iload X38.here hx rfl (hb hby at_94) rfl ?_
      refine st40.trans ?_
      refine XS.astore X40.here hx rfl (hb hby at_101) rfl rfl (l' := #[iv i1, iv i2, iv i3, iv i4, iv i5, iv i6, iv c0, iv c1, iv c2, iv c3, iv c4, iv (4 : Int32), rv b2, iv (own_max c0 c1), .unset]) rfl ?_
      show own_S p e below T40 m 103 #[iv i1, iv i2, iv i3, iv i4, iv i5, iv i6, iv c0, iv c1, iv c2, iv c3, iv c4, iv (4 : Int32), rv b2, iv (own_max c0 c1), .unset] [] _
      refine XS.iload X40.here hx rfl (hb hby at_103) rfl ?_
      refine XS.iload X40.here hx rfl (hb hby at_105) rfl ?_
      refine st41 _ ?_
      show own_S p e below T41 m 110 #[iv i1, iv i2, iv i3, iv i4, iv i5, iv i6, iv c0, iv c1, iv c2, iv c3, iv c4, iv (4 : Int32), rv b2, iv (own_max c0 c1), .unset] [(.int (own_max (own_max c0 c1) c2))] _
      refine XS.istore X41.here hx rfl (hb hby at_110) rfl (l' := #[iv i1, iv i2, iv i3, iv i4, iv i5, iv i6, iv c0, iv c1, iv c2, iv c3, iv c4, iv (4 : Int32), rv b2, iv (own_max (own_max c0 c1) c2), .unset]) rfl ?_
      refine XS.iload X41.here hx rfl (hb hby at_112) rfl ?_
      refine XS.iconst X41.here hx rfl (hb hby at_114) ?_
      show own_S p e below T41 m 115 #[iv i1, iv i2, iv i3, iv i4, iv i5, iv i6, iv c0, iv c1, iv c2, iv c3, iv c4, iv (4 : Int32), rv b2, iv (own_max (own_max c0 c1) c2), .unset] [(.int (3 : Int32)), (.int (4 : Int32))] _
      refine XS.icmpNo X41.here hx rfl (hb hby at_115) rfl (flt (by decide : ¬ ((4 : Int32) < (3 : Int32)))).1 ?_
      refine XS.aload X41.here hx rfl (hb hby at_118) rfl rfl ?_
      refine XS.iload X41.here hx rfl (hb hby at_120) rfl ?_
      show own_S p e below T41 m 122 #[iv i1, iv i2, iv i3, iv i4, iv i5, iv i6, iv c0, iv c1, iv c2, iv c3, iv c4, iv (4 : Int32), rv b2, iv (own_max (own_max c0 c1) c2), .unset] [(.int c3), (.ref b2)] _
      refine st43.trans ?_
      refine XS.astore X43.here hx rfl (hb hby at_127) rfl rfl (l' := #[iv i1, iv i2, iv i3, iv i4, iv i5, iv i6, iv c0, iv c1, iv c2, iv c3, iv c4, iv (4 : Int32), rv b2, iv (own_max (own_max c0 c1) c2), .unset]) rfl ?_
      refine XS.iload X43.here hx rfl (hb hby at_129) rfl ?_
      show own_S p e below T43 m 131 #[iv i1, iv i2, iv i3, iv i4, iv i5, iv i6, iv c0, iv c1, iv c2, iv c3, iv c4, iv (4 : Int32), rv b2, iv (own_max (own_max c0 c1) c2), .unset] [(.int (own_max (own_max c0 c1) c2))] _
      refine XS.iload X43.here hx rfl (hb hby at_131) rfl ?_
      refine st44 _ ?_
      refine XS.istore X44.here hx rfl (hb hby at_136) rfl (l' := #[iv i1, iv i2, iv i3, iv i4, iv i5, iv i6, iv c0, iv c1, iv c2, iv c3, iv c4, iv (4 : Int32), rv b2, iv (own_max (own_max (own_max c0 c1) c2) c3), .unset]) rfl ?_
      show own_S p e below T44 m 138 #[iv i1, iv i2, iv i3, iv i4, iv i5, iv i6, iv c0, iv c1, iv c2, iv c3, iv c4, iv (4 : Int32), rv b2, iv (own_max (own_max (own_max c0 c1) c2) c3), .unset] [] _
      refine XS.iload X44.here hx rfl (hb hby at_138) rfl ?_
      refine XS.iconst X44.here hx rfl (hb hby at_140) ?_
      refine XS.icmpNo X44.here hx rfl (hb hby at_141) rfl (flt (by decide : ¬ ((4 : Int32) < (4 : Int32)))).1 ?_
      show own_S p e below T44 m 144 #[iv i1, iv i2, iv i3, iv i4, iv i5, iv i6, iv c0, iv c1, iv c2, iv c3, iv c4, iv (4 : Int32), rv b2, iv (own_max (own_max (own_max c0 c1) c2) c3), .unset] [] _
      refine XS.aload X44.here hx rfl (hb hby at_144) rfl rfl ?_
      refine XS.iload X44.here hx rfl (hb hby at_146) rfl ?_
      refine st46.trans ?_
      show own_S p e below T46 m 153 #[iv i1, iv i2, iv i3, iv i4, iv i5, iv i6, iv c0, iv c1, iv c2, iv c3, iv c4, iv (4 : Int32), rv b2, iv (own_max (own_max (own_max c0 c1) c2) c3), .unset] [(.ref b2)] _
      refine XS.astore X46.here hx rfl (hb hby at_153) rfl rfl (l' := #[iv i1, iv i2, iv i3, iv i4, iv i5, iv i6, iv c0, iv c1, iv c2, iv c3, iv c4, iv (4 : Int32), rv b2, iv (own_max (own_max (own_max c0 c1) c2) c3), .unset]) rfl ?_
      refine XS.iload X46.here hx rfl (hb hby at_155) rfl ?_
      refine XS.iload X46.here hx rfl (hb hby at_157) rfl ?_
      show own_S p e below T46 m 159 #[iv i1, iv i2, iv i3, iv i4, iv i5, iv i6, iv c0, iv c1, iv c2, iv c3, iv c4, iv (4 : Int32), rv b2, iv (own_max (own_max (own_max c0 c1) c2) c3), .unset] [(.int c4), (.int (own_max (own_max (own_max c0 c1) c2) c3))] _
      refine st47 _ ?_
      refine XS.istore X47.here hx rfl (hb hby at_162) rfl (l' := #[iv i1, iv i2, iv i3, iv i4, iv i5, iv i6, iv c0, iv c1, iv c2, iv c3, iv c4, iv (4 : Int32), rv b2, iv (own_max (own_max (own_max (own_max c0 c1) c2) c3) c4), .unset]) rfl ?_
      refine XS.aload X47.here hx rfl (hb hby at_164) rfl rfl ?_
      show own_S p e below T47 m 166 #[iv i1, iv i2, iv i3, iv i4, iv i5, iv i6, iv c0, iv c1, iv c2, iv c3, iv c4, iv (4 : Int32), rv b2, iv (own_max (own_max (own_max (own_max c0 c1) c2) c3) c4), .unset] [(.ref b2)] _
      refine st49.trans ?_
      refine XS.istore X49.here hx rfl (hb hby at_171) rfl (l' := #[iv i1, iv i2, iv i3, iv i4, iv i5, iv i6, iv c0, iv c1, iv c2, iv c3, iv c4, iv (4 : Int32), rv b2, iv (own_max (own_max (own_max (own_max c0 c1) c2) c3) c4), iv (own_max (own_max (own_max (own_max c0 c1) c2) c3) c4)]) rfl ?_
      refine XS.iload X49.here hx rfl (hb hby at_173) rfl ?_
      show own_S p e below T49 m 175 #[iv i1, iv i2, iv i3, iv i4, iv i5, iv i6, iv c0, iv c1, iv c2, iv c3, iv c4, iv (4 : Int32), rv b2, iv (own_max (own_max (own_max (own_max c0 c1) c2) c3) c4), iv (own_max (own_max (own_max (own_max c0 c1) c2) c3) c4)] [(.int (own_max (own_max (own_max (own_max c0 c1) c2) c3) c4))] _
      refine XS.iload X49.here hx rfl (hb hby at_175) rfl ?_
      refine XS.icmpNo X49.here hx rfl (hb hby at_177) rfl (teq (rfl : (own_max (own_max (own_max (own_max c0 c1) c2) c3) c4) = (own_max (own_max (own_max (own_max c0 c1) c2) c3) c4))).2 ?_
      refine XS.iconst X49.here hx rfl (hb hby at_180) ?_
      show own_S p e below T49 m 181 #[iv i1, iv i2, iv i3, iv i4, iv i5, iv i6, iv c0, iv c1, iv c2, iv c3, iv c4, iv (4 : Int32), rv b2, iv (own_max (own_max (own_max (own_max c0 c1) c2) c3) c4), iv (own_max (own_max (own_max (own_max c0 c1) c2) c3) c4)] [(.int (1 : Int32))] _
      refine XS.goto X49.here hx rfl (pc0 := 181) (pc' := 185) rfl (hb hby at_181) (by decide) (by decide) ?_
      exact k)
    obtain ⟨fs, hr, hrun, hended, hW, hsame⟩ := X49.leave (v := some (.int (nar .boolean (1 : Int32)))) (fun h => by rw [Bd.returns] at h; cases h)
    refine ⟨_, _, pre50 _ ?_, hrun, hended, _, _, rfl, ?_, ⟨_, rfl⟩, hW, hsame.mono (by decide) (by decide)⟩
    · show own_S p e below T49 m 185 #[iv i1, iv i2, iv i3, iv i4, iv i5, iv i6, iv c0, iv c1, iv c2, iv c3, iv c4, iv (4 : Int32), rv b2, iv (own_max (own_max (own_max (own_max c0 c1) c2) c3) c4), iv (own_max (own_max (own_max (own_max c0 c1) c2) c3) c4)] [(.int (1 : Int32))] _
      exact retN X49 hx (t := .boolean) Bd.returns (by simp) (hb hby at_185) hr
    · show Q0 Z i1 i2 i3 i4 i5 i6 h0 n0 _ T49.heap _
      rw [e49]
      exact ⟨rfl, N49⟩
set_option maxRecDepth 65536 in
set_option maxHeartbeats 40000000 in
theorem comes_1 {Post : Tables → Env → Array Value → State → Outcome → State → Prop} (hpost : ∀ tb e args s v u, (limb_1_1.after args s (.returned v) u = true ∧ limb_1_2.after args s (.returned v) u = true ∧ True) → FrameEnd s (.returned v) u (Jvm.fieldLocs frame_1_writes args s ++ Jvm.arrayLocs frame_1_arrays args s ++ Jvm.staticLocs frame_1_statics s) 16 128 → Post tb e args s (.returned v) u) :
    ArmFor flags0 classFile x code maxLocals ret World_1 tables_1 room_1 Calls_1 rest_1 Pre_1 Post := by
  intro l hfl _ _ p e ha hc hk s m args below hf hA hF happ hP
  obtain ⟨hcalls, hrest, hpre⟩ := hP
  obtain ⟨-, -, -, hnamed, -, -, -, hat⟩ := (Spec.applies_iff hf).mp happ
  obtain ⟨hg, hn⟩ := and_e (Cond.before_iff.mp (show (Jvm.Cond.and given_1 narrow_1).before args s = true from hpre))
  obtain ⟨g1, g2⟩ := and_e hg
  obtain ⟨g3, g4⟩ := and_e g2
  obtain ⟨g5, g6⟩ := and_e g4
  obtain ⟨g7, g8⟩ := and_e g6
  obtain ⟨g9, g10⟩ := and_e g8
  obtain ⟨g11, g12⟩ := and_e g10
  obtain ⟨w0, w1, w2, w3, w4, w5, rfl⟩ : ∃ w0 w1 w2 w3 w4 w5 : Value, args = #[w0, w1, w2, w3, w4, w5] := by
    have hs : args.size = 6 := by simpa [Cond.value, given_1] using g1
    obtain ⟨L⟩ := args
    match L, hs with
    | [w0, w1, w2, w3, w4, w5], _ => exact ⟨w0, w1, w2, w3, w4, w5, rfl⟩
  have hw := fun d (hd : d ∈ tables_1) => atoms_spec (ws := Jvm.Cond.code x code maxLocals ret :: tables_1) hat d (List.mem_cons_of_mem _ hd)
  have hfit : Fit s := fun {y c} hc i hi => by
    obtain ⟨ha, rfl⟩ := Array.getElem?_eq_some_iff.mp hc
    have q := List.all_eq_true.mp ((Array.all_eq_true_iff_forall_mem.mp hF) _ (Array.getElem_mem ha)) i (List.mem_range.mpr hi)
    simpa [Array.getElem?_eq_getElem hi] using q
  obtain ⟨i0, ei0⟩ := is_v g3
  obtain rfl : w0 = (.int i0) := Option.some.inj ei0
  obtain ⟨i1, ei1⟩ := is_v g5
  obtain rfl : w1 = (.int i1) := Option.some.inj ei1
  obtain ⟨i2, ei2⟩ := is_v g7
  obtain rfl : w2 = (.int i2) := Option.some.inj ei2
  obtain ⟨i3, ei3⟩ := is_v g9
  obtain rfl : w3 = (.int i3) := Option.some.inj ei3
  obtain ⟨i4, ei4⟩ := is_v g11
  obtain rfl : w4 = (.int i4) := Option.some.inj ei4
  obtain ⟨i5, ei5⟩ := is_v g12
  obtain rfl : w5 = (.int i5) := Option.some.inj ei5
  obtain ⟨n, o, h1, h2, h3, _, L, rfl, ⟨rfl, N⟩, hq⟩ := rm0 l s _ hw tables_1 i0 i1 i2 i3 i4 i5 s.heap s.heap.size (Nat.le_refl _)  p e ha hc hk s m _ below hf ((Spec.applies_iff_loose hf).mp happ).1 ⟨rfl, State.Warmed39.refl s, rfl⟩ trivial
  refine ⟨n, _, h1, h2, h3, hpost _ _ _ _ _ _ ⟨Cond.after_iff.mpr rfl, Cond.after_iff.mpr (eq_i res_at (Term.int_eval (1)) rfl), trivial⟩ ⟨hq.1, hq.2.1, (hq.2.2.sift fun y hy => Or.inr (N y hy)).mono (by decide) (by decide)⟩⟩
theorem main_1_1 : Claimed_1_1 := comes_1 fun _ _ _ _ _ _ h hF => ⟨h.1, hF⟩
theorem main_1_2 : Claimed_1_2 := comes_1 fun _ _ _ _ _ _ h hF => ⟨h.2.1, hF⟩
end Jvm.Pilot.@@N@@
namespace Jvm.Pilot.@@N@@
open Jvm Jvm.ClassFile Sem Op Lib Jvm.Free Jvm.Stand Jvm.Pilot.@@N@@.Jvm.D
/-! MADE BY PROGRAM (witnessworld.py) out of the Statement's table words and the real class files: 15 classes; the members and pool entries that the words name. The judged class is class 1, her method 1. -/
namespace start1
open Jvm.ClassFile
def u (s : String) : CpInfo := .utf8 (stringToUtf16 s)
/-- a pool by its gaps: so many unusable entries, then the entry; so many at the end -/
def gap : Nat → List CpInfo → List CpInfo
  | 0, r => r
  | n + 1, r => .unusable :: gap n r
def poolList (es : List (Nat × CpInfo)) (last : Nat) : List CpInfo := es.foldr (fun e r => gap e.1 (e.2 :: r)) (gap last [])
def pool (es : List (Nat × CpInfo)) (last : Nat) : Array CpInfo := ⟨poolList es last⟩
def fileOf (pool : Array CpInfo) (this : Nat) (attrs : Array Attribute := #[]) (ms : Array MethodInfo := #[]) (fl : Nat := 33) (sup : Nat := 0) (ifs : Array Nat := #[]) (fds : Array FieldInfo := #[]) : ClassFile where
  minorVersion := 0
  majorVersion := 65
  constantPool := pool
  accessFlags := fl
  thisClass := this
  superClass := sup
  interfaces := ifs
  fields := fds
  methods := ms
  attributes := attrs
def plain (name : String) (sup : Option ClassId) : Class where
  name := name
  kind := .ordinary
  loader := none
  accessFlags := 33
  super := sup
  interfaces := #[]
  cf := none
  fields := #[]
  methods := #[]
  instanceTypes := #[]
  staticTypes := #[]
  resolved := #[]
  callSites := []
  init := .initialized
  statics := none
  mirror := none

def pool0 : Array CpInfo := pool [(5, u "<init>"), (0, u "()V"), (1, .class_ 10), (1, u "java/lang/Object")] 113

def k0c0 : Code := { maxStack := 0, maxLocals := 1, code := object_method_1_code, exceptionTable := #[], attributes := #[] }
def k0m0 : Method := { name := "<init>", desc := "()V", sig := { parameters := [], returnType := none }, accessFlags := 1, code := some k0c0 }
/-- java/lang/Object -/
def k0 : Class := { plain "java/lang/Object" none with
  accessFlags := 33
  interfaces := #[]
  cf := some (fileOf pool0 8 #[] #[{ accessFlags := 1, nameIndex := 5, descriptorIndex := 6, attributes := #[] }] 33 0 #[] #[])
  fields := #[]
  methods := #[k0m0]
  instanceTypes := #[]
  staticTypes := #[]
  resolved := Array.replicate 124 none
  statics := none }

def pool1 : Array CpInfo := pool [(2, .class_ 4), (1, u "java/lang/Object"), (0, u "<init>"), (0, u "()V"), (0, .integer 65535), (0, .integer 2147483647), (0, .class_ 10), (0, u "com/example/bitstrata/bitstrata/ArrayContainer"), (0, .methodref 9 12), (0, .nameAndType 5 13), (0, u "(C)V"), (0, .interfaceMethodref 15 16), (0, .class_ 17), (0, .nameAndType 18 19), (0, u "com/example/bitstrata/bitstrata/Container"), (0, u "add"), (0, u "(C)Lcom/example/bitstrata/bitstrata/Container;"), (0, .methodref 21 22), (0, .class_ 23), (0, .nameAndType 24 25), (0, u "java/lang/Math"), (0, u "max"), (0, u "(II)I"), (0, .interfaceMethodref 15 27), (0, .nameAndType 28 29), (0, u "last"), (0, u "()C"), (0, .class_ 31), (0, u "com/example/bitstrata/bitstrata/ArrayContainerLastPinLaw"), (2, u "law"), (0, u "(IIIIII)Z")] 3

def k1m0 : Method := { name := "<init>", desc := "()V", sig := { parameters := [], returnType := none }, accessFlags := 1, code := none }
def k1c1 : Code := { maxStack := 3, maxLocals := 15, code := code, exceptionTable := #[], attributes := #[] }
def k1m1 : Method := { name := "law", desc := "(IIIIII)Z", sig := { parameters := [.int, .int, .int, .int, .int, .int], returnType := some .boolean }, accessFlags := 9, code := some k1c1 }
/-- com/example/bitstrata/bitstrata/ArrayContainerLastPinLaw -/
def k1 : Class := { plain "com/example/bitstrata/bitstrata/ArrayContainerLastPinLaw" (some 0) with
  accessFlags := 49
  interfaces := #[]
  cf := some (fileOf pool1 30 #[] #[{ accessFlags := 1, nameIndex := 5, descriptorIndex := 6, attributes := #[] }, { accessFlags := 9, nameIndex := 34, descriptorIndex := 35, attributes := #[] }] 49 2 #[] #[])
  fields := #[]
  methods := #[k1m0, k1m1]
  instanceTypes := #[]
  staticTypes := #[]
  resolved := Array.replicate 39 none
  statics := none }

def pool2 : Array CpInfo := pool [(2, .class_ 4), (1, u "com/example/bitstrata/bitstrata/Container"), (28, .class_ 34), (0, u "java/lang/Object"), (1, u "()C"), (0, u "last"), (6, u "add"), (0, u "(C)Lcom/example/bitstrata/bitstrata/Container;")] 25

def k2m0 : Method := { name := "last", desc := "()C", sig := { parameters := [], returnType := some .char }, accessFlags := 1025, code := none }
def k2m1 : Method := { name := "add", desc := "(C)Lcom/example/bitstrata/bitstrata/Container;", sig := { parameters := [.char], returnType := some (.object "com/example/bitstrata/bitstrata/Container") }, accessFlags := 1025, code := none }
/-- com/example/bitstrata/bitstrata/Container -/
def k2 : Class := { plain "com/example/bitstrata/bitstrata/Container" (some 0) with
  accessFlags := 1536
  interfaces := #[]
  cf := some (fileOf pool2 2 #[] #[{ accessFlags := 1025, nameIndex := 37, descriptorIndex := 36, attributes := #[] }, { accessFlags := 1025, nameIndex := 44, descriptorIndex := 45, attributes := #[] }] 1536 33 #[] #[])
  fields := #[]
  methods := #[k2m0, k2m1]
  instanceTypes := #[]
  staticTypes := #[]
  resolved := Array.replicate 71 none
  statics := none }

def pool3 : Array CpInfo := pool [(1, .methodref 2 3), (0, .class_ 4), (0, .nameAndType 5 6), (0, u "java/lang/Object"), (0, u "<init>"), (0, u "()V"), (0, .class_ 8), (0, u "com/example/bitstrata/bitstrata/ArrayContainer"), (0, .fieldref 7 10), (0, .nameAndType 11 12), (0, u "values"), (0, u "[C"), (0, .fieldref 7 14), (0, .nameAndType 15 16), (0, u "cardinality"), (0, u "I"), (16, u "()C"), (17, .methodref 52 53), (0, .class_ 54), (0, .nameAndType 55 56), (0, u "java/util/Arrays"), (0, u "binarySearch"), (0, u "([CIIC)I"), (11, u "add"), (0, u "(C)Lcom/example/bitstrata/bitstrata/Container;"), (0, .methodref 71 72), (0, .class_ 73), (0, .nameAndType 74 75), (0, u "java/lang/Math"), (0, u "min"), (0, u "(II)I"), (0, .methodref 52 77), (0, .nameAndType 78 79), (0, u "copyOf"), (0, u "([CI)[C"), (0, .methodref 81 82), (0, .class_ 83), (0, .nameAndType 84 85), (0, u "java/lang/System"), (0, u "arraycopy"), (0, u "(Ljava/lang/Object;ILjava/lang/Object;II)V"), (6, .class_ 93), (0, u "com/example/bitstrata/bitstrata/ArrayContainer$1"), (7, .class_ 102), (0, u "com/example/bitstrata/bitstrata/Container"), (8, u "MAX_CARDINALITY"), (2, u "INITIAL_CAPACITY"), (1, u "(C)V"), (11, u "last")] 38

def k3c0 : Code := { maxStack := 3, maxLocals := 2, code := prog_1_method_1_code, exceptionTable := #[], attributes := #[] }
def k3m0 : Method := { name := "<init>", desc := "(C)V", sig := { parameters := [.char], returnType := none }, accessFlags := 0, code := some k3c0 }
def k3c1 : Code := { maxStack := 3, maxLocals := 1, code := prog_1_method_11_code, exceptionTable := #[], attributes := #[] }
def k3m1 : Method := { name := "last", desc := "()C", sig := { parameters := [], returnType := some .char }, accessFlags := 1, code := some k3c1 }
def k3c2 : Code := { maxStack := 6, maxLocals := 4, code := prog_1_method_15_code, exceptionTable := #[], attributes := #[] }
def k3m2 : Method := { name := "add", desc := "(C)Lcom/example/bitstrata/bitstrata/Container;", sig := { parameters := [.char], returnType := some (.object "com/example/bitstrata/bitstrata/Container") }, accessFlags := 1, code := some k3c2 }
/-- com/example/bitstrata/bitstrata/ArrayContainer -/
def k3 : Class := { plain "com/example/bitstrata/bitstrata/ArrayContainer" (some 0) with
  accessFlags := 48
  interfaces := #[2]
  cf := some (fileOf pool3 7 #[.nestMembers #[92]] #[{ accessFlags := 0, nameIndex := 5, descriptorIndex := 116, attributes := #[] }, { accessFlags := 1, nameIndex := 128, descriptorIndex := 33, attributes := #[] }, { accessFlags := 1, nameIndex := 68, descriptorIndex := 69, attributes := #[] }] 48 2 #[101] #[{ accessFlags := 24, nameIndex := 111, descriptorIndex := 16, attributes := #[] }, { accessFlags := 26, nameIndex := 114, descriptorIndex := 16, attributes := #[] }, { accessFlags := 2, nameIndex := 11, descriptorIndex := 12, attributes := #[] }, { accessFlags := 2, nameIndex := 15, descriptorIndex := 16, attributes := #[] }])
  fields := #[{ name := "MAX_CARDINALITY", type := .int, accessFlags := 24, slot := 0, constantValue := 0 }, { name := "INITIAL_CAPACITY", type := .int, accessFlags := 26, slot := 1, constantValue := 0 }, { name := "values", type := (.array .char), accessFlags := 2, slot := 0, constantValue := 0 }, { name := "cardinality", type := .int, accessFlags := 2, slot := 1, constantValue := 0 }]
  methods := #[k3m0, k3m1, k3m2]
  instanceTypes := #[(.array .char), .int]
  staticTypes := #[.int, .int]
  resolved := Array.replicate 167 none
  statics := none }

def pool4 : Array CpInfo := pool [(2, .class_ 4), (1, u "java/lang/Object"), (0, u "<init>"), (0, u "()V"), (6, .methodref 14 15), (0, .class_ 16), (0, .nameAndType 17 18), (0, u "java/util/Arrays"), (0, u "rangeCheck"), (0, u "(III)V"), (55, .class_ 76), (1, u "java/util/Arrays$NaturalOrder"), (36, .class_ 115), (1, u "java/util/Arrays$LegacyMergeSort"), (1, u "Z"), (32, .methodref 151 152), (0, .class_ 153), (0, .nameAndType 154 155), (0, u "java/lang/System"), (0, u "arraycopy"), (0, u "(Ljava/lang/Object;ILjava/lang/Object;II)V"), (51, u "binarySearch0"), (7, .methodref 14 216), (0, .nameAndType 207 217), (0, u "([CIIC)I"), (84, u "copyOf"), (1, .methodref 305 306), (0, .class_ 307), (0, .nameAndType 308 309), (0, u "java/lang/Math"), (0, u "min"), (0, u "(II)I"), (65, .class_ 376), (0, u "java/util/Arrays$ArrayList"), (68, u "$assertionsDisabled"), (269, u "MIN_ARRAY_SORT_GRAN"), (0, u "I"), (2, u "INSERTIONSORT_THRESHOLD"), (74, u "binarySearch"), (78, u "([CI)[C"), (101, .class_ 976), (0, u "java/util/Arrays$ArrayItr")] 52

def k4m0 : Method := { name := "<init>", desc := "()V", sig := { parameters := [], returnType := none }, accessFlags := 2, code := none }
def k4c1 : Code := { maxStack := 4, maxLocals := 3, code := jdk_65_method_30_code, exceptionTable := #[], attributes := #[] }
def k4m1 : Method := { name := "rangeCheck", desc := "(III)V", sig := { parameters := [.int, .int, .int], returnType := none }, accessFlags := 8, code := some k4c1 }
def k4c2 : Code := { maxStack := 4, maxLocals := 4, code := jdk_65_method_64_code, exceptionTable := #[], attributes := #[] }
def k4m2 : Method := { name := "binarySearch", desc := "([CIIC)I", sig := { parameters := [(.array .char), .int, .int, .char], returnType := some .int }, accessFlags := 9, code := some k4c2 }
def k4c3 : Code := { maxStack := 2, maxLocals := 8, code := jdk_65_method_65_code, exceptionTable := #[], attributes := #[] }
def k4m3 : Method := { name := "binarySearch0", desc := "([CIIC)I", sig := { parameters := [(.array .char), .int, .int, .char], returnType := some .int }, accessFlags := 10, code := some k4c3 }
def k4c4 : Code := { maxStack := 6, maxLocals := 3, code := jdk_65_method_125_code, exceptionTable := #[], attributes := #[] }
def k4m4 : Method := { name := "copyOf", desc := "([CI)[C", sig := { parameters := [(.array .char), .int], returnType := some (.array .char) }, accessFlags := 9, code := some k4c4 }
/-- java/util/Arrays -/
def k4 : Class := { plain "java/util/Arrays" (some 0) with
  accessFlags := 49
  interfaces := #[]
  cf := some (fileOf pool4 14 #[.nestMembers #[975, 375, 113, 74]] #[{ accessFlags := 2, nameIndex := 5, descriptorIndex := 6, attributes := #[] }, { accessFlags := 8, nameIndex := 17, descriptorIndex := 18, attributes := #[] }, { accessFlags := 9, nameIndex := 794, descriptorIndex := 217, attributes := #[] }, { accessFlags := 10, nameIndex := 207, descriptorIndex := 217, attributes := #[] }, { accessFlags := 9, nameIndex := 302, descriptorIndex := 873, attributes := #[] }] 49 2 #[] #[{ accessFlags := 26, nameIndex := 715, descriptorIndex := 716, attributes := #[] }, { accessFlags := 26, nameIndex := 719, descriptorIndex := 716, attributes := #[] }, { accessFlags := 4120, nameIndex := 445, descriptorIndex := 117, attributes := #[] }])
  fields := #[{ name := "MIN_ARRAY_SORT_GRAN", type := .int, accessFlags := 26, slot := 0, constantValue := 0 }, { name := "INSERTIONSORT_THRESHOLD", type := .int, accessFlags := 26, slot := 1, constantValue := 0 }, { name := "$assertionsDisabled", type := .boolean, accessFlags := 4120, slot := 2, constantValue := 0 }]
  methods := #[k4m0, k4m1, k4m2, k4m3, k4m4]
  instanceTypes := #[]
  staticTypes := #[.int, .int, .boolean]
  resolved := Array.replicate 1029 none
  statics := none }

def pool5 : Array CpInfo := pool [(2, .class_ 4), (1, u "java/lang/Object"), (0, u "<init>"), (0, u "()V"), (1, .class_ 10), (1, u "java/lang/System"), (0, u "allowSecurityManager"), (0, u "I"), (16, u "cons"), (0, u "Ljava/io/Console;"), (77, .class_ 110), (1, u "java/lang/System$CallersHolder"), (43, u "initialErrStream"), (0, u "Ljava/io/PrintStream;"), (19, u "security"), (0, u "Ljava/lang/SecurityManager;"), (31, .class_ 209), (0, u "java/lang/System$1"), (7, u "props"), (0, u "Ljava/util/Properties;"), (2, u "lineSeparator"), (0, u "Ljava/lang/String;"), (96, .class_ 321), (1, u "java/lang/System$LoggerFinder"), (5, .class_ 328), (0, u "java/lang/System$Logger"), (67, u "err"), (2, u "out"), (91, u "notSupportedJnuEncoding"), (15, u "in"), (17, u "initialIn"), (0, u "Ljava/io/InputStream;"), (35, u "bootLayer"), (0, u "Ljava/lang/ModuleLayer;"), (99, .class_ 664), (0, u "java/lang/System$2"), (9, u "NEVER"), (2, u "MAYBE"), (49, u "arraycopy"), (0, u "(Ljava/lang/Object;ILjava/lang/Object;II)V"), (72, .class_ 802), (0, u "java/lang/System$Logger$Level")] 31

def k5m0 : Method := { name := "<init>", desc := "()V", sig := { parameters := [], returnType := none }, accessFlags := 2, code := none }
def k5m1 : Method := { name := "arraycopy", desc := "(Ljava/lang/Object;ILjava/lang/Object;II)V", sig := { parameters := [(.object "java/lang/Object"), .int, (.object "java/lang/Object"), .int, .int], returnType := none }, accessFlags := 265, code := none }
/-- java/lang/System -/
def k5 : Class := { plain "java/lang/System" (some 0) with
  accessFlags := 49
  interfaces := #[]
  cf := some (fileOf pool5 8 #[.nestMembers #[319, 327, 801, 108, 663, 208]] #[{ accessFlags := 2, nameIndex := 5, descriptorIndex := 6, attributes := #[] }, { accessFlags := 265, nameIndex := 727, descriptorIndex := 728, attributes := #[] }] 49 2 #[] #[{ accessFlags := 25, nameIndex := 507, descriptorIndex := 526, attributes := #[] }, { accessFlags := 25, nameIndex := 399, descriptorIndex := 155, attributes := #[] }, { accessFlags := 25, nameIndex := 396, descriptorIndex := 155, attributes := #[] }, { accessFlags := 10, nameIndex := 525, descriptorIndex := 526, attributes := #[] }, { accessFlags := 26, nameIndex := 674, descriptorIndex := 12, attributes := #[] }, { accessFlags := 26, nameIndex := 677, descriptorIndex := 12, attributes := #[] }, { accessFlags := 10, nameIndex := 11, descriptorIndex := 12, attributes := #[] }, { accessFlags := 74, nameIndex := 175, descriptorIndex := 176, attributes := #[] }, { accessFlags := 10, nameIndex := 491, descriptorIndex := 222, attributes := #[] }, { accessFlags := 74, nameIndex := 29, descriptorIndex := 30, attributes := #[] }, { accessFlags := 74, nameIndex := 154, descriptorIndex := 155, attributes := #[] }, { accessFlags := 10, nameIndex := 217, descriptorIndex := 218, attributes := #[] }, { accessFlags := 10, nameIndex := 221, descriptorIndex := 222, attributes := #[] }, { accessFlags := 8, nameIndex := 562, descriptorIndex := 563, attributes := #[] }])
  fields := #[{ name := "in", type := (.object "java/io/InputStream"), accessFlags := 25, slot := 0, constantValue := 0 }, { name := "out", type := (.object "java/io/PrintStream"), accessFlags := 25, slot := 1, constantValue := 0 }, { name := "err", type := (.object "java/io/PrintStream"), accessFlags := 25, slot := 2, constantValue := 0 }, { name := "initialIn", type := (.object "java/io/InputStream"), accessFlags := 10, slot := 3, constantValue := 0 }, { name := "NEVER", type := .int, accessFlags := 26, slot := 4, constantValue := 0 }, { name := "MAYBE", type := .int, accessFlags := 26, slot := 5, constantValue := 0 }, { name := "allowSecurityManager", type := .int, accessFlags := 10, slot := 6, constantValue := 0 }, { name := "security", type := (.object "java/lang/SecurityManager"), accessFlags := 74, slot := 7, constantValue := 0 }, { name := "notSupportedJnuEncoding", type := (.object "java/lang/String"), accessFlags := 10, slot := 8, constantValue := 0 }, { name := "cons", type := (.object "java/io/Console"), accessFlags := 74, slot := 9, constantValue := 0 }, { name := "initialErrStream", type := (.object "java/io/PrintStream"), accessFlags := 74, slot := 10, constantValue := 0 }, { name := "props", type := (.object "java/util/Properties"), accessFlags := 10, slot := 11, constantValue := 0 }, { name := "lineSeparator", type := (.object "java/lang/String"), accessFlags := 10, slot := 12, constantValue := 0 }, { name := "bootLayer", type := (.object "java/lang/ModuleLayer"), accessFlags := 8, slot := 13, constantValue := 0 }]
  methods := #[k5m0, k5m1]
  instanceTypes := #[]
  staticTypes := #[(.object "java/io/InputStream"), (.object "java/io/PrintStream"), (.object "java/io/PrintStream"), (.object "java/io/InputStream"), .int, .int, .int, (.object "java/lang/SecurityManager"), (.object "java/lang/String"), (.object "java/io/Console"), (.object "java/io/PrintStream"), (.object "java/util/Properties"), (.object "java/lang/String"), (.object "java/lang/ModuleLayer")]
  resolved := Array.replicate 834 none
  statics := none }

def pool6 : Array CpInfo := pool [(1, .class_ 2), (0, u "java/lang/Math"), (1, .class_ 6), (1, u "java/lang/Object"), (0, u "<init>"), (0, u "()V"), (89, .class_ 100), (1, u "java/lang/Math$RandomNumberGeneratorHolder"), (71, u "negativeZeroFloatBits"), (0, u "J"), (2, u "negativeZeroDoubleBits"), (21, u "max"), (2, u "min"), (43, u "$assertionsDisabled"), (0, u "Z"), (88, u "(II)I"), (2, u "twoToTheDoubleScaleDown"), (0, u "D"), (4, u "twoToTheDoubleScaleUp"), (9, u "E"), (3, u "PI"), (2, u "TAU"), (2, u "DEGREES_TO_RADIANS"), (0, u "RADIANS_TO_DEGREES")] 94

def k6m0 : Method := { name := "<init>", desc := "()V", sig := { parameters := [], returnType := none }, accessFlags := 2, code := none }
def k6c1 : Code := { maxStack := 2, maxLocals := 2, code := jdk_29_method_65_code, exceptionTable := #[], attributes := #[] }
def k6m1 : Method := { name := "max", desc := "(II)I", sig := { parameters := [.int, .int], returnType := some .int }, accessFlags := 9, code := some k6c1 }
def k6c2 : Code := { maxStack := 2, maxLocals := 2, code := jdk_29_method_69_code, exceptionTable := #[], attributes := #[] }
def k6m2 : Method := { name := "min", desc := "(II)I", sig := { parameters := [.int, .int], returnType := some .int }, accessFlags := 9, code := some k6c2 }
/-- java/lang/Math -/
def k6 : Class := { plain "java/lang/Math" (some 0) with
  accessFlags := 49
  interfaces := #[]
  cf := some (fileOf pool6 1 #[.nestMembers #[98]] #[{ accessFlags := 2, nameIndex := 7, descriptorIndex := 8, attributes := #[] }, { accessFlags := 9, nameIndex := 198, descriptorIndex := 335, attributes := #[] }, { accessFlags := 9, nameIndex := 201, descriptorIndex := 335, attributes := #[] }] 49 4 #[] #[{ accessFlags := 25, nameIndex := 354, descriptorIndex := 339, attributes := #[] }, { accessFlags := 25, nameIndex := 358, descriptorIndex := 339, attributes := #[] }, { accessFlags := 25, nameIndex := 361, descriptorIndex := 339, attributes := #[] }, { accessFlags := 26, nameIndex := 364, descriptorIndex := 339, attributes := #[] }, { accessFlags := 26, nameIndex := 365, descriptorIndex := 339, attributes := #[] }, { accessFlags := 26, nameIndex := 172, descriptorIndex := 173, attributes := #[] }, { accessFlags := 26, nameIndex := 176, descriptorIndex := 173, attributes := #[] }, { accessFlags := 8, nameIndex := 344, descriptorIndex := 339, attributes := #[] }, { accessFlags := 8, nameIndex := 338, descriptorIndex := 339, attributes := #[] }, { accessFlags := 4120, nameIndex := 245, descriptorIndex := 246, attributes := #[] }])
  fields := #[{ name := "E", type := .double, accessFlags := 25, slot := 0, constantValue := 0 }, { name := "PI", type := .double, accessFlags := 25, slot := 1, constantValue := 0 }, { name := "TAU", type := .double, accessFlags := 25, slot := 2, constantValue := 0 }, { name := "DEGREES_TO_RADIANS", type := .double, accessFlags := 26, slot := 3, constantValue := 0 }, { name := "RADIANS_TO_DEGREES", type := .double, accessFlags := 26, slot := 4, constantValue := 0 }, { name := "negativeZeroFloatBits", type := .long, accessFlags := 26, slot := 5, constantValue := 0 }, { name := "negativeZeroDoubleBits", type := .long, accessFlags := 26, slot := 6, constantValue := 0 }, { name := "twoToTheDoubleScaleUp", type := .double, accessFlags := 8, slot := 7, constantValue := 0 }, { name := "twoToTheDoubleScaleDown", type := .double, accessFlags := 8, slot := 8, constantValue := 0 }, { name := "$assertionsDisabled", type := .boolean, accessFlags := 4120, slot := 9, constantValue := 0 }]
  methods := #[k6m0, k6m1, k6m2]
  instanceTypes := #[]
  staticTypes := #[.double, .double, .double, .double, .double, .long, .long, .double, .double, .boolean]
  resolved := Array.replicate 460 none
  statics := none }

def pool7 : Array CpInfo := pool [(1, u "java/lang/Cloneable"), (0, .class_ 1), (0, u "java/lang/Object"), (0, .class_ 3)] 3

/-- java/lang/Cloneable -/
def k7 : Class := { plain "java/lang/Cloneable" (some 0) with
  accessFlags := 1537
  interfaces := #[]
  cf := some (fileOf pool7 2 #[] #[] 1537 4 #[] #[])
  fields := #[]
  methods := #[]
  instanceTypes := #[]
  staticTypes := #[]
  resolved := Array.replicate 8 none
  statics := none }

def pool8 : Array CpInfo := pool [(1, u "java/io/Serializable"), (0, .class_ 1), (0, u "java/lang/Object"), (0, .class_ 3)] 3

/-- java/io/Serializable -/
def k8 : Class := { plain "java/io/Serializable" (some 0) with
  accessFlags := 1537
  interfaces := #[]
  cf := some (fileOf pool8 2 #[] #[] 1537 4 #[] #[])
  fields := #[]
  methods := #[]
  instanceTypes := #[]
  staticTypes := #[]
  resolved := Array.replicate 8 none
  statics := none }

/-- the primitive byte -/
def k9 : Class := { plain "byte" none with kind := .primitive 'B', accessFlags := 0x411 }
/-- [B -/
def k10 : Class := { plain "[B" (some 0) with kind := .array 9 .byte, interfaces := #[7, 8], accessFlags := 1041 }

/-- the primitive char -/
def k11 : Class := { plain "char" none with kind := .primitive 'C', accessFlags := 0x411 }
/-- [C -/
def k12 : Class := { plain "[C" (some 0) with kind := .array 11 .char, interfaces := #[7, 8], accessFlags := 1041 }

/-- the primitive int -/
def k13 : Class := { plain "int" none with kind := .primitive 'I', accessFlags := 0x411 }
/-- [I -/
def k14 : Class := { plain "[I" (some 0) with kind := .array 13 .int, interfaces := #[7, 8], accessFlags := 1041 }

def heap : Heap := #[]
def classes : Array Class := #[k0, k1, k2, k3, k4, k5, k6, k7, k8, k9, k10, k11, k12, k13, k14]
def interned : List (Array UInt16 × Addr) := []
def slotsUsed : Nat := 0
def theMethod : MethodId := ⟨1, 1⟩
def args0 : Array Value := #[.int 1, .int 2, .int 3, .int 4, .int 5, .int 4]
def aboutOver (below : List Frame) : State where
  vm := { classes := classes, interned := interned.toArray }
  heap := heap
  slotsUsed := slotsUsed
  threads := #[{ frames := .invoking theMethod args0 :: below }]
def below0 : List Frame := [.native { method := ⟨0, 0⟩, args := #[] }]
def about1 : State := aboutOver below0
def p0 : Program := .bare "" "" ""
def e0 : Env := launch0.env 0 0 0
theorem w_frames : about1.frames = Frame.invoking theMethod args0 :: below0 := rfl
set_option maxRecDepth 65536 in
theorem w_args : argsFit about1.vm theMethod args0 = true := by decide +kernel
set_option maxRecDepth 65536 in
theorem w_heap : heapFits about1 = true := by decide +kernel
set_option maxRecDepth 65536 in
theorem w_runnable : about1.curStatus? = some .runnable := by decide +kernel
set_option maxRecDepth 65536 in
theorem w_alone : about1.alone = true := by decide +kernel
set_option maxRecDepth 65536 in
theorem w_named : about1.methodNamed? x = some theMethod := by decide +kernel
set_option maxRecDepth 65536 in
theorem w_hears : about1.hears theMethod below0 = true := by decide +kernel
set_option maxRecDepth 65536 in
theorem w_ripe : about1.ripe theMethod args0 below0 = true := by decide +kernel
theorem w_running : about1.status = .running := rfl
set_option maxRecDepth 65536 in
theorem w_room : about1.hasRoom e0.platform room_1 = true :=
  launch0.hasRoom_least _ room_1 (by decide +kernel) (by decide +kernel) (by decide +kernel) (by decide +kernel) (by decide +kernel) (by decide +kernel)
theorem allAtoms_all (ts : List Jvm.Cond) (a : Array Jvm.Value) (st : Jvm.State) : (allAtoms ts).before a st = ts.all (fun c => c.before a st) := by
  induction ts with
  | nil => rfl
  | cons c t ih =>
    show (Jvm.Cond.and c (allAtoms t)).before a st = _
    rw [Jvm.Cond.before_and, ih, List.all_cons]
def words1 : List Jvm.Cond := Jvm.Cond.code x code maxLocals ret :: tables_1
/-- a 'code' word, met by the world's own term for the bytes: nothing is compared byte by byte -/
theorem code_word {y : MethodName} {bytes : ByteArray} {mx : Nat} {rt : Option FieldType} {a : Array Value} {s : State} {m : MethodId} {meth : Method} {c : Code} (h1 : s.methodNamed? y = some m) (h2 : s.vm.method? m = some meth) (h3 : meth.code = some c) (h4 : c.code = bytes)
    (h5 : (c.maxLocals == mx && c.exceptionTable.isEmpty && decide (c.maxStack ≤ mostOperands) && decide (meth.sig.returnType = rt) && !meth.locks && decide (parseMethodDescriptor y.desc = some meth.sig)) = true) : (Jvm.Cond.code y bytes mx rt).before a s = true := by
  simp only [Bool.and_eq_true, beq_iff_eq, Bool.not_eq_true', decide_eq_true_eq] at h5
  obtain ⟨⟨⟨⟨⟨g1, g2⟩, g3⟩, g4⟩, g5⟩, g6⟩ := h5
  simp [Cond.before, Cond.holds, Cond.value, h1, h2, h3, h4, g1, g2, g3, g4, g5, g6]
def isCode : Jvm.Cond → Bool
  | .code _ _ _ _ => true
  | _ => false
theorem all_split {L : List Jvm.Cond} {P : Jvm.Cond → Bool} (h1 : L.all (fun c => isCode c || P c) = true) (h2 : ∀ c ∈ L.filter isCode, P c = true) : L.all P = true := by
  refine List.all_eq_true.mpr fun c hc => ?_
  have h := List.all_eq_true.mp h1 c hc
  rcases Bool.eq_false_or_eq_true (isCode c) with hi | hi
  · exact h2 c (List.mem_filter.mpr ⟨hc, hi⟩)
  · simpa [hi] using h
set_option maxRecDepth 65536 in
theorem w_c0 : (Jvm.Cond.code x code maxLocals ret).before args0 about1 = true := code_word (m := ⟨1, 1⟩) (meth := k1m1) (c := k1c1) (by decide +kernel) rfl rfl rfl (by decide +kernel)
set_option maxRecDepth 65536 in
theorem w_c1 : (Jvm.Cond.code ({ cls := "com/example/bitstrata/bitstrata/ArrayContainer", name := "<init>", desc := "(C)V" } : Jvm.MethodName) prog_1_method_1_code (2 : Nat) (Option.none : Option Jvm.ClassFile.FieldType)).before args0 about1 = true := code_word (m := ⟨3, 0⟩) (meth := k3m0) (c := k3c0) (by decide +kernel) rfl rfl rfl (by decide +kernel)
set_option maxRecDepth 65536 in
theorem w_c2 : (Jvm.Cond.code ({ cls := "java/lang/Object", name := "<init>", desc := "()V" } : Jvm.MethodName) object_method_1_code (1 : Nat) (Option.none : Option Jvm.ClassFile.FieldType)).before args0 about1 = true := code_word (m := ⟨0, 0⟩) (meth := k0m0) (c := k0c0) (by decide +kernel) rfl rfl rfl (by decide +kernel)
set_option maxRecDepth 65536 in
theorem w_c3 : (Jvm.Cond.code ({ cls := "com/example/bitstrata/bitstrata/ArrayContainer", name := "add", desc := "(C)Lcom/example/bitstrata/bitstrata/Container;" } : Jvm.MethodName) prog_1_method_15_code (4 : Nat) (Option.some (Jvm.ClassFile.FieldType.object "com/example/bitstrata/bitstrata/Container"))).before args0 about1 = true := code_word (m := ⟨3, 2⟩) (meth := k3m2) (c := k3c2) (by decide +kernel) rfl rfl rfl (by decide +kernel)
set_option maxRecDepth 65536 in
theorem w_c4 : (Jvm.Cond.code ({ cls := "java/util/Arrays", name := "binarySearch", desc := "([CIIC)I" } : Jvm.MethodName) jdk_65_method_64_code (4 : Nat) (Option.some Jvm.ClassFile.FieldType.int)).before args0 about1 = true := code_word (m := ⟨4, 2⟩) (meth := k4m2) (c := k4c2) (by decide +kernel) rfl rfl rfl (by decide +kernel)
set_option maxRecDepth 65536 in
theorem w_c5 : (Jvm.Cond.code ({ cls := "java/util/Arrays", name := "rangeCheck", desc := "(III)V" } : Jvm.MethodName) jdk_65_method_30_code (3 : Nat) (Option.none : Option Jvm.ClassFile.FieldType)).before args0 about1 = true := code_word (m := ⟨4, 1⟩) (meth := k4m1) (c := k4c1) (by decide +kernel) rfl rfl rfl (by decide +kernel)
set_option maxRecDepth 65536 in
theorem w_c6 : (Jvm.Cond.code ({ cls := "java/util/Arrays", name := "binarySearch0", desc := "([CIIC)I" } : Jvm.MethodName) jdk_65_method_65_code (8 : Nat) (Option.some Jvm.ClassFile.FieldType.int)).before args0 about1 = true := code_word (m := ⟨4, 3⟩) (meth := k4m3) (c := k4c3) (by decide +kernel) rfl rfl rfl (by decide +kernel)
set_option maxRecDepth 65536 in
theorem w_c7 : (Jvm.Cond.code ({ cls := "java/lang/Math", name := "max", desc := "(II)I" } : Jvm.MethodName) jdk_29_method_65_code (2 : Nat) (Option.some Jvm.ClassFile.FieldType.int)).before args0 about1 = true := code_word (m := ⟨6, 1⟩) (meth := k6m1) (c := k6c1) (by decide +kernel) rfl rfl rfl (by decide +kernel)
set_option maxRecDepth 65536 in
theorem w_c8 : (Jvm.Cond.code ({ cls := "com/example/bitstrata/bitstrata/ArrayContainer", name := "last", desc := "()C" } : Jvm.MethodName) prog_1_method_11_code (1 : Nat) (Option.some Jvm.ClassFile.FieldType.char)).before args0 about1 = true := code_word (m := ⟨3, 1⟩) (meth := k3m1) (c := k3c1) (by decide +kernel) rfl rfl rfl (by decide +kernel)
set_option maxRecDepth 65536 in
theorem w_c9 : (Jvm.Cond.code ({ cls := "java/lang/Math", name := "min", desc := "(II)I" } : Jvm.MethodName) jdk_29_method_69_code (2 : Nat) (Option.some Jvm.ClassFile.FieldType.int)).before args0 about1 = true := code_word (m := ⟨6, 2⟩) (meth := k6m2) (c := k6c2) (by decide +kernel) rfl rfl rfl (by decide +kernel)
set_option maxRecDepth 65536 in
theorem w_c10 : (Jvm.Cond.code ({ cls := "java/util/Arrays", name := "copyOf", desc := "([CI)[C" } : Jvm.MethodName) jdk_65_method_125_code (3 : Nat) (Option.some (Jvm.ClassFile.FieldType.array Jvm.ClassFile.FieldType.char))).before args0 about1 = true := code_word (m := ⟨4, 4⟩) (meth := k4m4) (c := k4c4) (by decide +kernel) rfl rfl rfl (by decide +kernel)
def codes1 : List Jvm.Cond := [Jvm.Cond.code x code maxLocals ret, Jvm.Cond.code ({ cls := "com/example/bitstrata/bitstrata/ArrayContainer", name := "<init>", desc := "(C)V" } : Jvm.MethodName) prog_1_method_1_code (2 : Nat) (Option.none : Option Jvm.ClassFile.FieldType), Jvm.Cond.code ({ cls := "java/lang/Object", name := "<init>", desc := "()V" } : Jvm.MethodName) object_method_1_code (1 : Nat) (Option.none : Option Jvm.ClassFile.FieldType), Jvm.Cond.code ({ cls := "com/example/bitstrata/bitstrata/ArrayContainer", name := "add", desc := "(C)Lcom/example/bitstrata/bitstrata/Container;" } : Jvm.MethodName) prog_1_method_15_code (4 : Nat) (Option.some (Jvm.ClassFile.FieldType.object "com/example/bitstrata/bitstrata/Container")), Jvm.Cond.code ({ cls := "java/util/Arrays", name := "binarySearch", desc := "([CIIC)I" } : Jvm.MethodName) jdk_65_method_64_code (4 : Nat) (Option.some Jvm.ClassFile.FieldType.int), Jvm.Cond.code ({ cls := "java/util/Arrays", name := "rangeCheck", desc := "(III)V" } : Jvm.MethodName) jdk_65_method_30_code (3 : Nat) (Option.none : Option Jvm.ClassFile.FieldType), Jvm.Cond.code ({ cls := "java/util/Arrays", name := "binarySearch0", desc := "([CIIC)I" } : Jvm.MethodName) jdk_65_method_65_code (8 : Nat) (Option.some Jvm.ClassFile.FieldType.int), Jvm.Cond.code ({ cls := "java/lang/Math", name := "max", desc := "(II)I" } : Jvm.MethodName) jdk_29_method_65_code (2 : Nat) (Option.some Jvm.ClassFile.FieldType.int), Jvm.Cond.code ({ cls := "com/example/bitstrata/bitstrata/ArrayContainer", name := "last", desc := "()C" } : Jvm.MethodName) prog_1_method_11_code (1 : Nat) (Option.some Jvm.ClassFile.FieldType.char), Jvm.Cond.code ({ cls := "java/lang/Math", name := "min", desc := "(II)I" } : Jvm.MethodName) jdk_29_method_69_code (2 : Nat) (Option.some Jvm.ClassFile.FieldType.int), Jvm.Cond.code ({ cls := "java/util/Arrays", name := "copyOf", desc := "([CI)[C" } : Jvm.MethodName) jdk_65_method_125_code (3 : Nat) (Option.some (Jvm.ClassFile.FieldType.array Jvm.ClassFile.FieldType.char))]
set_option maxRecDepth 65536 in
theorem codes_eq : words1.filter isCode = codes1 := rfl
theorem w_codes : ∀ c ∈ words1.filter isCode, c.before args0 about1 = true := by
  rw [codes_eq]
  intro c hc
  simp only [codes1, List.mem_cons, List.not_mem_nil, or_false] at hc
  rcases hc with rfl | rfl | rfl | rfl | rfl | rfl | rfl | rfl | rfl | rfl | rfl
  · exact w_c0
  · exact w_c1
  · exact w_c2
  · exact w_c3
  · exact w_c4
  · exact w_c5
  · exact w_c6
  · exact w_c7
  · exact w_c8
  · exact w_c9
  · exact w_c10
set_option maxRecDepth 65536 in
theorem w_t1 : (words1.take 24).all (fun c => isCode c || c.before args0 about1) = true := by decide +kernel
set_option maxRecDepth 65536 in
theorem w_t2 : ((words1.drop 24).take 24).all (fun c => isCode c || c.before args0 about1) = true := by decide +kernel
set_option maxRecDepth 65536 in
theorem w_t3 : ((words1.drop 24).drop 24).all (fun c => isCode c || c.before args0 about1) = true := by decide +kernel
theorem w_tables : (allAtoms (Jvm.Cond.code x code maxLocals ret :: tables_1)).before args0 about1 = true := by
  rw [allAtoms_all]
  show words1.all (fun c => c.before args0 about1) = true
  refine all_split ?_ w_codes
  rw [← List.take_append_drop 24 words1, List.all_append, w_t1, ← List.take_append_drop 24 (words1.drop 24), List.all_append, w_t2, w_t3]
  rfl
set_option maxRecDepth 65536 in
theorem w_case : (Jvm.Cond.and given_1 narrow_1).before args0 about1 = true := by decide +kernel
theorem w_applies : (headSpec (Jvm.Cond.code x code maxLocals ret :: tables_1) room_1).applies x e0.platform about1 = true :=
  (Spec.applies_iff w_frames).mpr ⟨w_running, w_runnable, w_alone, w_named, w_hears, w_ripe, w_room, w_tables⟩
theorem atStart : AtStart classFile x code maxLocals ret World_1 tables_1 room_1 Calls_1 rest_1 Pre_1 launch0 p0 e0 about1 theMethod args0 below0 :=
  ⟨lists_1, trivial, launch0.admits_env _ _ _, launch0.least_env, fairChoices_fair.cas, fairChoices_fair.clock, w_frames, w_args, w_heap, w_applies, trivial, trivial, w_case⟩
end start1
theorem witness_1 : WitnessClaimed_1 := ⟨start1.p0, start1.e0, start1.about1, start1.theMethod, start1.args0, start1.below0, start1.atStart⟩
end Jvm.Pilot.@@N@@
