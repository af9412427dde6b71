import JvmDerived
import JvmDerived.Pilot.@@N@@Statement
import JvmDerived.Pilot.@@N@@Code
set_option linter.unusedVariables false
set_option linter.unusedSimpArgs false
namespace Jvm.RoadKit
open Sem ClassFile Op Lib Jvm.Stand Jvm.Free Jvm.LawKit
section New
variable {p : Program} {l : Launch} {e : Env} {R : Room} {s : State} {m : MethodId} {args : Array Value} {below : List Frame} {meth : Method} {c : Code} {T : State} {locs : List Loc} {cells slots : Nat}
theorem retI (X : Stand p l e R s m args below meth c T locs cells slots) (hx : p.tables.exec = Jvm.exec) {pc : Nat} {Ls : Array Slot} {z : Int32} {rest : List Value} (hret : meth.sig.returnType = some .int) (hd : decode c.code pc = .ok (.ireturn, 1)) {fs : List Frame}
    (hl : ∀ (f : JFrame) (acts : List Action), f.method = m → f.locked = none → f.entered = [] → (doReturn e (T.setTop f) acts (some (.int z))).1 = T.setFrames fs) : Steps p.tables e below (T.setTop (mkF m pc Ls (.int z :: rest))) (T.setFrames fs) := by
  have hm' : T.vm.method? m = some meth := X.method'
  have hn : narrow .int (.int z) = .int z := rfl
  show Steps p.tables e below (T.setTop { method := m, pc := pc, locals := Ls, stack := _ :: rest, locked := none }) _
  jvm_step X.here [X.here.top, hx, hd, hm', hret, hn]
  first | (intro acts; rw [hl _ acts rfl rfl rfl]) | rw [hl _ _ rfl rfl rfl]
  exact Steps.refl _
end New
end Jvm.RoadKit
namespace Jvm.Pilot.@@N@@
open Jvm Jvm.ClassFile Sem Op Lib Jvm.Free Jvm.Stand Jvm.LawKit Jvm.RoadKit Bundle Jvm.Pilot.@@N@@.Jvm.D
abbrev own_S (p : Program) (e : Env) (b : List Frame) (T : State) (m : MethodId) (pc : Nat) (L : Array Slot) (S : List Value) (t : State) : Prop := Steps p.tables e b (T.setTop (mkF m pc L S)) t
theorem own_eqI {args : Array Value} {s : State} {a : Term} {k : Int32} (h : (Jvm.Cond.eq a (.int k)).value args s none s [] = some true) : a.eval args s none [] s = some (.int k) := by
  obtain ⟨x, y, e1, e2, k1, -⟩ := cmp_v (Or.inl h)
  cases (show (Term.int k).eval args s none [] s = some (.int k) from rfl).symm.trans e2
  cases x with
  | int z => rw [gotT (Cond.eq_ints e1 e2) h] at e1; exact e1
  | _ => first | (obtain ⟨z, q⟩ := k1; cases q; done) | (exact absurd k1.2 (by simp [Value.isRef]))
theorem own_eqL {args : Array Value} {s : State} {a : Term} {k : Int64} (h : (Jvm.Cond.eq a (.long k)).value args s none s [] = some true) : a.eval args s none [] s = some (.long k) := by
  obtain ⟨x, y, e1, e2, k1, -⟩ := cmp_v (Or.inl h)
  cases (show (Term.long k).eval args s none [] s = some (.long k) from rfl).symm.trans e2
  cases x with
  | long z => rw [gotT (eq_L e1 e2) h] at e1; exact e1
  | _ => first | (obtain ⟨z, q⟩ := k1; cases q; done) | (exact absurd k1.2 (by simp [Value.isRef]))
theorem own_eqR {args : Array Value} {s : State} {a b : Term} {y : Addr} (h : (Jvm.Cond.eq a b).value args s none s [] = some true) (eb : b.eval args s none [] s = some (.ref y)) : a.eval args s none [] s = some (.ref y) := by
  obtain ⟨x, z, e1, e2, k1, k2⟩ := cmp_v (Or.inl h)
  cases eb.symm.trans e2
  have hx : x.isRef = true := k2.2
  rw [gotT (eq_R e1 e2 hx rfl) h] at e1; exact e1
def own_ref (n : Int32) (en0 : Addr) (en1 : Addr) (en2 : Addr) (en3 : Addr) (en4 : Addr) (en5 : Addr) : Value := if n = 0 then .ref en0 else if n = 1 then .ref en1 else if n = 2 then .ref en2 else if n = 3 then .ref en3 else if n = 4 then .ref en4 else if n = 5 then .ref en5 else .null
def own_out (n : Int32) : Prop := n < 0 ∨ ¬ n < 6
theorem own_split (n : Int32) : n = 0 ∨ n = 1 ∨ n = 2 ∨ n = 3 ∨ n = 4 ∨ n = 5 ∨ own_out n := by
  have l0 : (0 : Int32).toInt = 0 := by decide
  have l1 : (1 : Int32).toInt = 1 := by decide
  have l2 : (2 : Int32).toInt = 2 := by decide
  have l3 : (3 : Int32).toInt = 3 := by decide
  have l4 : (4 : Int32).toInt = 4 := by decide
  have l5 : (5 : Int32).toInt = 5 := by decide
  have l6 : (6 : Int32).toInt = 6 := by decide
  simp only [own_out, ← Int32.toInt_inj, Int32.lt_iff_toInt_lt, l0, l1, l2, l3, l4, l5, l6]
  omega
theorem own_outs {n : Int32} (h : own_out n) : ¬ n = 0 ∧ ¬ n = 1 ∧ ¬ n = 2 ∧ ¬ n = 3 ∧ ¬ n = 4 ∧ ¬ n = 5 := by
  have l0 : (0 : Int32).toInt = 0 := by decide
  have l1 : (1 : Int32).toInt = 1 := by decide
  have l2 : (2 : Int32).toInt = 2 := by decide
  have l3 : (3 : Int32).toInt = 3 := by decide
  have l4 : (4 : Int32).toInt = 4 := by decide
  have l5 : (5 : Int32).toInt = 5 := by decide
  have l6 : (6 : Int32).toInt = 6 := by decide
  simp only [own_out, ← Int32.toInt_inj, Int32.lt_iff_toInt_lt, l0, l1, l2, l3, l4, l5, l6] at h ⊢
  omega
theorem own_null {n : Int32} (h : own_out n) (en0 : Addr) (en1 : Addr) (en2 : Addr) (en3 : Addr) (en4 : Addr) (en5 : Addr) : own_ref n en0 en1 en2 en3 en4 en5 = .null := by
  obtain ⟨q0, q1, q2, q3, q4, q5⟩ := own_outs h
  simp [own_ref, q0, q1, q2, q3, q4, q5]
theorem own_small {args : Array Value} {s : State} {t : Term} {x : Addr} {cl : Cell} {v : Value} (h : (Term.length t).eval args s none [] s = some v) (ht : t.eval args s none [] s = some (.ref x)) (ha : s.arrayAt? x = some cl) : cl.slots.size < 2 ^ 31 := by
  by_cases q : cl.slots.size < 2 ^ 31
  · exact q
  · simp [Term.eval, ht, ha, q] at h
theorem pn_0 : plainName "com/example/converge/converge/runtime/WireType" = true := by first | (simp [plainName, overriddenIn]; done) | decide +kernel
theorem ef_2 (m : MethodId) (p1 : Int32) : entryFrame m #[(.int p1)] 1 = mkF m 0 #[iv p1] [] := by first | (simp [entryFrame, mkF, argsToLocals, Value.category]; done) | rfl
def Q2 (Z : State) (p1 : Int32) (en0 : Addr) (en1 : Addr) (en2 : Addr) (en3 : Addr) (en4 : Addr) (en5 : Addr) (aA : Addr) (kA : ClassId) (h0 : Heap) (n0 : Nat) (v : Option Value) (h : Heap) (L : List Loc) : Prop := v = some (own_ref p1 en0 en1 en2 en3 en4 en5) ∧ Fr n0 L ∧ h = h0
theorem d2_0 : decode prog_92_method_5_code 0 = .ok (.iload_n 0, 1) := by decide +kernel
theorem d2_1 : decode prog_92_method_5_code 1 = .ok (.ifCond .lt 19, 3) := by decide +kernel
theorem d2_4 : decode prog_92_method_5_code 4 = .ok (.iload_n 0, 1) := by decide +kernel
theorem d2_5 : decode prog_92_method_5_code 5 = .ok (.getstatic 45, 3) := by decide +kernel
theorem d2_8 : decode prog_92_method_5_code 8 = .ok (.arraylength, 1) := by decide +kernel
theorem d2_9 : decode prog_92_method_5_code 9 = .ok (.if_icmp .ge 11, 3) := by decide +kernel
theorem d2_12 : decode prog_92_method_5_code 12 = .ok (.getstatic 45, 3) := by decide +kernel
theorem d2_15 : decode prog_92_method_5_code 15 = .ok (.iload_n 0, 1) := by decide +kernel
theorem d2_16 : decode prog_92_method_5_code 16 = .ok (.aaload, 1) := by decide +kernel
theorem d2_17 : decode prog_92_method_5_code 17 = .ok (.goto 4, 3) := by decide +kernel
theorem d2_21 : decode prog_92_method_5_code 21 = .ok (.areturn, 1) := by decide +kernel
theorem d2_20 : decode prog_92_method_5_code 20 = .ok (.aconst_null, 1) := by decide +kernel
set_option maxRecDepth 65536 in
set_option maxHeartbeats 40000000 in
theorem rm2 (l : Launch) (Z : State) (a0 : Array Value) (hw : ∀ d ∈ tables_1, d.before a0 Z = true) (ws : List Jvm.Cond) (p1 : Int32) (en0 : Addr) (en1 : Addr) (en2 : Addr) (en3 : Addr) (en4 : Addr) (en5 : Addr) (aA : Addr) (kA : ClassId) (h0 : Heap) (n0 : Nat) (Z0 : n0 ≤ h0.size) (S_en0 : Sta Z h0 "com/example/converge/converge/runtime/WireType" "VARINT" "Lcom/example/converge/converge/runtime/WireType;" (.ref en0)) (S_en1 : Sta Z h0 "com/example/converge/converge/runtime/WireType" "I64" "Lcom/example/converge/converge/runtime/WireType;" (.ref en1)) (S_en2 : Sta Z h0 "com/example/converge/converge/runtime/WireType" "LEN" "Lcom/example/converge/converge/runtime/WireType;" (.ref en2)) (S_en3 : Sta Z h0 "com/example/converge/converge/runtime/WireType" "SGROUP" "Lcom/example/converge/converge/runtime/WireType;" (.ref en3)) (S_en4 : Sta Z h0 "com/example/converge/converge/runtime/WireType" "EGROUP" "Lcom/example/converge/converge/runtime/WireType;" (.ref en4)) (S_en5 : Sta Z h0 "com/example/converge/converge/runtime/WireType" "I32" "Lcom/example/converge/converge/runtime/WireType;" (.ref en5)) (S_A : Sta Z h0 "com/example/converge/converge/runtime/WireType" "BY_NUMBER" "[Lcom/example/converge/converge/runtime/WireType;" (.ref aA)) (V_A : Arv Z h0 aA kA (.object "com/example/converge/converge/runtime/WireType") (6 : Int32) [(.ref en0), (.ref en1), (.ref en2), (.ref en3), (.ref en4), (.ref en5)] .null) (F_en0 : Fld Z h0 en0 "com/example/converge/converge/runtime/WireType" "_number" "I" (.int (0 : Int32))) (F_en1 : Fld Z h0 en1 "com/example/converge/converge/runtime/WireType" "_number" "I" (.int (1 : Int32))) (F_en2 : Fld Z h0 en2 "com/example/converge/converge/runtime/WireType" "_number" "I" (.int (2 : Int32))) (F_en3 : Fld Z h0 en3 "com/example/converge/converge/runtime/WireType" "_number" "I" (.int (3 : Int32))) (F_en4 : Fld Z h0 en4 "com/example/converge/converge/runtime/WireType" "_number" "I" (.int (4 : Int32))) (F_en5 : Fld Z h0 en5 "com/example/converge/converge/runtime/WireType" "_number" "I" (.int (5 : Int32))) (E_en0 : Exa Z h0 en0 "com/example/converge/converge/runtime/WireType") (E_en1 : Exa Z h0 en1 "com/example/converge/converge/runtime/WireType") (E_en2 : Exa Z h0 en2 "com/example/converge/converge/runtime/WireType") (E_en3 : Exa Z h0 en3 "com/example/converge/converge/runtime/WireType") (E_en4 : Exa Z h0 en4 "com/example/converge/converge/runtime/WireType") (E_en5 : Exa Z h0 en5 "com/example/converge/converge/runtime/WireType") :
    MetFree l (⟨"com/example/converge/converge/runtime/WireType", "forNumber", "(I)Lcom/example/converge/converge/runtime/WireType;"⟩ : MethodName) (head1 (Jvm.Cond.code (⟨"com/example/converge/converge/runtime/WireType", "forNumber", "(I)Lcom/example/converge/converge/runtime/WireType;"⟩ : MethodName) prog_92_method_5_code 1 (some (.object "com/example/converge/converge/runtime/WireType")) :: ws) ({ frames := 0, cells := 0, slots := 0, locals := 0 } : Room)) (fun a U => a = #[(.int p1)] ∧ Z.Warmed39 U.vm ∧ U.heap = h0) (fun _ _ _ _ _ => True) (fun _ U o U' => ∃ v L, o = .returned v ∧ Q2 Z p1 en0 en1 en2 en3 en4 en5 aA kA h0 n0 v U'.heap L ∧ FrameEnd U o U' L ({ frames := 0, cells := 0, slots := 0, locals := 0 } : Room).cells ({ frames := 0, cells := 0, slots := 0, locals := 0 } : Room).slots) := by
  refine MetFree.of_bodySF (plainFor_of_name pn_0) hisR ?_
  intro p e s m args below meth c s₁ Bd hml0 hP hK
  obtain ⟨rfl, hZ, hh⟩ := hP
  have hx := Bd.exec
  have hby := Bd.bytes
  have hml : c.maxLocals = 1 := hml0
  have hown : s.vm.findClass "com/example/converge/converge/runtime/WireType" = some m.cls := findClass_of_methodNamed Bd.named
  have hnm := (name_of_methodNamed Bd.named Bd.method).1
  have X0 : Stand p l e ({ frames := 0, cells := 0, slots := 0, locals := 0 } : Room) s m #[(.int p1)] below meth c s₁ [] 0 0 := Stand.of_body Bd
  have e0 : s₁.heap = h0 := by rw [← hh, Bd.state]; rfl
  have N0 := Fr.nil n0
  have pre0 : ∀ t, Steps p.tables e below (s₁.setTop (mkF m 0 #[iv p1] [])) t → Steps p.tables e below (s₁.setTop (entryFrame m #[(.int p1)] 1)) t := fun t k => castTop (ef_2 m p1) k
  have hsp := own_split p1
  rcases hsp with rfl | rfl | rfl | rfl | rfl | rfl | hout
  ·  -- case
    obtain ⟨T1, X1, e1, st1⟩ := getS2 X0 hx hZ hown (host := "") (Or.inl (hw _ (List.mem_of_getElem? (i := 8) rfl))) Via.refl e0 S_A (g := (mkF m 5 #[iv (0 : Int32)] [(.int (0 : Int32))])) rfl (hb hby d2_5)
    obtain ⟨cl2, Ar2, q2, S2, M2, -, -⟩ := id V_A
    obtain ⟨T3, X3, e3, st3⟩ := getS2 X1 hx hZ hown (host := "") (Or.inl (hw _ (List.mem_of_getElem? (i := 8) rfl))) Via.refl e1 S_A (g := (mkF m 12 #[iv (0 : Int32)] [])) rfl (hb hby d2_12)
    obtain ⟨cl4, Ar4, q4, S4, M4, H4, G4⟩ := id V_A
    have hin4 : ¬ ((0 : Int32) < 0 ∨ cl4.slots.size ≤ ((0 : Int32)).toNatClampNeg) := inb_of S4 ⟨by decide, by decide⟩
    have hat4 : cl4.slots[((0 : Int32)).toNatClampNeg]? = some (.ref en0) := H4.at hin4 rfl
    have pre5 : ∀ t, own_S p e below T3 m 21 #[iv (0 : Int32)] [(.ref en0)] t → Steps p.tables e below (s₁.setTop (entryFrame m #[(.int (0 : Int32))] 1)) t := fun t k => pre0 t (by
      show own_S p e below s₁ m 0 #[iv (0 : Int32)] [] _
      refine XS.iloadN X0.here hx rfl (hb hby d2_0) rfl ?_
      show own_S p e below s₁ m 1 #[iv (0 : Int32)] [(.int (0 : Int32))] _
      refine XS.ifNo X0.here hx rfl (hb hby d2_1) rfl ((if0 _ _).trans (flt (by decide : ¬ ((0 : Int32) < (0 : Int32)))).1) ?_
      show own_S p e below s₁ m 4 #[iv (0 : Int32)] [] _
      refine XS.iloadN X0.here hx rfl (hb hby d2_4) rfl ?_
      show own_S p e below s₁ m 5 #[iv (0 : Int32)] [(.int (0 : Int32))] _
      refine st1 _ ?_
      show own_S p e below T1 m 8 #[iv (0 : Int32)] [(.ref aA), (.int (0 : Int32))] _
      refine X1.arraylength hx (by rw [e1]; exact Ar2.1) (State.isArrayOf_alike hZ.alike Ar2.2.1) (g := (mkF m 8 #[iv (0 : Int32)] [(.ref aA), (.int (0 : Int32))])) rfl rfl (hb hby d2_8) _ ?_
      rw [len_of S2 M2]
      show own_S p e below T1 m 9 #[iv (0 : Int32)] [(.int (6 : Int32)), (.int (0 : Int32))] _
      refine XS.icmpNo X1.here hx rfl (hb hby d2_9) rfl (tlt (by decide : (0 : Int32) < (6 : Int32))).2.1 ?_
      show own_S p e below T1 m 12 #[iv (0 : Int32)] [] _
      refine st3 _ ?_
      show own_S p e below T3 m 15 #[iv (0 : Int32)] [(.ref aA)] _
      refine XS.iloadN X3.here hx rfl (hb hby d2_15) rfl ?_
      show own_S p e below T3 m 16 #[iv (0 : Int32)] [(.int (0 : Int32)), (.ref aA)] _
      refine X3.aaload hx (j := (0 : Int32)) (v := (.ref en0)) (by rw [e3]; exact Ar4.1) (State.isArrayOf_alike hZ.alike Ar4.2.1) rfl Ar4.2.2 hin4 hat4 (g := (mkF m 16 #[iv (0 : Int32)] [(.int (0 : Int32)), (.ref aA)])) rfl rfl (hb hby d2_16) _ ?_
      show own_S p e below T3 m 17 #[iv (0 : Int32)] [(.ref en0)] _
      refine XS.goto X3.here hx rfl (pc0 := 17) (pc' := 21) rfl (hb hby d2_17) (by decide) (by decide) ?_
      exact k)
    obtain ⟨fs, hr, hrun, hended, hW, hsame⟩ := X3.leave (v := some (.ref en0)) (fun h => by rw [Bd.returns] at h; cases h)
    refine ⟨_, _, pre5 _ ?_, hrun, hended, _, _, rfl, ?_, ⟨_, rfl⟩, hW, hsame.mono (by decide) (by decide)⟩
    · show own_S p e below T3 m 21 #[iv (0 : Int32)] [(.ref en0)] _
      exact retOut X3 hx (t := (.object "com/example/converge/converge/runtime/WireType")) Bd.returns rfl (Or.inr (Or.inr (Or.inr (Or.inr ⟨rfl, rfl, rfl⟩)))) (hb hby d2_21) hr
    · show Q2 Z (0 : Int32) en0 en1 en2 en3 en4 en5 aA kA h0 n0 _ T3.heap _
      rw [e3]
      exact ⟨rfl, N0, rfl⟩
  ·  -- case
    obtain ⟨T6, X6, e6, st6⟩ := getS2 X0 hx hZ hown (host := "") (Or.inl (hw _ (List.mem_of_getElem? (i := 8) rfl))) Via.refl e0 S_A (g := (mkF m 5 #[iv (1 : Int32)] [(.int (1 : Int32))])) rfl (hb hby d2_5)
    obtain ⟨cl7, Ar7, q7, S7, M7, -, -⟩ := id V_A
    obtain ⟨T8, X8, e8, st8⟩ := getS2 X6 hx hZ hown (host := "") (Or.inl (hw _ (List.mem_of_getElem? (i := 8) rfl))) Via.refl e6 S_A (g := (mkF m 12 #[iv (1 : Int32)] [])) rfl (hb hby d2_12)
    obtain ⟨cl9, Ar9, q9, S9, M9, H9, G9⟩ := id V_A
    have hin9 : ¬ ((1 : Int32) < 0 ∨ cl9.slots.size ≤ ((1 : Int32)).toNatClampNeg) := inb_of S9 ⟨by decide, by decide⟩
    have hat9 : cl9.slots[((1 : Int32)).toNatClampNeg]? = some (.ref en1) := H9.at hin9 rfl
    have pre10 : ∀ t, own_S p e below T8 m 21 #[iv (1 : Int32)] [(.ref en1)] t → Steps p.tables e below (s₁.setTop (entryFrame m #[(.int (1 : Int32))] 1)) t := fun t k => pre0 t (by
      show own_S p e below s₁ m 0 #[iv (1 : Int32)] [] _
      refine XS.iloadN X0.here hx rfl (hb hby d2_0) rfl ?_
      show own_S p e below s₁ m 1 #[iv (1 : Int32)] [(.int (1 : Int32))] _
      refine XS.ifNo X0.here hx rfl (hb hby d2_1) rfl ((if0 _ _).trans (flt (by decide : ¬ ((1 : Int32) < (0 : Int32)))).1) ?_
      show own_S p e below s₁ m 4 #[iv (1 : Int32)] [] _
      refine XS.iloadN X0.here hx rfl (hb hby d2_4) rfl ?_
      show own_S p e below s₁ m 5 #[iv (1 : Int32)] [(.int (1 : Int32))] _
      refine st6 _ ?_
      show own_S p e below T6 m 8 #[iv (1 : Int32)] [(.ref aA), (.int (1 : Int32))] _
      refine X6.arraylength hx (by rw [e6]; exact Ar7.1) (State.isArrayOf_alike hZ.alike Ar7.2.1) (g := (mkF m 8 #[iv (1 : Int32)] [(.ref aA), (.int (1 : Int32))])) rfl rfl (hb hby d2_8) _ ?_
      rw [len_of S7 M7]
      show own_S p e below T6 m 9 #[iv (1 : Int32)] [(.int (6 : Int32)), (.int (1 : Int32))] _
      refine XS.icmpNo X6.here hx rfl (hb hby d2_9) rfl (tlt (by decide : (1 : Int32) < (6 : Int32))).2.1 ?_
      show own_S p e below T6 m 12 #[iv (1 : Int32)] [] _
      refine st8 _ ?_
      show own_S p e below T8 m 15 #[iv (1 : Int32)] [(.ref aA)] _
      refine XS.iloadN X8.here hx rfl (hb hby d2_15) rfl ?_
      show own_S p e below T8 m 16 #[iv (1 : Int32)] [(.int (1 : Int32)), (.ref aA)] _
      refine X8.aaload hx (j := (1 : Int32)) (v := (.ref en1)) (by rw [e8]; exact Ar9.1) (State.isArrayOf_alike hZ.alike Ar9.2.1) rfl Ar9.2.2 hin9 hat9 (g := (mkF m 16 #[iv (1 : Int32)] [(.int (1 : Int32)), (.ref aA)])) rfl rfl (hb hby d2_16) _ ?_
      show own_S p e below T8 m 17 #[iv (1 : Int32)] [(.ref en1)] _
      refine XS.goto X8.here hx rfl (pc0 := 17) (pc' := 21) rfl (hb hby d2_17) (by decide) (by decide) ?_
      exact k)
    obtain ⟨fs, hr, hrun, hended, hW, hsame⟩ := X8.leave (v := some (.ref en1)) (fun h => by rw [Bd.returns] at h; cases h)
    refine ⟨_, _, pre10 _ ?_, hrun, hended, _, _, rfl, ?_, ⟨_, rfl⟩, hW, hsame.mono (by decide) (by decide)⟩
    · show own_S p e below T8 m 21 #[iv (1 : Int32)] [(.ref en1)] _
      exact retOut X8 hx (t := (.object "com/example/converge/converge/runtime/WireType")) Bd.returns rfl (Or.inr (Or.inr (Or.inr (Or.inr ⟨rfl, rfl, rfl⟩)))) (hb hby d2_21) hr
    · show Q2 Z (1 : Int32) en0 en1 en2 en3 en4 en5 aA kA h0 n0 _ T8.heap _
      rw [e8]
      exact ⟨rfl, N0, rfl⟩
  ·  -- case
    obtain ⟨T11, X11, e11, st11⟩ := getS2 X0 hx hZ hown (host := "") (Or.inl (hw _ (List.mem_of_getElem? (i := 8) rfl))) Via.refl e0 S_A (g := (mkF m 5 #[iv (2 : Int32)] [(.int (2 : Int32))])) rfl (hb hby d2_5)
    obtain ⟨cl12, Ar12, q12, S12, M12, -, -⟩ := id V_A
    obtain ⟨T13, X13, e13, st13⟩ := getS2 X11 hx hZ hown (host := "") (Or.inl (hw _ (List.mem_of_getElem? (i := 8) rfl))) Via.refl e11 S_A (g := (mkF m 12 #[iv (2 : Int32)] [])) rfl (hb hby d2_12)
    obtain ⟨cl14, Ar14, q14, S14, M14, H14, G14⟩ := id V_A
    have hin14 : ¬ ((2 : Int32) < 0 ∨ cl14.slots.size ≤ ((2 : Int32)).toNatClampNeg) := inb_of S14 ⟨by decide, by decide⟩
    have hat14 : cl14.slots[((2 : Int32)).toNatClampNeg]? = some (.ref en2) := H14.at hin14 rfl
    have pre15 : ∀ t, own_S p e below T13 m 21 #[iv (2 : Int32)] [(.ref en2)] t → Steps p.tables e below (s₁.setTop (entryFrame m #[(.int (2 : Int32))] 1)) t := fun t k => pre0 t (by
      show own_S p e below s₁ m 0 #[iv (2 : Int32)] [] _
      refine XS.iloadN X0.here hx rfl (hb hby d2_0) rfl ?_
      show own_S p e below s₁ m 1 #[iv (2 : Int32)] [(.int (2 : Int32))] _
      refine XS.ifNo X0.here hx rfl (hb hby d2_1) rfl ((if0 _ _).trans (flt (by decide : ¬ ((2 : Int32) < (0 : Int32)))).1) ?_
      show own_S p e below s₁ m 4 #[iv (2 : Int32)] [] _
      refine XS.iloadN X0.here hx rfl (hb hby d2_4) rfl ?_
      show own_S p e below s₁ m 5 #[iv (2 : Int32)] [(.int (2 : Int32))] _
      refine st11 _ ?_
      show own_S p e below T11 m 8 #[iv (2 : Int32)] [(.ref aA), (.int (2 : Int32))] _
      refine X11.arraylength hx (by rw [e11]; exact Ar12.1) (State.isArrayOf_alike hZ.alike Ar12.2.1) (g := (mkF m 8 #[iv (2 : Int32)] [(.ref aA), (.int (2 : Int32))])) rfl rfl (hb hby d2_8) _ ?_
      rw [len_of S12 M12]
      show own_S p e below T11 m 9 #[iv (2 : Int32)] [(.int (6 : Int32)), (.int (2 : Int32))] _
      refine XS.icmpNo X11.here hx rfl (hb hby d2_9) rfl (tlt (by decide : (2 : Int32) < (6 : Int32))).2.1 ?_
      show own_S p e below T11 m 12 #[iv (2 : Int32)] [] _
      refine st13 _ ?_
      show own_S p e below T13 m 15 #[iv (2 : Int32)] [(.ref aA)] _
      refine XS.iloadN X13.here hx rfl (hb hby d2_15) rfl ?_
      show own_S p e below T13 m 16 #[iv (2 : Int32)] [(.int (2 : Int32)), (.ref aA)] _
      refine X13.aaload hx (j := (2 : Int32)) (v := (.ref en2)) (by rw [e13]; exact Ar14.1) (State.isArrayOf_alike hZ.alike Ar14.2.1) rfl Ar14.2.2 hin14 hat14 (g := (mkF m 16 #[iv (2 : Int32)] [(.int (2 : Int32)), (.ref aA)])) rfl rfl (hb hby d2_16) _ ?_
      show own_S p e below T13 m 17 #[iv (2 : Int32)] [(.ref en2)] _
      refine XS.goto X13.here hx rfl (pc0 := 17) (pc' := 21) rfl (hb hby d2_17) (by decide) (by decide) ?_
      exact k)
    obtain ⟨fs, hr, hrun, hended, hW, hsame⟩ := X13.leave (v := some (.ref en2)) (fun h => by rw [Bd.returns] at h; cases h)
    refine ⟨_, _, pre15 _ ?_, hrun, hended, _, _, rfl, ?_, ⟨_, rfl⟩, hW, hsame.mono (by decide) (by decide)⟩
    · show own_S p e below T13 m 21 #[iv (2 : Int32)] [(.ref en2)] _
      exact retOut X13 hx (t := (.object "com/example/converge/converge/runtime/WireType")) Bd.returns rfl (Or.inr (Or.inr (Or.inr (Or.inr ⟨rfl, rfl, rfl⟩)))) (hb hby d2_21) hr
    · show Q2 Z (2 : Int32) en0 en1 en2 en3 en4 en5 aA kA h0 n0 _ T13.heap _
      rw [e13]
      exact ⟨rfl, N0, rfl⟩
  ·  -- case
    obtain ⟨T16, X16, e16, st16⟩ := getS2 X0 hx hZ hown (host := "") (Or.inl (hw _ (List.mem_of_getElem? (i := 8) rfl))) Via.refl e0 S_A (g := (mkF m 5 #[iv (3 : Int32)] [(.int (3 : Int32))])) rfl (hb hby d2_5)
    obtain ⟨cl17, Ar17, q17, S17, M17, -, -⟩ := id V_A
    obtain ⟨T18, X18, e18, st18⟩ := getS2 X16 hx hZ hown (host := "") (Or.inl (hw _ (List.mem_of_getElem? (i := 8) rfl))) Via.refl e16 S_A (g := (mkF m 12 #[iv (3 : Int32)] [])) rfl (hb hby d2_12)
    obtain ⟨cl19, Ar19, q19, S19, M19, H19, G19⟩ := id V_A
    have hin19 : ¬ ((3 : Int32) < 0 ∨ cl19.slots.size ≤ ((3 : Int32)).toNatClampNeg) := inb_of S19 ⟨by decide, by decide⟩
    have hat19 : cl19.slots[((3 : Int32)).toNatClampNeg]? = some (.ref en3) := H19.at hin19 rfl
    have pre20 : ∀ t, own_S p e below T18 m 21 #[iv (3 : Int32)] [(.ref en3)] t → Steps p.tables e below (s₁.setTop (entryFrame m #[(.int (3 : Int32))] 1)) t := fun t k => pre0 t (by
      show own_S p e below s₁ m 0 #[iv (3 : Int32)] [] _
      refine XS.iloadN X0.here hx rfl (hb hby d2_0) rfl ?_
      show own_S p e below s₁ m 1 #[iv (3 : Int32)] [(.int (3 : Int32))] _
      refine XS.ifNo X0.here hx rfl (hb hby d2_1) rfl ((if0 _ _).trans (flt (by decide : ¬ ((3 : Int32) < (0 : Int32)))).1) ?_
      show own_S p e below s₁ m 4 #[iv (3 : Int32)] [] _
      refine XS.iloadN X0.here hx rfl (hb hby d2_4) rfl ?_
      show own_S p e below s₁ m 5 #[iv (3 : Int32)] [(.int (3 : Int32))] _
      refine st16 _ ?_
      show own_S p e below T16 m 8 #[iv (3 : Int32)] [(.ref aA), (.int (3 : Int32))] _
      refine X16.arraylength hx (by rw [e16]; exact Ar17.1) (State.isArrayOf_alike hZ.alike Ar17.2.1) (g := (mkF m 8 #[iv (3 : Int32)] [(.ref aA), (.int (3 : Int32))])) rfl rfl (hb hby d2_8) _ ?_
      rw [len_of S17 M17]
      show own_S p e below T16 m 9 #[iv (3 : Int32)] [(.int (6 : Int32)), (.int (3 : Int32))] _
      refine XS.icmpNo X16.here hx rfl (hb hby d2_9) rfl (tlt (by decide : (3 : Int32) < (6 : Int32))).2.1 ?_
      show own_S p e below T16 m 12 #[iv (3 : Int32)] [] _
      refine st18 _ ?_
      show own_S p e below T18 m 15 #[iv (3 : Int32)] [(.ref aA)] _
      refine XS.iloadN X18.here hx rfl (hb hby d2_15) rfl ?_
      show own_S p e below T18 m 16 #[iv (3 : Int32)] [(.int (3 : Int32)), (.ref aA)] _
      refine X18.aaload hx (j := (3 : Int32)) (v := (.ref en3)) (by rw [e18]; exact Ar19.1) (State.isArrayOf_alike hZ.alike Ar19.2.1) rfl Ar19.2.2 hin19 hat19 (g := (mkF m 16 #[iv (3 : Int32)] [(.int (3 : Int32)), (.ref aA)])) rfl rfl (hb hby d2_16) _ ?_
      show own_S p e below T18 m 17 #[iv (3 : Int32)] [(.ref en3)] _
      refine XS.goto X18.here hx rfl (pc0 := 17) (pc' := 21) rfl (hb hby d2_17) (by decide) (by decide) ?_
      exact k)
    obtain ⟨fs, hr, hrun, hended, hW, hsame⟩ := X18.leave (v := some (.ref en3)) (fun h => by rw [Bd.returns] at h; cases h)
    refine ⟨_, _, pre20 _ ?_, hrun, hended, _, _, rfl, ?_, ⟨_, rfl⟩, hW, hsame.mono (by decide) (by decide)⟩
    · show own_S p e below T18 m 21 #[iv (3 : Int32)] [(.ref en3)] _
      exact retOut X18 hx (t := (.object "com/example/converge/converge/runtime/WireType")) Bd.returns rfl (Or.inr (Or.inr (Or.inr (Or.inr ⟨rfl, rfl, rfl⟩)))) (hb hby d2_21) hr
    · show Q2 Z (3 : Int32) en0 en1 en2 en3 en4 en5 aA kA h0 n0 _ T18.heap _
      rw [e18]
      exact ⟨rfl, N0, rfl⟩
  ·  -- case
    obtain ⟨T21, X21, e21, st21⟩ := getS2 X0 hx hZ hown (host := "") (Or.inl (hw _ (List.mem_of_getElem? (i := 8) rfl))) Via.refl e0 S_A (g := (mkF m 5 #[iv (4 : Int32)] [(.int (4 : Int32))])) rfl (hb hby d2_5)
    obtain ⟨cl22, Ar22, q22, S22, M22, -, -⟩ := id V_A
    obtain ⟨T23, X23, e23, st23⟩ := getS2 X21 hx hZ hown (host := "") (Or.inl (hw _ (List.mem_of_getElem? (i := 8) rfl))) Via.refl e21 S_A (g := (mkF m 12 #[iv (4 : Int32)] [])) rfl (hb hby d2_12)
    obtain ⟨cl24, Ar24, q24, S24, M24, H24, G24⟩ := id V_A
    have hin24 : ¬ ((4 : Int32) < 0 ∨ cl24.slots.size ≤ ((4 : Int32)).toNatClampNeg) := inb_of S24 ⟨by decide, by decide⟩
    have hat24 : cl24.slots[((4 : Int32)).toNatClampNeg]? = some (.ref en4) := H24.at hin24 rfl
    have pre25 : ∀ t, own_S p e below T23 m 21 #[iv (4 : Int32)] [(.ref en4)] t → Steps p.tables e below (s₁.setTop (entryFrame m #[(.int (4 : Int32))] 1)) t := fun t k => pre0 t (by
      show own_S p e below s₁ m 0 #[iv (4 : Int32)] [] _
      refine XS.iloadN X0.here hx rfl (hb hby d2_0) rfl ?_
      show own_S p e below s₁ m 1 #[iv (4 : Int32)] [(.int (4 : Int32))] _
      refine XS.ifNo X0.here hx rfl (hb hby d2_1) rfl ((if0 _ _).trans (flt (by decide : ¬ ((4 : Int32) < (0 : Int32)))).1) ?_
      show own_S p e below s₁ m 4 #[iv (4 : Int32)] [] _
      refine XS.iloadN X0.here hx rfl (hb hby d2_4) rfl ?_
      show own_S p e below s₁ m 5 #[iv (4 : Int32)] [(.int (4 : Int32))] _
      refine st21 _ ?_
      show own_S p e below T21 m 8 #[iv (4 : Int32)] [(.ref aA), (.int (4 : Int32))] _
      refine X21.arraylength hx (by rw [e21]; exact Ar22.1) (State.isArrayOf_alike hZ.alike Ar22.2.1) (g := (mkF m 8 #[iv (4 : Int32)] [(.ref aA), (.int (4 : Int32))])) rfl rfl (hb hby d2_8) _ ?_
      rw [len_of S22 M22]
      show own_S p e below T21 m 9 #[iv (4 : Int32)] [(.int (6 : Int32)), (.int (4 : Int32))] _
      refine XS.icmpNo X21.here hx rfl (hb hby d2_9) rfl (tlt (by decide : (4 : Int32) < (6 : Int32))).2.1 ?_
      show own_S p e below T21 m 12 #[iv (4 : Int32)] [] _
      refine st23 _ ?_
      show own_S p e below T23 m 15 #[iv (4 : Int32)] [(.ref aA)] _
      refine XS.iloadN X23.here hx rfl (hb hby d2_15) rfl ?_
      show own_S p e below T23 m 16 #[iv (4 : Int32)] [(.int (4 : Int32)), (.ref aA)] _
      refine X23.aaload hx (j := (4 : Int32)) (v := (.ref en4)) (by rw [e23]; exact Ar24.1) (State.isArrayOf_alike hZ.alike Ar24.2.1) rfl Ar24.2.2 hin24 hat24 (g := (mkF m 16 #[iv (4 : Int32)] [(.int (4 : Int32)), (.ref aA)])) rfl rfl (hb hby d2_16) _ ?_
      show own_S p e below T23 m 17 #[iv (4 : Int32)] [(.ref en4)] _
      refine XS.goto X23.here hx rfl (pc0 := 17) (pc' := 21) rfl (hb hby d2_17) (by decide) (by decide) ?_
      exact k)
    obtain ⟨fs, hr, hrun, hended, hW, hsame⟩ := X23.leave (v := some (.ref en4)) (fun h => by rw [Bd.returns] at h; cases h)
    refine ⟨_, _, pre25 _ ?_, hrun, hended, _, _, rfl, ?_, ⟨_, rfl⟩, hW, hsame.mono (by decide) (by decide)⟩
    · show own_S p e below T23 m 21 #[iv (4 : Int32)] [(.ref en4)] _
      exact retOut X23 hx (t := (.object "com/example/converge/converge/runtime/WireType")) Bd.returns rfl (Or.inr (Or.inr (Or.inr (Or.inr ⟨rfl, rfl, rfl⟩)))) (hb hby d2_21) hr
    · show Q2 Z (4 : Int32) en0 en1 en2 en3 en4 en5 aA kA h0 n0 _ T23.heap _
      rw [e23]
      exact ⟨rfl, N0, rfl⟩
  ·  -- case
    obtain ⟨T26, X26, e26, st26⟩ := getS2 X0 hx hZ hown (host := "") (Or.inl (hw _ (List.mem_of_getElem? (i := 8) rfl))) Via.refl e0 S_A (g := (mkF m 5 #[iv (5 : Int32)] [(.int (5 : Int32))])) rfl (hb hby d2_5)
    obtain ⟨cl27, Ar27, q27, S27, M27, -, -⟩ := id V_A
    obtain ⟨T28, X28, e28, st28⟩ := getS2 X26 hx hZ hown (host := "") (Or.inl (hw _ (List.mem_of_getElem? (i := 8) rfl))) Via.refl e26 S_A (g := (mkF m 12 #[iv (5 : Int32)] [])) rfl (hb hby d2_12)
    obtain ⟨cl29, Ar29, q29, S29, M29, H29, G29⟩ := id V_A
    have hin29 : ¬ ((5 : Int32) < 0 ∨ cl29.slots.size ≤ ((5 : Int32)).toNatClampNeg) := inb_of S29 ⟨by decide, by decide⟩
    have hat29 : cl29.slots[((5 : Int32)).toNatClampNeg]? = some (.ref en5) := H29.at hin29 rfl
    have pre30 : ∀ t, own_S p e below T28 m 21 #[iv (5 : Int32)] [(.ref en5)] t → Steps p.tables e below (s₁.setTop (entryFrame m #[(.int (5 : Int32))] 1)) t := fun t k => pre0 t (by
      show own_S p e below s₁ m 0 #[iv (5 : Int32)] [] _
      refine XS.iloadN X0.here hx rfl (hb hby d2_0) rfl ?_
      show own_S p e below s₁ m 1 #[iv (5 : Int32)] [(.int (5 : Int32))] _
      refine XS.ifNo X0.here hx rfl (hb hby d2_1) rfl ((if0 _ _).trans (flt (by decide : ¬ ((5 : Int32) < (0 : Int32)))).1) ?_
      show own_S p e below s₁ m 4 #[iv (5 : Int32)] [] _
      refine XS.iloadN X0.here hx rfl (hb hby d2_4) rfl ?_
      show own_S p e below s₁ m 5 #[iv (5 : Int32)] [(.int (5 : Int32))] _
      refine st26 _ ?_
      show own_S p e below T26 m 8 #[iv (5 : Int32)] [(.ref aA), (.int (5 : Int32))] _
      refine X26.arraylength hx (by rw [e26]; exact Ar27.1) (State.isArrayOf_alike hZ.alike Ar27.2.1) (g := (mkF m 8 #[iv (5 : Int32)] [(.ref aA), (.int (5 : Int32))])) rfl rfl (hb hby d2_8) _ ?_
      rw [len_of S27 M27]
      show own_S p e below T26 m 9 #[iv (5 : Int32)] [(.int (6 : Int32)), (.int (5 : Int32))] _
      refine XS.icmpNo X26.here hx rfl (hb hby d2_9) rfl (tlt (by decide : (5 : Int32) < (6 : Int32))).2.1 ?_
      show own_S p e below T26 m 12 #[iv (5 : Int32)] [] _
      refine st28 _ ?_
      show own_S p e below T28 m 15 #[iv (5 : Int32)] [(.ref aA)] _
      refine XS.iloadN X28.here hx rfl (hb hby d2_15) rfl ?_
      show own_S p e below T28 m 16 #[iv (5 : Int32)] [(.int (5 : Int32)), (.ref aA)] _
      refine X28.aaload hx (j := (5 : Int32)) (v := (.ref en5)) (by rw [e28]; exact Ar29.1) (State.isArrayOf_alike hZ.alike Ar29.2.1) rfl Ar29.2.2 hin29 hat29 (g := (mkF m 16 #[iv (5 : Int32)] [(.int (5 : Int32)), (.ref aA)])) rfl rfl (hb hby d2_16) _ ?_
      show own_S p e below T28 m 17 #[iv (5 : Int32)] [(.ref en5)] _
      refine XS.goto X28.here hx rfl (pc0 := 17) (pc' := 21) rfl (hb hby d2_17) (by decide) (by decide) ?_
      exact k)
    obtain ⟨fs, hr, hrun, hended, hW, hsame⟩ := X28.leave (v := some (.ref en5)) (fun h => by rw [Bd.returns] at h; cases h)
    refine ⟨_, _, pre30 _ ?_, hrun, hended, _, _, rfl, ?_, ⟨_, rfl⟩, hW, hsame.mono (by decide) (by decide)⟩
    · show own_S p e below T28 m 21 #[iv (5 : Int32)] [(.ref en5)] _
      exact retOut X28 hx (t := (.object "com/example/converge/converge/runtime/WireType")) Bd.returns rfl (Or.inr (Or.inr (Or.inr (Or.inr ⟨rfl, rfl, rfl⟩)))) (hb hby d2_21) hr
    · show Q2 Z (5 : Int32) en0 en1 en2 en3 en4 en5 aA kA h0 n0 _ T28.heap _
      rw [e28]
      exact ⟨rfl, N0, rfl⟩
  ·  -- case
    have pre32 : ∀ t, own_S p e below s₁ m 1 #[iv p1] [(.int p1)] t → Steps p.tables e below (s₁.setTop (entryFrame m #[(.int p1)] 1)) t := fun t k => pre0 t (by
      show own_S p e below s₁ m 0 #[iv p1] [] _
      refine XS.iloadN X0.here hx rfl (hb hby d2_0) rfl ?_
      exact k)
    by_cases hc1_31 : p1 < (0 : Int32)
    ·  -- pc 1 yes
      have pre33 : ∀ t, own_S p e below s₁ m 21 #[iv p1] [.null] t → Steps p.tables e below (s₁.setTop (entryFrame m #[(.int p1)] 1)) t := fun t k => pre32 t (by
        show own_S p e below s₁ m 1 #[iv p1] [(.int p1)] _
        refine XS.ifYes X0.here hx rfl (pc0 := 1) (pc' := 20) rfl (hb hby d2_1) rfl ((if0 _ _).trans (tlt hc1_31).1) (by decide) (by decide) ?_
        show own_S p e below s₁ m 20 #[iv p1] [] _
        refine XS.aconstNull X0.here hx rfl (hb hby d2_20) ?_
        exact k)
      obtain ⟨fs, hr, hrun, hended, hW, hsame⟩ := X0.leave (v := some .null) (fun h => by rw [Bd.returns] at h; cases h)
      refine ⟨_, _, pre33 _ ?_, hrun, hended, _, _, rfl, ?_, ⟨_, rfl⟩, hW, hsame.mono (by decide) (by decide)⟩
      · show own_S p e below s₁ m 21 #[iv p1] [.null] _
        exact retOut X0 hx (t := (.object "com/example/converge/converge/runtime/WireType")) Bd.returns rfl (Or.inr (Or.inr (Or.inr (Or.inr ⟨rfl, rfl, rfl⟩)))) (hb hby d2_21) hr
      · show Q2 Z p1 en0 en1 en2 en3 en4 en5 aA kA h0 n0 _ s₁.heap _
        rw [e0]
        exact ⟨by rw [own_null hout], N0, rfl⟩
    ·  -- pc 1 no
      obtain ⟨T34, X34, e34, st34⟩ := getS2 X0 hx hZ hown (host := "") (Or.inl (hw _ (List.mem_of_getElem? (i := 8) rfl))) Via.refl e0 S_A (g := (mkF m 5 #[iv p1] [(.int p1)])) rfl (hb hby d2_5)
      obtain ⟨cl35, Ar35, q35, S35, M35, -, -⟩ := id V_A
      have pre37 : ∀ t, own_S p e below T34 m 9 #[iv p1] [(.int (6 : Int32)), (.int p1)] t → Steps p.tables e below (s₁.setTop (entryFrame m #[(.int p1)] 1)) t := fun t k => pre32 t (by
        show own_S p e below s₁ m 1 #[iv p1] [(.int p1)] _
        refine XS.ifNo X0.here hx rfl (hb hby d2_1) rfl ((if0 _ _).trans (flt hc1_31).1) ?_
        show own_S p e below s₁ m 4 #[iv p1] [] _
        refine XS.iloadN X0.here hx rfl (hb hby d2_4) rfl ?_
        show own_S p e below s₁ m 5 #[iv p1] [(.int p1)] _
        refine st34 _ ?_
        show own_S p e below T34 m 8 #[iv p1] [(.ref aA), (.int p1)] _
        refine X34.arraylength hx (by rw [e34]; exact Ar35.1) (State.isArrayOf_alike hZ.alike Ar35.2.1) (g := (mkF m 8 #[iv p1] [(.ref aA), (.int p1)])) rfl rfl (hb hby d2_8) _ ?_
        rw [len_of S35 M35]
        exact k)
      by_cases hc9_36 : p1 < (6 : Int32)
      ·  -- pc 9 yes
        exfalso
        rcases hout with q | q
        · exact hc1_31 q
        · exact q hc9_36
      ·  -- pc 9 no
        have pre38 : ∀ t, own_S p e below T34 m 21 #[iv p1] [.null] t → Steps p.tables e below (s₁.setTop (entryFrame m #[(.int p1)] 1)) t := fun t k => pre37 t (by
          show own_S p e below T34 m 9 #[iv p1] [(.int (6 : Int32)), (.int p1)] _
          refine XS.icmpYes X34.here hx rfl (pc0 := 9) (pc' := 20) rfl (hb hby d2_9) rfl (flt hc9_36).2.1 (by decide) (by decide) ?_
          show own_S p e below T34 m 20 #[iv p1] [] _
          refine XS.aconstNull X34.here hx rfl (hb hby d2_20) ?_
          exact k)
        obtain ⟨fs, hr, hrun, hended, hW, hsame⟩ := X34.leave (v := some .null) (fun h => by rw [Bd.returns] at h; cases h)
        refine ⟨_, _, pre38 _ ?_, hrun, hended, _, _, rfl, ?_, ⟨_, rfl⟩, hW, hsame.mono (by decide) (by decide)⟩
        · show own_S p e below T34 m 21 #[iv p1] [.null] _
          exact retOut X34 hx (t := (.object "com/example/converge/converge/runtime/WireType")) Bd.returns rfl (Or.inr (Or.inr (Or.inr (Or.inr ⟨rfl, rfl, rfl⟩)))) (hb hby d2_21) hr
        · show Q2 Z p1 en0 en1 en2 en3 en4 en5 aA kA h0 n0 _ T34.heap _
          rw [e34]
          exact ⟨by rw [own_null hout], N0, rfl⟩
theorem pn_1 : plainName "com/example/converge/converge/runtime/WireTypeForNumberPinLaw" = true := by first | (simp [plainName, overriddenIn]; done) | decide +kernel
theorem ef_3 (m : MethodId) (p1 : Int32) : entryFrame m #[(.int p1)] 1 = mkF m 0 #[iv p1] [] := by first | (simp [entryFrame, mkF, argsToLocals, Value.category]; done) | rfl
def Q3 (Z : State) (p1 : Int32) (en0 : Addr) (en1 : Addr) (en2 : Addr) (en3 : Addr) (en4 : Addr) (en5 : Addr) (aA : Addr) (kA : ClassId) (h0 : Heap) (n0 : Nat) (v : Option Value) (h : Heap) (L : List Loc) : Prop := v = some (own_ref p1 en0 en1 en2 en3 en4 en5) ∧ Fr n0 L ∧ h = h0
theorem d3_0 : decode method_2_code 0 = .ok (.iload_n 0, 1) := by decide +kernel
theorem d3_1 : decode method_2_code 1 = .ok (.ifCond .ne 7, 3) := by decide +kernel
theorem d3_4 : decode method_2_code 4 = .ok (.getstatic 7, 3) := by decide +kernel
theorem d3_7 : decode method_2_code 7 = .ok (.areturn, 1) := by decide +kernel
theorem d3_8 : decode method_2_code 8 = .ok (.iload_n 0, 1) := by decide +kernel
theorem d3_9 : decode method_2_code 9 = .ok (.iconst 1, 1) := by decide +kernel
theorem d3_10 : decode method_2_code 10 = .ok (.if_icmp .ne 7, 3) := by decide +kernel
theorem d3_13 : decode method_2_code 13 = .ok (.getstatic 13, 3) := by decide +kernel
theorem d3_16 : decode method_2_code 16 = .ok (.areturn, 1) := by decide +kernel
theorem d3_17 : decode method_2_code 17 = .ok (.iload_n 0, 1) := by decide +kernel
theorem d3_18 : decode method_2_code 18 = .ok (.iconst 2, 1) := by decide +kernel
theorem d3_19 : decode method_2_code 19 = .ok (.if_icmp .ne 7, 3) := by decide +kernel
theorem d3_22 : decode method_2_code 22 = .ok (.getstatic 16, 3) := by decide +kernel
theorem d3_25 : decode method_2_code 25 = .ok (.areturn, 1) := by decide +kernel
theorem d3_26 : decode method_2_code 26 = .ok (.iload_n 0, 1) := by decide +kernel
theorem d3_27 : decode method_2_code 27 = .ok (.iconst 3, 1) := by decide +kernel
theorem d3_28 : decode method_2_code 28 = .ok (.if_icmp .ne 7, 3) := by decide +kernel
theorem d3_31 : decode method_2_code 31 = .ok (.getstatic 19, 3) := by decide +kernel
theorem d3_34 : decode method_2_code 34 = .ok (.areturn, 1) := by decide +kernel
theorem d3_35 : decode method_2_code 35 = .ok (.iload_n 0, 1) := by decide +kernel
theorem d3_36 : decode method_2_code 36 = .ok (.iconst 4, 1) := by decide +kernel
theorem d3_37 : decode method_2_code 37 = .ok (.if_icmp .ne 7, 3) := by decide +kernel
theorem d3_40 : decode method_2_code 40 = .ok (.getstatic 22, 3) := by decide +kernel
theorem d3_43 : decode method_2_code 43 = .ok (.areturn, 1) := by decide +kernel
theorem d3_44 : decode method_2_code 44 = .ok (.iload_n 0, 1) := by decide +kernel
theorem d3_45 : decode method_2_code 45 = .ok (.iconst 5, 1) := by decide +kernel
theorem d3_46 : decode method_2_code 46 = .ok (.if_icmp .ne 7, 3) := by decide +kernel
theorem d3_49 : decode method_2_code 49 = .ok (.getstatic 25, 3) := by decide +kernel
theorem d3_52 : decode method_2_code 52 = .ok (.areturn, 1) := by decide +kernel
theorem d3_53 : decode method_2_code 53 = .ok (.aconst_null, 1) := by decide +kernel
theorem d3_54 : decode method_2_code 54 = .ok (.areturn, 1) := by decide +kernel
set_option maxRecDepth 65536 in
set_option maxHeartbeats 40000000 in
theorem rm3 (l : Launch) (Z : State) (a0 : Array Value) (hw : ∀ d ∈ tables_1, d.before a0 Z = true) (ws : List Jvm.Cond) (p1 : Int32) (en0 : Addr) (en1 : Addr) (en2 : Addr) (en3 : Addr) (en4 : Addr) (en5 : Addr) (aA : Addr) (kA : ClassId) (h0 : Heap) (n0 : Nat) (Z0 : n0 ≤ h0.size) (S_en0 : Sta Z h0 "com/example/converge/converge/runtime/WireType" "VARINT" "Lcom/example/converge/converge/runtime/WireType;" (.ref en0)) (S_en1 : Sta Z h0 "com/example/converge/converge/runtime/WireType" "I64" "Lcom/example/converge/converge/runtime/WireType;" (.ref en1)) (S_en2 : Sta Z h0 "com/example/converge/converge/runtime/WireType" "LEN" "Lcom/example/converge/converge/runtime/WireType;" (.ref en2)) (S_en3 : Sta Z h0 "com/example/converge/converge/runtime/WireType" "SGROUP" "Lcom/example/converge/converge/runtime/WireType;" (.ref en3)) (S_en4 : Sta Z h0 "com/example/converge/converge/runtime/WireType" "EGROUP" "Lcom/example/converge/converge/runtime/WireType;" (.ref en4)) (S_en5 : Sta Z h0 "com/example/converge/converge/runtime/WireType" "I32" "Lcom/example/converge/converge/runtime/WireType;" (.ref en5)) (S_A : Sta Z h0 "com/example/converge/converge/runtime/WireType" "BY_NUMBER" "[Lcom/example/converge/converge/runtime/WireType;" (.ref aA)) (V_A : Arv Z h0 aA kA (.object "com/example/converge/converge/runtime/WireType") (6 : Int32) [(.ref en0), (.ref en1), (.ref en2), (.ref en3), (.ref en4), (.ref en5)] .null) (F_en0 : Fld Z h0 en0 "com/example/converge/converge/runtime/WireType" "_number" "I" (.int (0 : Int32))) (F_en1 : Fld Z h0 en1 "com/example/converge/converge/runtime/WireType" "_number" "I" (.int (1 : Int32))) (F_en2 : Fld Z h0 en2 "com/example/converge/converge/runtime/WireType" "_number" "I" (.int (2 : Int32))) (F_en3 : Fld Z h0 en3 "com/example/converge/converge/runtime/WireType" "_number" "I" (.int (3 : Int32))) (F_en4 : Fld Z h0 en4 "com/example/converge/converge/runtime/WireType" "_number" "I" (.int (4 : Int32))) (F_en5 : Fld Z h0 en5 "com/example/converge/converge/runtime/WireType" "_number" "I" (.int (5 : Int32))) (E_en0 : Exa Z h0 en0 "com/example/converge/converge/runtime/WireType") (E_en1 : Exa Z h0 en1 "com/example/converge/converge/runtime/WireType") (E_en2 : Exa Z h0 en2 "com/example/converge/converge/runtime/WireType") (E_en3 : Exa Z h0 en3 "com/example/converge/converge/runtime/WireType") (E_en4 : Exa Z h0 en4 "com/example/converge/converge/runtime/WireType") (E_en5 : Exa Z h0 en5 "com/example/converge/converge/runtime/WireType") :
    MetFree l (⟨"com/example/converge/converge/runtime/WireTypeForNumberPinLaw", "expected", "(I)Lcom/example/converge/converge/runtime/WireType;"⟩ : MethodName) (head1 (Jvm.Cond.code (⟨"com/example/converge/converge/runtime/WireTypeForNumberPinLaw", "expected", "(I)Lcom/example/converge/converge/runtime/WireType;"⟩ : MethodName) method_2_code 1 (some (.object "com/example/converge/converge/runtime/WireType")) :: ws) ({ frames := 0, cells := 0, slots := 0, locals := 0 } : Room)) (fun a U => a = #[(.int p1)] ∧ Z.Warmed39 U.vm ∧ U.heap = h0) (fun _ _ _ _ _ => True) (fun _ U o U' => ∃ v L, o = .returned v ∧ Q3 Z p1 en0 en1 en2 en3 en4 en5 aA kA h0 n0 v U'.heap L ∧ FrameEnd U o U' L ({ frames := 0, cells := 0, slots := 0, locals := 0 } : Room).cells ({ frames := 0, cells := 0, slots := 0, locals := 0 } : Room).slots) := by
  refine MetFree.of_bodySF (plainFor_of_name pn_1) hisR ?_
  intro p e s m args below meth c s₁ Bd hml0 hP hK
  obtain ⟨rfl, hZ, hh⟩ := hP
  have hx := Bd.exec
  have hby := Bd.bytes
  have hml : c.maxLocals = 1 := hml0
  have hown : s.vm.findClass "com/example/converge/converge/runtime/WireTypeForNumberPinLaw" = some m.cls := findClass_of_methodNamed Bd.named
  have hnm := (name_of_methodNamed Bd.named Bd.method).1
  have X0 : Stand p l e ({ frames := 0, cells := 0, slots := 0, locals := 0 } : Room) s m #[(.int p1)] below meth c s₁ [] 0 0 := Stand.of_body Bd
  have e0 : s₁.heap = h0 := by rw [← hh, Bd.state]; rfl
  have N0 := Fr.nil n0
  have pre0 : ∀ t, Steps p.tables e below (s₁.setTop (mkF m 0 #[iv p1] [])) t → Steps p.tables e below (s₁.setTop (entryFrame m #[(.int p1)] 1)) t := fun t k => castTop (ef_3 m p1) k
  have hsp := own_split p1
  rcases hsp with rfl | rfl | rfl | rfl | rfl | rfl | hout
  ·  -- case
    obtain ⟨T1, X1, e1, st1⟩ := getS2 X0 hx hZ hown (host := "") (Or.inl (hw _ (List.mem_of_getElem? (i := 14) rfl))) Via.refl e0 S_en0 (g := (mkF m 4 #[iv (0 : Int32)] [])) rfl (hb hby d3_4)
    have pre2 : ∀ t, own_S p e below T1 m 7 #[iv (0 : Int32)] [(.ref en0)] t → Steps p.tables e below (s₁.setTop (entryFrame m #[(.int (0 : Int32))] 1)) t := fun t k => pre0 t (by
      show own_S p e below s₁ m 0 #[iv (0 : Int32)] [] _
      refine XS.iloadN X0.here hx rfl (hb hby d3_0) rfl ?_
      show own_S p e below s₁ m 1 #[iv (0 : Int32)] [(.int (0 : Int32))] _
      refine XS.ifNo X0.here hx rfl (hb hby d3_1) rfl ((if0 _ _).trans (teq (by decide : (0 : Int32) = (0 : Int32))).2) ?_
      show own_S p e below s₁ m 4 #[iv (0 : Int32)] [] _
      refine st1 _ ?_
      exact k)
    obtain ⟨fs, hr, hrun, hended, hW, hsame⟩ := X1.leave (v := some (.ref en0)) (fun h => by rw [Bd.returns] at h; cases h)
    refine ⟨_, _, pre2 _ ?_, hrun, hended, _, _, rfl, ?_, ⟨_, rfl⟩, hW, hsame.mono (by decide) (by decide)⟩
    · show own_S p e below T1 m 7 #[iv (0 : Int32)] [(.ref en0)] _
      exact retOut X1 hx (t := (.object "com/example/converge/converge/runtime/WireType")) Bd.returns rfl (Or.inr (Or.inr (Or.inr (Or.inr ⟨rfl, rfl, rfl⟩)))) (hb hby d3_7) hr
    · show Q3 Z (0 : Int32) en0 en1 en2 en3 en4 en5 aA kA h0 n0 _ T1.heap _
      rw [e1]
      exact ⟨rfl, N0, rfl⟩
  ·  -- case
    obtain ⟨T3, X3, e3, st3⟩ := getS2 X0 hx hZ hown (host := "") (Or.inl (hw _ (List.mem_of_getElem? (i := 31) rfl))) Via.refl e0 S_en1 (g := (mkF m 13 #[iv (1 : Int32)] [])) rfl (hb hby d3_13)
    have pre4 : ∀ t, own_S p e below T3 m 16 #[iv (1 : Int32)] [(.ref en1)] t → Steps p.tables e below (s₁.setTop (entryFrame m #[(.int (1 : Int32))] 1)) t := fun t k => pre0 t (by
      show own_S p e below s₁ m 0 #[iv (1 : Int32)] [] _
      refine XS.iloadN X0.here hx rfl (hb hby d3_0) rfl ?_
      show own_S p e below s₁ m 1 #[iv (1 : Int32)] [(.int (1 : Int32))] _
      refine XS.ifYes X0.here hx rfl (pc0 := 1) (pc' := 8) rfl (hb hby d3_1) rfl ((if0 _ _).trans (feq (by decide : ¬ ((1 : Int32) = (0 : Int32)))).2) (by decide) (by decide) ?_
      show own_S p e below s₁ m 8 #[iv (1 : Int32)] [] _
      refine XS.iloadN X0.here hx rfl (hb hby d3_8) rfl ?_
      show own_S p e below s₁ m 9 #[iv (1 : Int32)] [(.int (1 : Int32))] _
      refine XS.iconst X0.here hx rfl (hb hby d3_9) ?_
      show own_S p e below s₁ m 10 #[iv (1 : Int32)] [(.int (1 : Int32)), (.int (1 : Int32))] _
      refine XS.icmpNo X0.here hx rfl (hb hby d3_10) rfl (teq (by decide : (1 : Int32) = (1 : Int32))).2 ?_
      show own_S p e below s₁ m 13 #[iv (1 : Int32)] [] _
      refine st3 _ ?_
      exact k)
    obtain ⟨fs, hr, hrun, hended, hW, hsame⟩ := X3.leave (v := some (.ref en1)) (fun h => by rw [Bd.returns] at h; cases h)
    refine ⟨_, _, pre4 _ ?_, hrun, hended, _, _, rfl, ?_, ⟨_, rfl⟩, hW, hsame.mono (by decide) (by decide)⟩
    · show own_S p e below T3 m 16 #[iv (1 : Int32)] [(.ref en1)] _
      exact retOut X3 hx (t := (.object "com/example/converge/converge/runtime/WireType")) Bd.returns rfl (Or.inr (Or.inr (Or.inr (Or.inr ⟨rfl, rfl, rfl⟩)))) (hb hby d3_16) hr
    · show Q3 Z (1 : Int32) en0 en1 en2 en3 en4 en5 aA kA h0 n0 _ T3.heap _
      rw [e3]
      exact ⟨rfl, N0, rfl⟩
  ·  -- case
    obtain ⟨T5, X5, e5, st5⟩ := getS2 X0 hx hZ hown (host := "") (Or.inl (hw _ (List.mem_of_getElem? (i := 23) rfl))) Via.refl e0 S_en2 (g := (mkF m 22 #[iv (2 : Int32)] [])) rfl (hb hby d3_22)
    have pre6 : ∀ t, own_S p e below T5 m 25 #[iv (2 : Int32)] [(.ref en2)] t → Steps p.tables e below (s₁.setTop (entryFrame m #[(.int (2 : Int32))] 1)) t := fun t k => pre0 t (by
      show own_S p e below s₁ m 0 #[iv (2 : Int32)] [] _
      refine XS.iloadN X0.here hx rfl (hb hby d3_0) rfl ?_
      show own_S p e below s₁ m 1 #[iv (2 : Int32)] [(.int (2 : Int32))] _
      refine XS.ifYes X0.here hx rfl (pc0 := 1) (pc' := 8) rfl (hb hby d3_1) rfl ((if0 _ _).trans (feq (by decide : ¬ ((2 : Int32) = (0 : Int32)))).2) (by decide) (by decide) ?_
      show own_S p e below s₁ m 8 #[iv (2 : Int32)] [] _
      refine XS.iloadN X0.here hx rfl (hb hby d3_8) rfl ?_
      show own_S p e below s₁ m 9 #[iv (2 : Int32)] [(.int (2 : Int32))] _
      refine XS.iconst X0.here hx rfl (hb hby d3_9) ?_
      show own_S p e below s₁ m 10 #[iv (2 : Int32)] [(.int (1 : Int32)), (.int (2 : Int32))] _
      refine XS.icmpYes X0.here hx rfl (pc0 := 10) (pc' := 17) rfl (hb hby d3_10) rfl (feq (by decide : ¬ ((2 : Int32) = (1 : Int32)))).2 (by decide) (by decide) ?_
      show own_S p e below s₁ m 17 #[iv (2 : Int32)] [] _
      refine XS.iloadN X0.here hx rfl (hb hby d3_17) rfl ?_
      show own_S p e below s₁ m 18 #[iv (2 : Int32)] [(.int (2 : Int32))] _
      refine XS.iconst X0.here hx rfl (hb hby d3_18) ?_
      show own_S p e below s₁ m 19 #[iv (2 : Int32)] [(.int (2 : Int32)), (.int (2 : Int32))] _
      refine XS.icmpNo X0.here hx rfl (hb hby d3_19) rfl (teq (by decide : (2 : Int32) = (2 : Int32))).2 ?_
      show own_S p e below s₁ m 22 #[iv (2 : Int32)] [] _
      refine st5 _ ?_
      exact k)
    obtain ⟨fs, hr, hrun, hended, hW, hsame⟩ := X5.leave (v := some (.ref en2)) (fun h => by rw [Bd.returns] at h; cases h)
    refine ⟨_, _, pre6 _ ?_, hrun, hended, _, _, rfl, ?_, ⟨_, rfl⟩, hW, hsame.mono (by decide) (by decide)⟩
    · show own_S p e below T5 m 25 #[iv (2 : Int32)] [(.ref en2)] _
      exact retOut X5 hx (t := (.object "com/example/converge/converge/runtime/WireType")) Bd.returns rfl (Or.inr (Or.inr (Or.inr (Or.inr ⟨rfl, rfl, rfl⟩)))) (hb hby d3_25) hr
    · show Q3 Z (2 : Int32) en0 en1 en2 en3 en4 en5 aA kA h0 n0 _ T5.heap _
      rw [e5]
      exact ⟨rfl, N0, rfl⟩
  ·  -- case
    obtain ⟨T7, X7, e7, st7⟩ := getS2 X0 hx hZ hown (host := "") (Or.inl (hw _ (List.mem_of_getElem? (i := 25) rfl))) Via.refl e0 S_en3 (g := (mkF m 31 #[iv (3 : Int32)] [])) rfl (hb hby d3_31)
    have pre8 : ∀ t, own_S p e below T7 m 34 #[iv (3 : Int32)] [(.ref en3)] t → Steps p.tables e below (s₁.setTop (entryFrame m #[(.int (3 : Int32))] 1)) t := fun t k => pre0 t (by
      show own_S p e below s₁ m 0 #[iv (3 : Int32)] [] _
      refine XS.iloadN X0.here hx rfl (hb hby d3_0) rfl ?_
      show own_S p e below s₁ m 1 #[iv (3 : Int32)] [(.int (3 : Int32))] _
      refine XS.ifYes X0.here hx rfl (pc0 := 1) (pc' := 8) rfl (hb hby d3_1) rfl ((if0 _ _).trans (feq (by decide : ¬ ((3 : Int32) = (0 : Int32)))).2) (by decide) (by decide) ?_
      show own_S p e below s₁ m 8 #[iv (3 : Int32)] [] _
      refine XS.iloadN X0.here hx rfl (hb hby d3_8) rfl ?_
      show own_S p e below s₁ m 9 #[iv (3 : Int32)] [(.int (3 : Int32))] _
      refine XS.iconst X0.here hx rfl (hb hby d3_9) ?_
      show own_S p e below s₁ m 10 #[iv (3 : Int32)] [(.int (1 : Int32)), (.int (3 : Int32))] _
      refine XS.icmpYes X0.here hx rfl (pc0 := 10) (pc' := 17) rfl (hb hby d3_10) rfl (feq (by decide : ¬ ((3 : Int32) = (1 : Int32)))).2 (by decide) (by decide) ?_
      show own_S p e below s₁ m 17 #[iv (3 : Int32)] [] _
      refine XS.iloadN X0.here hx rfl (hb hby d3_17) rfl ?_
      show own_S p e below s₁ m 18 #[iv (3 : Int32)] [(.int (3 : Int32))] _
      refine XS.iconst X0.here hx rfl (hb hby d3_18) ?_
      show own_S p e below s₁ m 19 #[iv (3 : Int32)] [(.int (2 : Int32)), (.int (3 : Int32))] _
      refine XS.icmpYes X0.here hx rfl (pc0 := 19) (pc' := 26) rfl (hb hby d3_19) rfl (feq (by decide : ¬ ((3 : Int32) = (2 : Int32)))).2 (by decide) (by decide) ?_
      show own_S p e below s₁ m 26 #[iv (3 : Int32)] [] _
      refine XS.iloadN X0.here hx rfl (hb hby d3_26) rfl ?_
      show own_S p e below s₁ m 27 #[iv (3 : Int32)] [(.int (3 : Int32))] _
      refine XS.iconst X0.here hx rfl (hb hby d3_27) ?_
      show own_S p e below s₁ m 28 #[iv (3 : Int32)] [(.int (3 : Int32)), (.int (3 : Int32))] _
      refine XS.icmpNo X0.here hx rfl (hb hby d3_28) rfl (teq (by decide : (3 : Int32) = (3 : Int32))).2 ?_
      show own_S p e below s₁ m 31 #[iv (3 : Int32)] [] _
      refine st7 _ ?_
      exact k)
    obtain ⟨fs, hr, hrun, hended, hW, hsame⟩ := X7.leave (v := some (.ref en3)) (fun h => by rw [Bd.returns] at h; cases h)
    refine ⟨_, _, pre8 _ ?_, hrun, hended, _, _, rfl, ?_, ⟨_, rfl⟩, hW, hsame.mono (by decide) (by decide)⟩
    · show own_S p e below T7 m 34 #[iv (3 : Int32)] [(.ref en3)] _
      exact retOut X7 hx (t := (.object "com/example/converge/converge/runtime/WireType")) Bd.returns rfl (Or.inr (Or.inr (Or.inr (Or.inr ⟨rfl, rfl, rfl⟩)))) (hb hby d3_34) hr
    · show Q3 Z (3 : Int32) en0 en1 en2 en3 en4 en5 aA kA h0 n0 _ T7.heap _
      rw [e7]
      exact ⟨rfl, N0, rfl⟩
  ·  -- case
    obtain ⟨T9, X9, e9, st9⟩ := getS2 X0 hx hZ hown (host := "") (Or.inl (hw _ (List.mem_of_getElem? (i := 27) rfl))) Via.refl e0 S_en4 (g := (mkF m 40 #[iv (4 : Int32)] [])) rfl (hb hby d3_40)
    have pre10 : ∀ t, own_S p e below T9 m 43 #[iv (4 : Int32)] [(.ref en4)] t → Steps p.tables e below (s₁.setTop (entryFrame m #[(.int (4 : Int32))] 1)) t := fun t k => pre0 t (by
      show own_S p e below s₁ m 0 #[iv (4 : Int32)] [] _
      refine XS.iloadN X0.here hx rfl (hb hby d3_0) rfl ?_
      show own_S p e below s₁ m 1 #[iv (4 : Int32)] [(.int (4 : Int32))] _
      refine XS.ifYes X0.here hx rfl (pc0 := 1) (pc' := 8) rfl (hb hby d3_1) rfl ((if0 _ _).trans (feq (by decide : ¬ ((4 : Int32) = (0 : Int32)))).2) (by decide) (by decide) ?_
      show own_S p e below s₁ m 8 #[iv (4 : Int32)] [] _
      refine XS.iloadN X0.here hx rfl (hb hby d3_8) rfl ?_
      show own_S p e below s₁ m 9 #[iv (4 : Int32)] [(.int (4 : Int32))] _
      refine XS.iconst X0.here hx rfl (hb hby d3_9) ?_
      show own_S p e below s₁ m 10 #[iv (4 : Int32)] [(.int (1 : Int32)), (.int (4 : Int32))] _
      refine XS.icmpYes X0.here hx rfl (pc0 := 10) (pc' := 17) rfl (hb hby d3_10) rfl (feq (by decide : ¬ ((4 : Int32) = (1 : Int32)))).2 (by decide) (by decide) ?_
      show own_S p e below s₁ m 17 #[iv (4 : Int32)] [] _
      refine XS.iloadN X0.here hx rfl (hb hby d3_17) rfl ?_
      show own_S p e below s₁ m 18 #[iv (4 : Int32)] [(.int (4 : Int32))] _
      refine XS.iconst X0.here hx rfl (hb hby d3_18) ?_
      show own_S p e below s₁ m 19 #[iv (4 : Int32)] [(.int (2 : Int32)), (.int (4 : Int32))] _
      refine XS.icmpYes X0.here hx rfl (pc0 := 19) (pc' := 26) rfl (hb hby d3_19) rfl (feq (by decide : ¬ ((4 : Int32) = (2 : Int32)))).2 (by decide) (by decide) ?_
      show own_S p e below s₁ m 26 #[iv (4 : Int32)] [] _
      refine XS.iloadN X0.here hx rfl (hb hby d3_26) rfl ?_
      show own_S p e below s₁ m 27 #[iv (4 : Int32)] [(.int (4 : Int32))] _
      refine XS.iconst X0.here hx rfl (hb hby d3_27) ?_
      show own_S p e below s₁ m 28 #[iv (4 : Int32)] [(.int (3 : Int32)), (.int (4 : Int32))] _
      refine XS.icmpYes X0.here hx rfl (pc0 := 28) (pc' := 35) rfl (hb hby d3_28) rfl (feq (by decide : ¬ ((4 : Int32) = (3 : Int32)))).2 (by decide) (by decide) ?_
      show own_S p e below s₁ m 35 #[iv (4 : Int32)] [] _
      refine XS.iloadN X0.here hx rfl (hb hby d3_35) rfl ?_
      show own_S p e below s₁ m 36 #[iv (4 : Int32)] [(.int (4 : Int32))] _
      refine XS.iconst X0.here hx rfl (hb hby d3_36) ?_
      show own_S p e below s₁ m 37 #[iv (4 : Int32)] [(.int (4 : Int32)), (.int (4 : Int32))] _
      refine XS.icmpNo X0.here hx rfl (hb hby d3_37) rfl (teq (by decide : (4 : Int32) = (4 : Int32))).2 ?_
      show own_S p e below s₁ m 40 #[iv (4 : Int32)] [] _
      refine st9 _ ?_
      exact k)
    obtain ⟨fs, hr, hrun, hended, hW, hsame⟩ := X9.leave (v := some (.ref en4)) (fun h => by rw [Bd.returns] at h; cases h)
    refine ⟨_, _, pre10 _ ?_, hrun, hended, _, _, rfl, ?_, ⟨_, rfl⟩, hW, hsame.mono (by decide) (by decide)⟩
    · show own_S p e below T9 m 43 #[iv (4 : Int32)] [(.ref en4)] _
      exact retOut X9 hx (t := (.object "com/example/converge/converge/runtime/WireType")) Bd.returns rfl (Or.inr (Or.inr (Or.inr (Or.inr ⟨rfl, rfl, rfl⟩)))) (hb hby d3_43) hr
    · show Q3 Z (4 : Int32) en0 en1 en2 en3 en4 en5 aA kA h0 n0 _ T9.heap _
      rw [e9]
      exact ⟨rfl, N0, rfl⟩
  ·  -- case
    obtain ⟨T11, X11, e11, st11⟩ := getS2 X0 hx hZ hown (host := "") (Or.inl (hw _ (List.mem_of_getElem? (i := 29) rfl))) Via.refl e0 S_en5 (g := (mkF m 49 #[iv (5 : Int32)] [])) rfl (hb hby d3_49)
    have pre12 : ∀ t, own_S p e below T11 m 52 #[iv (5 : Int32)] [(.ref en5)] t → Steps p.tables e below (s₁.setTop (entryFrame m #[(.int (5 : Int32))] 1)) t := fun t k => pre0 t (by
      show own_S p e below s₁ m 0 #[iv (5 : Int32)] [] _
      refine XS.iloadN X0.here hx rfl (hb hby d3_0) rfl ?_
      show own_S p e below s₁ m 1 #[iv (5 : Int32)] [(.int (5 : Int32))] _
      refine XS.ifYes X0.here hx rfl (pc0 := 1) (pc' := 8) rfl (hb hby d3_1) rfl ((if0 _ _).trans (feq (by decide : ¬ ((5 : Int32) = (0 : Int32)))).2) (by decide) (by decide) ?_
      show own_S p e below s₁ m 8 #[iv (5 : Int32)] [] _
      refine XS.iloadN X0.here hx rfl (hb hby d3_8) rfl ?_
      show own_S p e below s₁ m 9 #[iv (5 : Int32)] [(.int (5 : Int32))] _
      refine XS.iconst X0.here hx rfl (hb hby d3_9) ?_
      show own_S p e below s₁ m 10 #[iv (5 : Int32)] [(.int (1 : Int32)), (.int (5 : Int32))] _
      refine XS.icmpYes X0.here hx rfl (pc0 := 10) (pc' := 17) rfl (hb hby d3_10) rfl (feq (by decide : ¬ ((5 : Int32) = (1 : Int32)))).2 (by decide) (by decide) ?_
      show own_S p e below s₁ m 17 #[iv (5 : Int32)] [] _
      refine XS.iloadN X0.here hx rfl (hb hby d3_17) rfl ?_
      show own_S p e below s₁ m 18 #[iv (5 : Int32)] [(.int (5 : Int32))] _
      refine XS.iconst X0.here hx rfl (hb hby d3_18) ?_
      show own_S p e below s₁ m 19 #[iv (5 : Int32)] [(.int (2 : Int32)), (.int (5 : Int32))] _
      refine XS.icmpYes X0.here hx rfl (pc0 := 19) (pc' := 26) rfl (hb hby d3_19) rfl (feq (by decide : ¬ ((5 : Int32) = (2 : Int32)))).2 (by decide) (by decide) ?_
      show own_S p e below s₁ m 26 #[iv (5 : Int32)] [] _
      refine XS.iloadN X0.here hx rfl (hb hby d3_26) rfl ?_
      show own_S p e below s₁ m 27 #[iv (5 : Int32)] [(.int (5 : Int32))] _
      refine XS.iconst X0.here hx rfl (hb hby d3_27) ?_
      show own_S p e below s₁ m 28 #[iv (5 : Int32)] [(.int (3 : Int32)), (.int (5 : Int32))] _
      refine XS.icmpYes X0.here hx rfl (pc0 := 28) (pc' := 35) rfl (hb hby d3_28) rfl (feq (by decide : ¬ ((5 : Int32) = (3 : Int32)))).2 (by decide) (by decide) ?_
      show own_S p e below s₁ m 35 #[iv (5 : Int32)] [] _
      refine XS.iloadN X0.here hx rfl (hb hby d3_35) rfl ?_
      show own_S p e below s₁ m 36 #[iv (5 : Int32)] [(.int (5 : Int32))] _
      refine XS.iconst X0.here hx rfl (hb hby d3_36) ?_
      show own_S p e below s₁ m 37 #[iv (5 : Int32)] [(.int (4 : Int32)), (.int (5 : Int32))] _
      refine XS.icmpYes X0.here hx rfl (pc0 := 37) (pc' := 44) rfl (hb hby d3_37) rfl (feq (by decide : ¬ ((5 : Int32) = (4 : Int32)))).2 (by decide) (by decide) ?_
      show own_S p e below s₁ m 44 #[iv (5 : Int32)] [] _
      refine XS.iloadN X0.here hx rfl (hb hby d3_44) rfl ?_
      show own_S p e below s₁ m 45 #[iv (5 : Int32)] [(.int (5 : Int32))] _
      refine XS.iconst X0.here hx rfl (hb hby d3_45) ?_
      show own_S p e below s₁ m 46 #[iv (5 : Int32)] [(.int (5 : Int32)), (.int (5 : Int32))] _
      refine XS.icmpNo X0.here hx rfl (hb hby d3_46) rfl (teq (by decide : (5 : Int32) = (5 : Int32))).2 ?_
      show own_S p e below s₁ m 49 #[iv (5 : Int32)] [] _
      refine st11 _ ?_
      exact k)
    obtain ⟨fs, hr, hrun, hended, hW, hsame⟩ := X11.leave (v := some (.ref en5)) (fun h => by rw [Bd.returns] at h; cases h)
    refine ⟨_, _, pre12 _ ?_, hrun, hended, _, _, rfl, ?_, ⟨_, rfl⟩, hW, hsame.mono (by decide) (by decide)⟩
    · show own_S p e below T11 m 52 #[iv (5 : Int32)] [(.ref en5)] _
      exact retOut X11 hx (t := (.object "com/example/converge/converge/runtime/WireType")) Bd.returns rfl (Or.inr (Or.inr (Or.inr (Or.inr ⟨rfl, rfl, rfl⟩)))) (hb hby d3_52) hr
    · show Q3 Z (5 : Int32) en0 en1 en2 en3 en4 en5 aA kA h0 n0 _ T11.heap _
      rw [e11]
      exact ⟨rfl, N0, rfl⟩
  ·  -- case
    obtain ⟨q0, q1, q2, q3, q4, q5⟩ := own_outs hout
    have pre13 : ∀ t, own_S p e below s₁ m 54 #[iv p1] [.null] t → Steps p.tables e below (s₁.setTop (entryFrame m #[(.int p1)] 1)) t := fun t k => pre0 t (by
      show own_S p e below s₁ m 0 #[iv p1] [] _
      refine XS.iloadN X0.here hx rfl (hb hby d3_0) rfl ?_
      show own_S p e below s₁ m 1 #[iv p1] [(.int p1)] _
      refine XS.ifYes X0.here hx rfl (pc0 := 1) (pc' := 8) rfl (hb hby d3_1) rfl ((if0 _ _).trans (feq q0).2) (by decide) (by decide) ?_
      show own_S p e below s₁ m 8 #[iv p1] [] _
      refine XS.iloadN X0.here hx rfl (hb hby d3_8) rfl ?_
      show own_S p e below s₁ m 9 #[iv p1] [(.int p1)] _
      refine XS.iconst X0.here hx rfl (hb hby d3_9) ?_
      show own_S p e below s₁ m 10 #[iv p1] [(.int (1 : Int32)), (.int p1)] _
      refine XS.icmpYes X0.here hx rfl (pc0 := 10) (pc' := 17) rfl (hb hby d3_10) rfl (feq q1).2 (by decide) (by decide) ?_
      show own_S p e below s₁ m 17 #[iv p1] [] _
      refine XS.iloadN X0.here hx rfl (hb hby d3_17) rfl ?_
      show own_S p e below s₁ m 18 #[iv p1] [(.int p1)] _
      refine XS.iconst X0.here hx rfl (hb hby d3_18) ?_
      show own_S p e below s₁ m 19 #[iv p1] [(.int (2 : Int32)), (.int p1)] _
      refine XS.icmpYes X0.here hx rfl (pc0 := 19) (pc' := 26) rfl (hb hby d3_19) rfl (feq q2).2 (by decide) (by decide) ?_
      show own_S p e below s₁ m 26 #[iv p1] [] _
      refine XS.iloadN X0.here hx rfl (hb hby d3_26) rfl ?_
      show own_S p e below s₁ m 27 #[iv p1] [(.int p1)] _
      refine XS.iconst X0.here hx rfl (hb hby d3_27) ?_
      show own_S p e below s₁ m 28 #[iv p1] [(.int (3 : Int32)), (.int p1)] _
      refine XS.icmpYes X0.here hx rfl (pc0 := 28) (pc' := 35) rfl (hb hby d3_28) rfl (feq q3).2 (by decide) (by decide) ?_
      show own_S p e below s₁ m 35 #[iv p1] [] _
      refine XS.iloadN X0.here hx rfl (hb hby d3_35) rfl ?_
      show own_S p e below s₁ m 36 #[iv p1] [(.int p1)] _
      refine XS.iconst X0.here hx rfl (hb hby d3_36) ?_
      show own_S p e below s₁ m 37 #[iv p1] [(.int (4 : Int32)), (.int p1)] _
      refine XS.icmpYes X0.here hx rfl (pc0 := 37) (pc' := 44) rfl (hb hby d3_37) rfl (feq q4).2 (by decide) (by decide) ?_
      show own_S p e below s₁ m 44 #[iv p1] [] _
      refine XS.iloadN X0.here hx rfl (hb hby d3_44) rfl ?_
      show own_S p e below s₁ m 45 #[iv p1] [(.int p1)] _
      refine XS.iconst X0.here hx rfl (hb hby d3_45) ?_
      show own_S p e below s₁ m 46 #[iv p1] [(.int (5 : Int32)), (.int p1)] _
      refine XS.icmpYes X0.here hx rfl (pc0 := 46) (pc' := 53) rfl (hb hby d3_46) rfl (feq q5).2 (by decide) (by decide) ?_
      show own_S p e below s₁ m 53 #[iv p1] [] _
      refine XS.aconstNull X0.here hx rfl (hb hby d3_53) ?_
      exact k)
    obtain ⟨fs, hr, hrun, hended, hW, hsame⟩ := X0.leave (v := some .null) (fun h => by rw [Bd.returns] at h; cases h)
    refine ⟨_, _, pre13 _ ?_, hrun, hended, _, _, rfl, ?_, ⟨_, rfl⟩, hW, hsame.mono (by decide) (by decide)⟩
    · show own_S p e below s₁ m 54 #[iv p1] [.null] _
      exact retOut X0 hx (t := (.object "com/example/converge/converge/runtime/WireType")) Bd.returns rfl (Or.inr (Or.inr (Or.inr (Or.inr ⟨rfl, rfl, rfl⟩)))) (hb hby d3_54) hr
    · show Q3 Z p1 en0 en1 en2 en3 en4 en5 aA kA h0 n0 _ s₁.heap _
      rw [e0]
      exact ⟨by rw [own_null hout], N0, rfl⟩
theorem ef_4 (m : MethodId) (a1 : Addr) : entryFrame m #[(.ref a1)] 1 = mkF m 0 #[rv a1] [] := by first | (simp [entryFrame, mkF, argsToLocals, Value.category]; done) | rfl
def Q4 (Z : State) (a1 : Addr) (p2 : Int32) (h0 : Heap) (n0 : Nat) (v : Option Value) (h : Heap) (L : List Loc) : Prop := v = some (.int p2) ∧ Fr n0 L ∧ h = h0
theorem d4_0 : decode prog_92_method_4_code 0 = .ok (.aload_n 0, 1) := by decide +kernel
theorem d4_1 : decode prog_92_method_4_code 1 = .ok (.getfield 41, 3) := by decide +kernel
theorem d4_4 : decode prog_92_method_4_code 4 = .ok (.ireturn, 1) := by decide +kernel
set_option maxRecDepth 65536 in
set_option maxHeartbeats 40000000 in
theorem rm4 (l : Launch) (Z : State) (a0 : Array Value) (hw : ∀ d ∈ tables_1, d.before a0 Z = true) (ws : List Jvm.Cond) (a1 : Addr) (p2 : Int32) (h0 : Heap) (n0 : Nat) (Z0 : n0 ≤ h0.size) (F_a1 : Fld Z h0 a1 "com/example/converge/converge/runtime/WireType" "_number" "I" (.int p2)) :
    MetFree l (⟨"com/example/converge/converge/runtime/WireType", "getNumber", "()I"⟩ : MethodName) (head1 (Jvm.Cond.code (⟨"com/example/converge/converge/runtime/WireType", "getNumber", "()I"⟩ : MethodName) prog_92_method_4_code 1 (some .int) :: ws) ({ frames := 0, cells := 0, slots := 0, locals := 0 } : Room)) (fun a U => a = #[(.ref a1)] ∧ Z.Warmed39 U.vm ∧ U.heap = h0) (fun _ _ _ _ _ => True) (fun _ U o U' => ∃ v L, o = .returned v ∧ Q4 Z a1 p2 h0 n0 v U'.heap L ∧ FrameEnd U o U' L ({ frames := 0, cells := 0, slots := 0, locals := 0 } : Room).cells ({ frames := 0, cells := 0, slots := 0, locals := 0 } : Room).slots) := by
  refine MetFree.of_bodySF (plainFor_of_name pn_0) hisR ?_
  intro p e s m args below meth c s₁ Bd hml0 hP hK
  obtain ⟨rfl, hZ, hh⟩ := hP
  have hx := Bd.exec
  have hby := Bd.bytes
  have hml : c.maxLocals = 1 := hml0
  have hown : s.vm.findClass "com/example/converge/converge/runtime/WireType" = some m.cls := findClass_of_methodNamed Bd.named
  have hnm := (name_of_methodNamed Bd.named Bd.method).1
  have X0 : Stand p l e ({ frames := 0, cells := 0, slots := 0, locals := 0 } : Room) s m #[(.ref a1)] below meth c s₁ [] 0 0 := Stand.of_body Bd
  have e0 : s₁.heap = h0 := by rw [← hh, Bd.state]; rfl
  have N0 := Fr.nil n0
  have pre0 : ∀ t, Steps p.tables e below (s₁.setTop (mkF m 0 #[rv a1] [])) t → Steps p.tables e below (s₁.setTop (entryFrame m #[(.ref a1)] 1)) t := fun t k => castTop (ef_4 m a1) k
  obtain ⟨T1, X1, e1, st1⟩ := getF X0 hx hZ hown (host := "") (Or.inl (hw _ (List.mem_of_getElem? (i := 20) rfl))) Via.refl e0 F_a1 (g := (mkF m 1 #[rv a1] [(.ref a1)])) rfl rfl (hb hby d4_1)
  have pre2 : ∀ t, own_S p e below T1 m 4 #[rv a1] [(.int p2)] t → Steps p.tables e below (s₁.setTop (entryFrame m #[(.ref a1)] 1)) t := fun t k => pre0 t (by
    show own_S p e below s₁ m 0 #[rv a1] [] _
    refine XS.aloadN X0.here hx rfl (hb hby d4_0) rfl rfl ?_
    show own_S p e below s₁ m 1 #[rv a1] [(.ref a1)] _
    refine st1 _ ?_
    exact k)
  obtain ⟨fs, hr, hrun, hended, hW, hsame⟩ := X1.leave (v := some (.int p2)) (fun h => by rw [Bd.returns] at h; cases h)
  refine ⟨_, _, pre2 _ ?_, hrun, hended, _, _, rfl, ?_, ⟨_, rfl⟩, hW, hsame.mono (by decide) (by decide)⟩
  · show own_S p e below T1 m 4 #[rv a1] [(.int p2)] _
    exact retI X1 hx Bd.returns (hb hby d4_4) hr
  · show Q4 Z a1 p2 h0 n0 _ T1.heap _
    rw [e1]
    exact ⟨rfl, N0, rfl⟩
theorem own_le {n : Int32} (h : ¬ (5 : Int32) < n) : n < 6 := by
  have l5 : (5 : Int32).toInt = 5 := by decide
  have l6 : (6 : Int32).toInt = 6 := by decide
  simp only [Int32.lt_iff_toInt_lt, l5, l6] at h ⊢
  omega
theorem ef_1 (m : MethodId) (p1 : Int32) : entryFrame m #[(.int p1)] 3 = mkF m 0 #[iv p1, .unset, .unset] [] := by first | (simp [entryFrame, mkF, argsToLocals, Value.category]; done) | rfl
def Q1 (Z : State) (p1 : Int32) (en0 : Addr) (en1 : Addr) (en2 : Addr) (en3 : Addr) (en4 : Addr) (en5 : Addr) (aA : Addr) (kA : ClassId) (h0 : Heap) (n0 : Nat) (v : Option Value) (h : Heap) (L : List Loc) : Prop := v = some (.int 1) ∧ Fr n0 L ∧ h = h0
theorem d1_0 : decode method_3_code 0 = .ok (.iload_n 0, 1) := by decide +kernel
theorem d1_1 : decode method_3_code 1 = .ok (.invokestatic 28, 3) := by decide +kernel
theorem pd_0 : parseMethodDescriptor "(I)Lcom/example/converge/converge/runtime/WireType;" = some ⟨[.int], some (.object "com/example/converge/converge/runtime/WireType")⟩ := by decide +kernel
theorem d1_4 : decode method_3_code 4 = .ok (.astore_n 1, 1) := by decide +kernel
theorem d1_5 : decode method_3_code 5 = .ok (.iload_n 0, 1) := by decide +kernel
theorem d1_6 : decode method_3_code 6 = .ok (.invokestatic 32, 3) := by decide +kernel
theorem d1_9 : decode method_3_code 9 = .ok (.astore_n 2, 1) := by decide +kernel
theorem d1_10 : decode method_3_code 10 = .ok (.aload_n 1, 1) := by decide +kernel
theorem d1_11 : decode method_3_code 11 = .ok (.aload_n 2, 1) := by decide +kernel
theorem d1_12 : decode method_3_code 12 = .ok (.if_acmp .eq 5, 3) := by decide +kernel
theorem d1_17 : decode method_3_code 17 = .ok (.aload_n 1, 1) := by decide +kernel
theorem d1_18 : decode method_3_code 18 = .ok (.ifnonnull 18, 3) := by decide +kernel
theorem d1_36 : decode method_3_code 36 = .ok (.aload_n 1, 1) := by decide +kernel
theorem d1_37 : decode method_3_code 37 = .ok (.invokevirtual 37, 3) := by decide +kernel
theorem pd_1 : parseMethodDescriptor "()I" = some ⟨[], some .int⟩ := by decide +kernel
theorem d1_40 : decode method_3_code 40 = .ok (.iload_n 0, 1) := by decide +kernel
theorem d1_41 : decode method_3_code 41 = .ok (.if_icmp .ne 7, 3) := by decide +kernel
theorem d1_44 : decode method_3_code 44 = .ok (.iconst 1, 1) := by decide +kernel
theorem d1_45 : decode method_3_code 45 = .ok (.goto 4, 3) := by decide +kernel
theorem d1_49 : decode method_3_code 49 = .ok (.ireturn, 1) := by decide +kernel
theorem d1_21 : decode method_3_code 21 = .ok (.iload_n 0, 1) := by decide +kernel
theorem d1_22 : decode method_3_code 22 = .ok (.ifCond .lt 8, 3) := by decide +kernel
theorem d1_30 : decode method_3_code 30 = .ok (.iconst 1, 1) := by decide +kernel
theorem d1_31 : decode method_3_code 31 = .ok (.goto 4, 3) := by decide +kernel
theorem d1_35 : decode method_3_code 35 = .ok (.ireturn, 1) := by decide +kernel
theorem d1_25 : decode method_3_code 25 = .ok (.iload_n 0, 1) := by decide +kernel
theorem d1_26 : decode method_3_code 26 = .ok (.iconst 5, 1) := by decide +kernel
theorem d1_27 : decode method_3_code 27 = .ok (.if_icmp .le 7, 3) := by decide +kernel
set_option maxRecDepth 65536 in
set_option maxHeartbeats 40000000 in
theorem rm1 (l : Launch) (Z : State) (a0 : Array Value) (hw : ∀ d ∈ tables_1, d.before a0 Z = true) (ws : List Jvm.Cond) (p1 : Int32) (en0 : Addr) (en1 : Addr) (en2 : Addr) (en3 : Addr) (en4 : Addr) (en5 : Addr) (aA : Addr) (kA : ClassId) (h0 : Heap) (n0 : Nat) (Z0 : n0 ≤ h0.size) (S_en0 : Sta Z h0 "com/example/converge/converge/runtime/WireType" "VARINT" "Lcom/example/converge/converge/runtime/WireType;" (.ref en0)) (S_en1 : Sta Z h0 "com/example/converge/converge/runtime/WireType" "I64" "Lcom/example/converge/converge/runtime/WireType;" (.ref en1)) (S_en2 : Sta Z h0 "com/example/converge/converge/runtime/WireType" "LEN" "Lcom/example/converge/converge/runtime/WireType;" (.ref en2)) (S_en3 : Sta Z h0 "com/example/converge/converge/runtime/WireType" "SGROUP" "Lcom/example/converge/converge/runtime/WireType;" (.ref en3)) (S_en4 : Sta Z h0 "com/example/converge/converge/runtime/WireType" "EGROUP" "Lcom/example/converge/converge/runtime/WireType;" (.ref en4)) (S_en5 : Sta Z h0 "com/example/converge/converge/runtime/WireType" "I32" "Lcom/example/converge/converge/runtime/WireType;" (.ref en5)) (S_A : Sta Z h0 "com/example/converge/converge/runtime/WireType" "BY_NUMBER" "[Lcom/example/converge/converge/runtime/WireType;" (.ref aA)) (V_A : Arv Z h0 aA kA (.object "com/example/converge/converge/runtime/WireType") (6 : Int32) [(.ref en0), (.ref en1), (.ref en2), (.ref en3), (.ref en4), (.ref en5)] .null) (F_en0 : Fld Z h0 en0 "com/example/converge/converge/runtime/WireType" "_number" "I" (.int (0 : Int32))) (F_en1 : Fld Z h0 en1 "com/example/converge/converge/runtime/WireType" "_number" "I" (.int (1 : Int32))) (F_en2 : Fld Z h0 en2 "com/example/converge/converge/runtime/WireType" "_number" "I" (.int (2 : Int32))) (F_en3 : Fld Z h0 en3 "com/example/converge/converge/runtime/WireType" "_number" "I" (.int (3 : Int32))) (F_en4 : Fld Z h0 en4 "com/example/converge/converge/runtime/WireType" "_number" "I" (.int (4 : Int32))) (F_en5 : Fld Z h0 en5 "com/example/converge/converge/runtime/WireType" "_number" "I" (.int (5 : Int32))) (E_en0 : Exa Z h0 en0 "com/example/converge/converge/runtime/WireType") (E_en1 : Exa Z h0 en1 "com/example/converge/converge/runtime/WireType") (E_en2 : Exa Z h0 en2 "com/example/converge/converge/runtime/WireType") (E_en3 : Exa Z h0 en3 "com/example/converge/converge/runtime/WireType") (E_en4 : Exa Z h0 en4 "com/example/converge/converge/runtime/WireType") (E_en5 : Exa Z h0 en5 "com/example/converge/converge/runtime/WireType") :
    MetFree l (⟨"com/example/converge/converge/runtime/WireTypeForNumberPinLaw", "check", "(I)Z"⟩ : MethodName) (head1 (Jvm.Cond.code (⟨"com/example/converge/converge/runtime/WireTypeForNumberPinLaw", "check", "(I)Z"⟩ : MethodName) method_3_code 3 (some .boolean) :: ws) ({ frames := 1, cells := 0, slots := 0, locals := 16 } : Room)) (fun a U => a = #[(.int p1)] ∧ Z.Warmed39 U.vm ∧ U.heap = h0) (fun _ _ _ _ _ => True) (fun _ U o U' => ∃ v L, o = .returned v ∧ Q1 Z p1 en0 en1 en2 en3 en4 en5 aA kA h0 n0 v U'.heap L ∧ FrameEnd U o U' L ({ frames := 1, cells := 0, slots := 0, locals := 16 } : Room).cells ({ frames := 1, cells := 0, slots := 0, locals := 16 } : Room).slots) := by
  refine MetFree.of_bodySF (plainFor_of_name pn_1) hisR ?_
  intro p e s m args below meth c s₁ Bd hml0 hP hK
  obtain ⟨rfl, hZ, hh⟩ := hP
  have hx := Bd.exec
  have hby := Bd.bytes
  have hml : c.maxLocals = 3 := hml0
  have hown : s.vm.findClass "com/example/converge/converge/runtime/WireTypeForNumberPinLaw" = some m.cls := findClass_of_methodNamed Bd.named
  have hnm := (name_of_methodNamed Bd.named Bd.method).1
  have X0 : Stand p l e ({ frames := 1, cells := 0, slots := 0, locals := 16 } : Room) s m #[(.int p1)] below meth c s₁ [] 0 0 := Stand.of_body Bd
  have e0 : s₁.heap = h0 := by rw [← hh, Bd.state]; rfl
  have N0 := Fr.nil n0
  have pre0 : ∀ t, Steps p.tables e below (s₁.setTop (mkF m 0 #[iv p1, .unset, .unset] [])) t → Steps p.tables e below (s₁.setTop (entryFrame m #[(.int p1)] 3)) t := fun t k => castTop (ef_1 m p1) k
  have hsp := own_split p1
  rcases hsp with rfl | rfl | rfl | rfl | rfl | rfl | hout
  ·  -- case
    obtain ⟨_, _, ⟨T1, L1, k1, n1⟩, -, X1, ⟨Lc1, hQ1, l1, y1, z1⟩, st1⟩ := Jvm.LawKit.callS X0 hx (y := (⟨"com/example/converge/converge/runtime/WireType", "forNumber", "(I)Lcom/example/converge/converge/runtime/WireType;"⟩ : MethodName)) hown (mvT hZ (hw _ (List.mem_of_getElem? (i := 4) rfl))) (mvT hZ (hw _ (List.mem_of_getElem? (i := 5) rfl))) (mvT hZ (hw _ (List.mem_of_getElem? (i := 6) rfl))) (mvT hZ (hw _ (List.mem_of_getElem? (i := 7) rfl))) (by decide) (backOf (W := 0) (rm2 l Z a0 hw [] (0 : Int32) en0 en1 en2 en3 en4 en5 aA kA h0 n0 Z0 S_en0 S_en1 S_en2 S_en3 S_en4 S_en5 S_A V_A F_en0 F_en1 F_en2 F_en3 F_en4 F_en5 E_en0 E_en1 E_en2 E_en3 E_en4 E_en5) hZ (hw _ (List.mem_of_getElem? (i := 7) rfl)) (hw _ (List.mem_of_getElem? (i := 6) rfl)) (by decide) (by decide)) (g := (mkF m 1 #[iv (0 : Int32), .unset, .unset] [(.int (0 : Int32))])) rfl (by rw [hml]; rfl) (argsL := [(.int (0 : Int32))]) (rest := []) (lenOf pd_0 rfl) rfl (by show 2 * 0 + _ ≤ _; exact Nat.le_of_eq rfl) (hb hby d1_1) (fun _ _ => ⟨rfl, e0, (by decide : 0 + 0 ≤ _), (by decide : 0 + 0 ≤ _)⟩)
    dsimp only [Pt.U, Pt.locs, Pt.cells, Pt.slots] at X1 l1 y1 z1 st1 hQ1
    subst l1 y1 z1
    obtain ⟨hv1, N1q, e1q⟩ := hQ1
    have N1 := Fr.app N0 N1q
    rw [show own_ref (0 : Int32) en0 en1 en2 en3 en4 en5 = .ref en0 from rfl] at hv1
    subst hv1
    have e1 : T1.heap = h0 := e1q
    obtain ⟨_, _, ⟨T2, L2, k2, n2⟩, -, X2, ⟨Lc2, hQ2, l2, y2, z2⟩, st2⟩ := Jvm.LawKit.callS X1 hx (y := (⟨"com/example/converge/converge/runtime/WireTypeForNumberPinLaw", "expected", "(I)Lcom/example/converge/converge/runtime/WireType;"⟩ : MethodName)) hown (mvT hZ (hw _ (List.mem_of_getElem? (i := 11) rfl))) (mvT hZ (hw _ (List.mem_of_getElem? (i := 12) rfl))) (mvT hZ (hw _ (List.mem_of_getElem? (i := 2) rfl))) (mvT hZ (hw _ (List.mem_of_getElem? (i := 13) rfl))) (by decide) (backOf (W := 0) (rm3 l Z a0 hw [] (0 : Int32) en0 en1 en2 en3 en4 en5 aA kA h0 n0 Z0 S_en0 S_en1 S_en2 S_en3 S_en4 S_en5 S_A V_A F_en0 F_en1 F_en2 F_en3 F_en4 F_en5 E_en0 E_en1 E_en2 E_en3 E_en4 E_en5) hZ (hw _ (List.mem_of_getElem? (i := 13) rfl)) (hw _ (List.mem_of_getElem? (i := 2) rfl)) (by decide) (by decide)) (g := (mkF m 6 #[iv (0 : Int32), rv en0, .unset] [(.int (0 : Int32))])) rfl (by rw [hml]; rfl) (argsL := [(.int (0 : Int32))]) (rest := []) (lenOf pd_0 rfl) rfl (by show 2 * 0 + _ ≤ _; exact Nat.le_of_eq rfl) (hb hby d1_6) (fun _ _ => ⟨rfl, e1, (by decide : 0 + 0 ≤ _), (by decide : 0 + 0 ≤ _)⟩)
    dsimp only [Pt.U, Pt.locs, Pt.cells, Pt.slots] at X2 l2 y2 z2 st2 hQ2
    subst l2 y2 z2
    obtain ⟨hv2, N2q, e2q⟩ := hQ2
    have N2 := Fr.app N1 N2q
    rw [show own_ref (0 : Int32) en0 en1 en2 en3 en4 en5 = .ref en0 from rfl] at hv2
    subst hv2
    have e2 : T2.heap = h0 := e2q
    obtain ⟨cq3, kq3, q3a, q3b, q3c⟩ := isOf hZ e2 E_en0
    obtain ⟨_, _, ⟨T3, L3, k3, n3⟩, -, X3, ⟨Lc3, hQ3, l3, y3, z3⟩, st3⟩ := X2.virtualBack hx (y := (⟨"com/example/converge/converge/runtime/WireType", "getNumber", "()I"⟩ : MethodName)) (z := (⟨"com/example/converge/converge/runtime/WireType", "getNumber", "()I"⟩ : MethodName)) hown (mvT hZ (hw _ (List.mem_of_getElem? (i := 15) rfl))) (mvT hZ (hw _ (List.mem_of_getElem? (i := 16) rfl))) (notFace_of_selects (args := #[]) (mvT hZ (hw _ (List.mem_of_getElem? (i := 18) rfl)))) (mvT hZ (hw _ (List.mem_of_getElem? (i := 18) rfl))) (mvT hZ (hw _ (List.mem_of_getElem? (i := 17) rfl))) (by decide) (backOf (W := 0) (rm4 l Z a0 hw [] en0 (0 : Int32) h0 n0 Z0 F_en0) hZ (hw _ (List.mem_of_getElem? (i := 19) rfl)) (hw _ (List.mem_of_getElem? (i := 6) rfl)) (by decide) (by decide)) q3a q3c (g := (mkF m 37 #[iv (0 : Int32), rv en0, rv en0] [(.ref en0)])) rfl (by rw [hml]; rfl) (Steps.refl _) (argsL := []) (rest := []) (lenOf pd_1 rfl) rfl (by show 2 * 0 + _ ≤ _; exact Nat.le_of_eq rfl) (hb hby d1_37) (fun _ _ => ⟨rfl, e2, (by decide : 0 + 0 ≤ _), (by decide : 0 + 0 ≤ _)⟩)
    dsimp only [Pt.U, Pt.locs, Pt.cells, Pt.slots] at X3 l3 y3 z3 st3 hQ3
    subst l3 y3 z3
    obtain ⟨rfl, N3q, e3q⟩ := hQ3
    have N3 := Fr.app N2 N3q
    have e3 : T3.heap = h0 := e3q
    have pre4 : ∀ t, own_S p e below T3 m 49 #[iv (0 : Int32), rv en0, rv en0] [(.int (1 : Int32))] t → Steps p.tables e below (s₁.setTop (entryFrame m #[(.int (0 : Int32))] 3)) t := fun t k => pre0 t (by
      show own_S p e below s₁ m 0 #[iv (0 : Int32), .unset, .unset] [] _
      refine XS.iloadN X0.here hx rfl (hb hby d1_0) rfl ?_
      show own_S p e below s₁ m 1 #[iv (0 : Int32), .unset, .unset] [(.int (0 : Int32))] _
      refine st1 _ ?_
      show own_S p e below T1 m 4 #[iv (0 : Int32), .unset, .unset] [(.ref en0)] _
      refine XS.astoreN X1.here hx rfl (hb hby d1_4) rfl rfl (l' := #[iv (0 : Int32), rv en0, .unset]) rfl ?_
      show own_S p e below T1 m 5 #[iv (0 : Int32), rv en0, .unset] [] _
      refine XS.iloadN X1.here hx rfl (hb hby d1_5) rfl ?_
      show own_S p e below T1 m 6 #[iv (0 : Int32), rv en0, .unset] [(.int (0 : Int32))] _
      refine st2 _ ?_
      show own_S p e below T2 m 9 #[iv (0 : Int32), rv en0, .unset] [(.ref en0)] _
      refine XS.astoreN X2.here hx rfl (hb hby d1_9) rfl rfl (l' := #[iv (0 : Int32), rv en0, rv en0]) rfl ?_
      show own_S p e below T2 m 10 #[iv (0 : Int32), rv en0, rv en0] [] _
      refine XS.aloadN X2.here hx rfl (hb hby d1_10) rfl rfl ?_
      show own_S p e below T2 m 11 #[iv (0 : Int32), rv en0, rv en0] [(.ref en0)] _
      refine XS.aloadN X2.here hx rfl (hb hby d1_11) rfl rfl ?_
      show own_S p e below T2 m 12 #[iv (0 : Int32), rv en0, rv en0] [(.ref en0), (.ref en0)] _
      refine Jvm.RoadKit.acmp (g := (mkF m 12 #[iv (0 : Int32), rv en0, rv en0] [(.ref en0), (.ref en0)])) X2 hx rfl rfl rfl (pc0 := 12) (pc' := 17) (same := true) rfl (hb hby d1_12) rfl (decide_eq_true rfl) (by decide) (by decide) ?_
      show own_S p e below T2 m 17 #[iv (0 : Int32), rv en0, rv en0] [] _
      refine XS.aloadN X2.here hx rfl (hb hby d1_17) rfl rfl ?_
      show own_S p e below T2 m 18 #[iv (0 : Int32), rv en0, rv en0] [(.ref en0)] _
      refine XS.ifnonnullYes X2.here hx rfl (pc0 := 18) (pc' := 36) rfl (hb hby d1_18) rfl (by decide) (by decide) ?_
      show own_S p e below T2 m 36 #[iv (0 : Int32), rv en0, rv en0] [] _
      refine XS.aloadN X2.here hx rfl (hb hby d1_36) rfl rfl ?_
      show own_S p e below T2 m 37 #[iv (0 : Int32), rv en0, rv en0] [(.ref en0)] _
      refine st3.trans ?_
      show own_S p e below T3 m 40 #[iv (0 : Int32), rv en0, rv en0] [(.int (0 : Int32))] _
      refine XS.iloadN X3.here hx rfl (hb hby d1_40) rfl ?_
      show own_S p e below T3 m 41 #[iv (0 : Int32), rv en0, rv en0] [(.int (0 : Int32)), (.int (0 : Int32))] _
      refine XS.icmpNo X3.here hx rfl (hb hby d1_41) rfl (teq (by decide : (0 : Int32) = (0 : Int32))).2 ?_
      show own_S p e below T3 m 44 #[iv (0 : Int32), rv en0, rv en0] [] _
      refine XS.iconst X3.here hx rfl (hb hby d1_44) ?_
      show own_S p e below T3 m 45 #[iv (0 : Int32), rv en0, rv en0] [(.int (1 : Int32))] _
      refine XS.goto X3.here hx rfl (pc0 := 45) (pc' := 49) rfl (hb hby d1_45) (by decide) (by decide) ?_
      exact k)
    obtain ⟨fs, hr, hrun, hended, hW, hsame⟩ := X3.leave (v := some (.int (nar .boolean (1 : Int32)))) (fun h => by rw [Bd.returns] at h; cases h)
    refine ⟨_, _, pre4 _ ?_, hrun, hended, _, _, rfl, ?_, ⟨_, rfl⟩, hW, hsame.mono (by decide) (by decide)⟩
    · show own_S p e below T3 m 49 #[iv (0 : Int32), rv en0, rv en0] [(.int (1 : Int32))] _
      exact retN X3 hx (t := .boolean) Bd.returns (by simp) (hb hby d1_49) hr
    · show Q1 Z (0 : Int32) en0 en1 en2 en3 en4 en5 aA kA h0 n0 _ T3.heap _
      rw [e3]
      exact ⟨rfl, N3, rfl⟩
  ·  -- case
    obtain ⟨_, _, ⟨T5, L5, k5, n5⟩, -, X5, ⟨Lc5, hQ5, l5, y5, z5⟩, st5⟩ := Jvm.LawKit.callS X0 hx (y := (⟨"com/example/converge/converge/runtime/WireType", "forNumber", "(I)Lcom/example/converge/converge/runtime/WireType;"⟩ : MethodName)) hown (mvT hZ (hw _ (List.mem_of_getElem? (i := 4) rfl))) (mvT hZ (hw _ (List.mem_of_getElem? (i := 5) rfl))) (mvT hZ (hw _ (List.mem_of_getElem? (i := 6) rfl))) (mvT hZ (hw _ (List.mem_of_getElem? (i := 7) rfl))) (by decide) (backOf (W := 0) (rm2 l Z a0 hw [] (1 : Int32) en0 en1 en2 en3 en4 en5 aA kA h0 n0 Z0 S_en0 S_en1 S_en2 S_en3 S_en4 S_en5 S_A V_A F_en0 F_en1 F_en2 F_en3 F_en4 F_en5 E_en0 E_en1 E_en2 E_en3 E_en4 E_en5) hZ (hw _ (List.mem_of_getElem? (i := 7) rfl)) (hw _ (List.mem_of_getElem? (i := 6) rfl)) (by decide) (by decide)) (g := (mkF m 1 #[iv (1 : Int32), .unset, .unset] [(.int (1 : Int32))])) rfl (by rw [hml]; rfl) (argsL := [(.int (1 : Int32))]) (rest := []) (lenOf pd_0 rfl) rfl (by show 2 * 0 + _ ≤ _; exact Nat.le_of_eq rfl) (hb hby d1_1) (fun _ _ => ⟨rfl, e0, (by decide : 0 + 0 ≤ _), (by decide : 0 + 0 ≤ _)⟩)
    dsimp only [Pt.U, Pt.locs, Pt.cells, Pt.slots] at X5 l5 y5 z5 st5 hQ5
    subst l5 y5 z5
    obtain ⟨hv5, N5q, e5q⟩ := hQ5
    have N5 := Fr.app N0 N5q
    rw [show own_ref (1 : Int32) en0 en1 en2 en3 en4 en5 = .ref en1 from rfl] at hv5
    subst hv5
    have e5 : T5.heap = h0 := e5q
    obtain ⟨_, _, ⟨T6, L6, k6, n6⟩, -, X6, ⟨Lc6, hQ6, l6, y6, z6⟩, st6⟩ := Jvm.LawKit.callS X5 hx (y := (⟨"com/example/converge/converge/runtime/WireTypeForNumberPinLaw", "expected", "(I)Lcom/example/converge/converge/runtime/WireType;"⟩ : MethodName)) hown (mvT hZ (hw _ (List.mem_of_getElem? (i := 11) rfl))) (mvT hZ (hw _ (List.mem_of_getElem? (i := 12) rfl))) (mvT hZ (hw _ (List.mem_of_getElem? (i := 2) rfl))) (mvT hZ (hw _ (List.mem_of_getElem? (i := 13) rfl))) (by decide) (backOf (W := 0) (rm3 l Z a0 hw [] (1 : Int32) en0 en1 en2 en3 en4 en5 aA kA h0 n0 Z0 S_en0 S_en1 S_en2 S_en3 S_en4 S_en5 S_A V_A F_en0 F_en1 F_en2 F_en3 F_en4 F_en5 E_en0 E_en1 E_en2 E_en3 E_en4 E_en5) hZ (hw _ (List.mem_of_getElem? (i := 13) rfl)) (hw _ (List.mem_of_getElem? (i := 2) rfl)) (by decide) (by decide)) (g := (mkF m 6 #[iv (1 : Int32), rv en1, .unset] [(.int (1 : Int32))])) rfl (by rw [hml]; rfl) (argsL := [(.int (1 : Int32))]) (rest := []) (lenOf pd_0 rfl) rfl (by show 2 * 0 + _ ≤ _; exact Nat.le_of_eq rfl) (hb hby d1_6) (fun _ _ => ⟨rfl, e5, (by decide : 0 + 0 ≤ _), (by decide : 0 + 0 ≤ _)⟩)
    dsimp only [Pt.U, Pt.locs, Pt.cells, Pt.slots] at X6 l6 y6 z6 st6 hQ6
    subst l6 y6 z6
    obtain ⟨hv6, N6q, e6q⟩ := hQ6
    have N6 := Fr.app N5 N6q
    rw [show own_ref (1 : Int32) en0 en1 en2 en3 en4 en5 = .ref en1 from rfl] at hv6
    subst hv6
    have e6 : T6.heap = h0 := e6q
    obtain ⟨cq7, kq7, q7a, q7b, q7c⟩ := isOf hZ e6 E_en1
    obtain ⟨_, _, ⟨T7, L7, k7, n7⟩, -, X7, ⟨Lc7, hQ7, l7, y7, z7⟩, st7⟩ := X6.virtualBack hx (y := (⟨"com/example/converge/converge/runtime/WireType", "getNumber", "()I"⟩ : MethodName)) (z := (⟨"com/example/converge/converge/runtime/WireType", "getNumber", "()I"⟩ : MethodName)) hown (mvT hZ (hw _ (List.mem_of_getElem? (i := 15) rfl))) (mvT hZ (hw _ (List.mem_of_getElem? (i := 16) rfl))) (notFace_of_selects (args := #[]) (mvT hZ (hw _ (List.mem_of_getElem? (i := 18) rfl)))) (mvT hZ (hw _ (List.mem_of_getElem? (i := 18) rfl))) (mvT hZ (hw _ (List.mem_of_getElem? (i := 17) rfl))) (by decide) (backOf (W := 0) (rm4 l Z a0 hw [] en1 (1 : Int32) h0 n0 Z0 F_en1) hZ (hw _ (List.mem_of_getElem? (i := 19) rfl)) (hw _ (List.mem_of_getElem? (i := 6) rfl)) (by decide) (by decide)) q7a q7c (g := (mkF m 37 #[iv (1 : Int32), rv en1, rv en1] [(.ref en1)])) rfl (by rw [hml]; rfl) (Steps.refl _) (argsL := []) (rest := []) (lenOf pd_1 rfl) rfl (by show 2 * 0 + _ ≤ _; exact Nat.le_of_eq rfl) (hb hby d1_37) (fun _ _ => ⟨rfl, e6, (by decide : 0 + 0 ≤ _), (by decide : 0 + 0 ≤ _)⟩)
    dsimp only [Pt.U, Pt.locs, Pt.cells, Pt.slots] at X7 l7 y7 z7 st7 hQ7
    subst l7 y7 z7
    obtain ⟨rfl, N7q, e7q⟩ := hQ7
    have N7 := Fr.app N6 N7q
    have e7 : T7.heap = h0 := e7q
    have pre8 : ∀ t, own_S p e below T7 m 49 #[iv (1 : Int32), rv en1, rv en1] [(.int (1 : Int32))] t → Steps p.tables e below (s₁.setTop (entryFrame m #[(.int (1 : Int32))] 3)) t := fun t k => pre0 t (by
      show own_S p e below s₁ m 0 #[iv (1 : Int32), .unset, .unset] [] _
      refine XS.iloadN X0.here hx rfl (hb hby d1_0) rfl ?_
      show own_S p e below s₁ m 1 #[iv (1 : Int32), .unset, .unset] [(.int (1 : Int32))] _
      refine st5 _ ?_
      show own_S p e below T5 m 4 #[iv (1 : Int32), .unset, .unset] [(.ref en1)] _
      refine XS.astoreN X5.here hx rfl (hb hby d1_4) rfl rfl (l' := #[iv (1 : Int32), rv en1, .unset]) rfl ?_
      show own_S p e below T5 m 5 #[iv (1 : Int32), rv en1, .unset] [] _
      refine XS.iloadN X5.here hx rfl (hb hby d1_5) rfl ?_
      show own_S p e below T5 m 6 #[iv (1 : Int32), rv en1, .unset] [(.int (1 : Int32))] _
      refine st6 _ ?_
      show own_S p e below T6 m 9 #[iv (1 : Int32), rv en1, .unset] [(.ref en1)] _
      refine XS.astoreN X6.here hx rfl (hb hby d1_9) rfl rfl (l' := #[iv (1 : Int32), rv en1, rv en1]) rfl ?_
      show own_S p e below T6 m 10 #[iv (1 : Int32), rv en1, rv en1] [] _
      refine XS.aloadN X6.here hx rfl (hb hby d1_10) rfl rfl ?_
      show own_S p e below T6 m 11 #[iv (1 : Int32), rv en1, rv en1] [(.ref en1)] _
      refine XS.aloadN X6.here hx rfl (hb hby d1_11) rfl rfl ?_
      show own_S p e below T6 m 12 #[iv (1 : Int32), rv en1, rv en1] [(.ref en1), (.ref en1)] _
      refine Jvm.RoadKit.acmp (g := (mkF m 12 #[iv (1 : Int32), rv en1, rv en1] [(.ref en1), (.ref en1)])) X6 hx rfl rfl rfl (pc0 := 12) (pc' := 17) (same := true) rfl (hb hby d1_12) rfl (decide_eq_true rfl) (by decide) (by decide) ?_
      show own_S p e below T6 m 17 #[iv (1 : Int32), rv en1, rv en1] [] _
      refine XS.aloadN X6.here hx rfl (hb hby d1_17) rfl rfl ?_
      show own_S p e below T6 m 18 #[iv (1 : Int32), rv en1, rv en1] [(.ref en1)] _
      refine XS.ifnonnullYes X6.here hx rfl (pc0 := 18) (pc' := 36) rfl (hb hby d1_18) rfl (by decide) (by decide) ?_
      show own_S p e below T6 m 36 #[iv (1 : Int32), rv en1, rv en1] [] _
      refine XS.aloadN X6.here hx rfl (hb hby d1_36) rfl rfl ?_
      show own_S p e below T6 m 37 #[iv (1 : Int32), rv en1, rv en1] [(.ref en1)] _
      refine st7.trans ?_
      show own_S p e below T7 m 40 #[iv (1 : Int32), rv en1, rv en1] [(.int (1 : Int32))] _
      refine XS.iloadN X7.here hx rfl (hb hby d1_40) rfl ?_
      show own_S p e below T7 m 41 #[iv (1 : Int32), rv en1, rv en1] [(.int (1 : Int32)), (.int (1 : Int32))] _
      refine XS.icmpNo X7.here hx rfl (hb hby d1_41) rfl (teq (by decide : (1 : Int32) = (1 : Int32))).2 ?_
      show own_S p e below T7 m 44 #[iv (1 : Int32), rv en1, rv en1] [] _
      refine XS.iconst X7.here hx rfl (hb hby d1_44) ?_
      show own_S p e below T7 m 45 #[iv (1 : Int32), rv en1, rv en1] [(.int (1 : Int32))] _
      refine XS.goto X7.here hx rfl (pc0 := 45) (pc' := 49) rfl (hb hby d1_45) (by decide) (by decide) ?_
      exact k)
    obtain ⟨fs, hr, hrun, hended, hW, hsame⟩ := X7.leave (v := some (.int (nar .boolean (1 : Int32)))) (fun h => by rw [Bd.returns] at h; cases h)
    refine ⟨_, _, pre8 _ ?_, hrun, hended, _, _, rfl, ?_, ⟨_, rfl⟩, hW, hsame.mono (by decide) (by decide)⟩
    · show own_S p e below T7 m 49 #[iv (1 : Int32), rv en1, rv en1] [(.int (1 : Int32))] _
      exact retN X7 hx (t := .boolean) Bd.returns (by simp) (hb hby d1_49) hr
    · show Q1 Z (1 : Int32) en0 en1 en2 en3 en4 en5 aA kA h0 n0 _ T7.heap _
      rw [e7]
      exact ⟨rfl, N7, rfl⟩
  ·  -- case
    obtain ⟨_, _, ⟨T9, L9, k9, n9⟩, -, X9, ⟨Lc9, hQ9, l9, y9, z9⟩, st9⟩ := Jvm.LawKit.callS X0 hx (y := (⟨"com/example/converge/converge/runtime/WireType", "forNumber", "(I)Lcom/example/converge/converge/runtime/WireType;"⟩ : MethodName)) hown (mvT hZ (hw _ (List.mem_of_getElem? (i := 4) rfl))) (mvT hZ (hw _ (List.mem_of_getElem? (i := 5) rfl))) (mvT hZ (hw _ (List.mem_of_getElem? (i := 6) rfl))) (mvT hZ (hw _ (List.mem_of_getElem? (i := 7) rfl))) (by decide) (backOf (W := 0) (rm2 l Z a0 hw [] (2 : Int32) en0 en1 en2 en3 en4 en5 aA kA h0 n0 Z0 S_en0 S_en1 S_en2 S_en3 S_en4 S_en5 S_A V_A F_en0 F_en1 F_en2 F_en3 F_en4 F_en5 E_en0 E_en1 E_en2 E_en3 E_en4 E_en5) hZ (hw _ (List.mem_of_getElem? (i := 7) rfl)) (hw _ (List.mem_of_getElem? (i := 6) rfl)) (by decide) (by decide)) (g := (mkF m 1 #[iv (2 : Int32), .unset, .unset] [(.int (2 : Int32))])) rfl (by rw [hml]; rfl) (argsL := [(.int (2 : Int32))]) (rest := []) (lenOf pd_0 rfl) rfl (by show 2 * 0 + _ ≤ _; exact Nat.le_of_eq rfl) (hb hby d1_1) (fun _ _ => ⟨rfl, e0, (by decide : 0 + 0 ≤ _), (by decide : 0 + 0 ≤ _)⟩)
    dsimp only [Pt.U, Pt.locs, Pt.cells, Pt.slots] at X9 l9 y9 z9 st9 hQ9
    subst l9 y9 z9
    obtain ⟨hv9, N9q, e9q⟩ := hQ9
    have N9 := Fr.app N0 N9q
    rw [show own_ref (2 : Int32) en0 en1 en2 en3 en4 en5 = .ref en2 from rfl] at hv9
    subst hv9
    have e9 : T9.heap = h0 := e9q
    obtain ⟨_, _, ⟨T10, L10, k10, n10⟩, -, X10, ⟨Lc10, hQ10, l10, y10, z10⟩, st10⟩ := Jvm.LawKit.callS X9 hx (y := (⟨"com/example/converge/converge/runtime/WireTypeForNumberPinLaw", "expected", "(I)Lcom/example/converge/converge/runtime/WireType;"⟩ : MethodName)) hown (mvT hZ (hw _ (List.mem_of_getElem? (i := 11) rfl))) (mvT hZ (hw _ (List.mem_of_getElem? (i := 12) rfl))) (mvT hZ (hw _ (List.mem_of_getElem? (i := 2) rfl))) (mvT hZ (hw _ (List.mem_of_getElem? (i := 13) rfl))) (by decide) (backOf (W := 0) (rm3 l Z a0 hw [] (2 : Int32) en0 en1 en2 en3 en4 en5 aA kA h0 n0 Z0 S_en0 S_en1 S_en2 S_en3 S_en4 S_en5 S_A V_A F_en0 F_en1 F_en2 F_en3 F_en4 F_en5 E_en0 E_en1 E_en2 E_en3 E_en4 E_en5) hZ (hw _ (List.mem_of_getElem? (i := 13) rfl)) (hw _ (List.mem_of_getElem? (i := 2) rfl)) (by decide) (by decide)) (g := (mkF m 6 #[iv (2 : Int32), rv en2, .unset] [(.int (2 : Int32))])) rfl (by rw [hml]; rfl) (argsL := [(.int (2 : Int32))]) (rest := []) (lenOf pd_0 rfl) rfl (by show 2 * 0 + _ ≤ _; exact Nat.le_of_eq rfl) (hb hby d1_6) (fun _ _ => ⟨rfl, e9, (by decide : 0 + 0 ≤ _), (by decide : 0 + 0 ≤ _)⟩)
    dsimp only [Pt.U, Pt.locs, Pt.cells, Pt.slots] at X10 l10 y10 z10 st10 hQ10
    subst l10 y10 z10
    obtain ⟨hv10, N10q, e10q⟩ := hQ10
    have N10 := Fr.app N9 N10q
    rw [show own_ref (2 : Int32) en0 en1 en2 en3 en4 en5 = .ref en2 from rfl] at hv10
    subst hv10
    have e10 : T10.heap = h0 := e10q
    obtain ⟨cq11, kq11, q11a, q11b, q11c⟩ := isOf hZ e10 E_en2
    obtain ⟨_, _, ⟨T11, L11, k11, n11⟩, -, X11, ⟨Lc11, hQ11, l11, y11, z11⟩, st11⟩ := X10.virtualBack hx (y := (⟨"com/example/converge/converge/runtime/WireType", "getNumber", "()I"⟩ : MethodName)) (z := (⟨"com/example/converge/converge/runtime/WireType", "getNumber", "()I"⟩ : MethodName)) hown (mvT hZ (hw _ (List.mem_of_getElem? (i := 15) rfl))) (mvT hZ (hw _ (List.mem_of_getElem? (i := 16) rfl))) (notFace_of_selects (args := #[]) (mvT hZ (hw _ (List.mem_of_getElem? (i := 18) rfl)))) (mvT hZ (hw _ (List.mem_of_getElem? (i := 18) rfl))) (mvT hZ (hw _ (List.mem_of_getElem? (i := 17) rfl))) (by decide) (backOf (W := 0) (rm4 l Z a0 hw [] en2 (2 : Int32) h0 n0 Z0 F_en2) hZ (hw _ (List.mem_of_getElem? (i := 19) rfl)) (hw _ (List.mem_of_getElem? (i := 6) rfl)) (by decide) (by decide)) q11a q11c (g := (mkF m 37 #[iv (2 : Int32), rv en2, rv en2] [(.ref en2)])) rfl (by rw [hml]; rfl) (Steps.refl _) (argsL := []) (rest := []) (lenOf pd_1 rfl) rfl (by show 2 * 0 + _ ≤ _; exact Nat.le_of_eq rfl) (hb hby d1_37) (fun _ _ => ⟨rfl, e10, (by decide : 0 + 0 ≤ _), (by decide : 0 + 0 ≤ _)⟩)
    dsimp only [Pt.U, Pt.locs, Pt.cells, Pt.slots] at X11 l11 y11 z11 st11 hQ11
    subst l11 y11 z11
    obtain ⟨rfl, N11q, e11q⟩ := hQ11
    have N11 := Fr.app N10 N11q
    have e11 : T11.heap = h0 := e11q
    have pre12 : ∀ t, own_S p e below T11 m 49 #[iv (2 : Int32), rv en2, rv en2] [(.int (1 : Int32))] t → Steps p.tables e below (s₁.setTop (entryFrame m #[(.int (2 : Int32))] 3)) t := fun t k => pre0 t (by
      show own_S p e below s₁ m 0 #[iv (2 : Int32), .unset, .unset] [] _
      refine XS.iloadN X0.here hx rfl (hb hby d1_0) rfl ?_
      show own_S p e below s₁ m 1 #[iv (2 : Int32), .unset, .unset] [(.int (2 : Int32))] _
      refine st9 _ ?_
      show own_S p e below T9 m 4 #[iv (2 : Int32), .unset, .unset] [(.ref en2)] _
      refine XS.astoreN X9.here hx rfl (hb hby d1_4) rfl rfl (l' := #[iv (2 : Int32), rv en2, .unset]) rfl ?_
      show own_S p e below T9 m 5 #[iv (2 : Int32), rv en2, .unset] [] _
      refine XS.iloadN X9.here hx rfl (hb hby d1_5) rfl ?_
      show own_S p e below T9 m 6 #[iv (2 : Int32), rv en2, .unset] [(.int (2 : Int32))] _
      refine st10 _ ?_
      show own_S p e below T10 m 9 #[iv (2 : Int32), rv en2, .unset] [(.ref en2)] _
      refine XS.astoreN X10.here hx rfl (hb hby d1_9) rfl rfl (l' := #[iv (2 : Int32), rv en2, rv en2]) rfl ?_
      show own_S p e below T10 m 10 #[iv (2 : Int32), rv en2, rv en2] [] _
      refine XS.aloadN X10.here hx rfl (hb hby d1_10) rfl rfl ?_
      show own_S p e below T10 m 11 #[iv (2 : Int32), rv en2, rv en2] [(.ref en2)] _
      refine XS.aloadN X10.here hx rfl (hb hby d1_11) rfl rfl ?_
      show own_S p e below T10 m 12 #[iv (2 : Int32), rv en2, rv en2] [(.ref en2), (.ref en2)] _
      refine Jvm.RoadKit.acmp (g := (mkF m 12 #[iv (2 : Int32), rv en2, rv en2] [(.ref en2), (.ref en2)])) X10 hx rfl rfl rfl (pc0 := 12) (pc' := 17) (same := true) rfl (hb hby d1_12) rfl (decide_eq_true rfl) (by decide) (by decide) ?_
      show own_S p e below T10 m 17 #[iv (2 : Int32), rv en2, rv en2] [] _
      refine XS.aloadN X10.here hx rfl (hb hby d1_17) rfl rfl ?_
      show own_S p e below T10 m 18 #[iv (2 : Int32), rv en2, rv en2] [(.ref en2)] _
      refine XS.ifnonnullYes X10.here hx rfl (pc0 := 18) (pc' := 36) rfl (hb hby d1_18) rfl (by decide) (by decide) ?_
      show own_S p e below T10 m 36 #[iv (2 : Int32), rv en2, rv en2] [] _
      refine XS.aloadN X10.here hx rfl (hb hby d1_36) rfl rfl ?_
      show own_S p e below T10 m 37 #[iv (2 : Int32), rv en2, rv en2] [(.ref en2)] _
      refine st11.trans ?_
      show own_S p e below T11 m 40 #[iv (2 : Int32), rv en2, rv en2] [(.int (2 : Int32))] _
      refine XS.iloadN X11.here hx rfl (hb hby d1_40) rfl ?_
      show own_S p e below T11 m 41 #[iv (2 : Int32), rv en2, rv en2] [(.int (2 : Int32)), (.int (2 : Int32))] _
      refine XS.icmpNo X11.here hx rfl (hb hby d1_41) rfl (teq (by decide : (2 : Int32) = (2 : Int32))).2 ?_
      show own_S p e below T11 m 44 #[iv (2 : Int32), rv en2, rv en2] [] _
      refine XS.iconst X11.here hx rfl (hb hby d1_44) ?_
      show own_S p e below T11 m 45 #[iv (2 : Int32), rv en2, rv en2] [(.int (1 : Int32))] _
      refine XS.goto X11.here hx rfl (pc0 := 45) (pc' := 49) rfl (hb hby d1_45) (by decide) (by decide) ?_
      exact k)
    obtain ⟨fs, hr, hrun, hended, hW, hsame⟩ := X11.leave (v := some (.int (nar .boolean (1 : Int32)))) (fun h => by rw [Bd.returns] at h; cases h)
    refine ⟨_, _, pre12 _ ?_, hrun, hended, _, _, rfl, ?_, ⟨_, rfl⟩, hW, hsame.mono (by decide) (by decide)⟩
    · show own_S p e below T11 m 49 #[iv (2 : Int32), rv en2, rv en2] [(.int (1 : Int32))] _
      exact retN X11 hx (t := .boolean) Bd.returns (by simp) (hb hby d1_49) hr
    · show Q1 Z (2 : Int32) en0 en1 en2 en3 en4 en5 aA kA h0 n0 _ T11.heap _
      rw [e11]
      exact ⟨rfl, N11, rfl⟩
  ·  -- case
    obtain ⟨_, _, ⟨T13, L13, k13, n13⟩, -, X13, ⟨Lc13, hQ13, l13, y13, z13⟩, st13⟩ := Jvm.LawKit.callS X0 hx (y := (⟨"com/example/converge/converge/runtime/WireType", "forNumber", "(I)Lcom/example/converge/converge/runtime/WireType;"⟩ : MethodName)) hown (mvT hZ (hw _ (List.mem_of_getElem? (i := 4) rfl))) (mvT hZ (hw _ (List.mem_of_getElem? (i := 5) rfl))) (mvT hZ (hw _ (List.mem_of_getElem? (i := 6) rfl))) (mvT hZ (hw _ (List.mem_of_getElem? (i := 7) rfl))) (by decide) (backOf (W := 0) (rm2 l Z a0 hw [] (3 : Int32) en0 en1 en2 en3 en4 en5 aA kA h0 n0 Z0 S_en0 S_en1 S_en2 S_en3 S_en4 S_en5 S_A V_A F_en0 F_en1 F_en2 F_en3 F_en4 F_en5 E_en0 E_en1 E_en2 E_en3 E_en4 E_en5) hZ (hw _ (List.mem_of_getElem? (i := 7) rfl)) (hw _ (List.mem_of_getElem? (i := 6) rfl)) (by decide) (by decide)) (g := (mkF m 1 #[iv (3 : Int32), .unset, .unset] [(.int (3 : Int32))])) rfl (by rw [hml]; rfl) (argsL := [(.int (3 : Int32))]) (rest := []) (lenOf pd_0 rfl) rfl (by show 2 * 0 + _ ≤ _; exact Nat.le_of_eq rfl) (hb hby d1_1) (fun _ _ => ⟨rfl, e0, (by decide : 0 + 0 ≤ _), (by decide : 0 + 0 ≤ _)⟩)
    dsimp only [Pt.U, Pt.locs, Pt.cells, Pt.slots] at X13 l13 y13 z13 st13 hQ13
    subst l13 y13 z13
    obtain ⟨hv13, N13q, e13q⟩ := hQ13
    have N13 := Fr.app N0 N13q
    rw [show own_ref (3 : Int32) en0 en1 en2 en3 en4 en5 = .ref en3 from rfl] at hv13
    subst hv13
    have e13 : T13.heap = h0 := e13q
    obtain ⟨_, _, ⟨T14, L14, k14, n14⟩, -, X14, ⟨Lc14, hQ14, l14, y14, z14⟩, st14⟩ := Jvm.LawKit.callS X13 hx (y := (⟨"com/example/converge/converge/runtime/WireTypeForNumberPinLaw", "expected", "(I)Lcom/example/converge/converge/runtime/WireType;"⟩ : MethodName)) hown (mvT hZ (hw _ (List.mem_of_getElem? (i := 11) rfl))) (mvT hZ (hw _ (List.mem_of_getElem? (i := 12) rfl))) (mvT hZ (hw _ (List.mem_of_getElem? (i := 2) rfl))) (mvT hZ (hw _ (List.mem_of_getElem? (i := 13) rfl))) (by decide) (backOf (W := 0) (rm3 l Z a0 hw [] (3 : Int32) en0 en1 en2 en3 en4 en5 aA kA h0 n0 Z0 S_en0 S_en1 S_en2 S_en3 S_en4 S_en5 S_A V_A F_en0 F_en1 F_en2 F_en3 F_en4 F_en5 E_en0 E_en1 E_en2 E_en3 E_en4 E_en5) hZ (hw _ (List.mem_of_getElem? (i := 13) rfl)) (hw _ (List.mem_of_getElem? (i := 2) rfl)) (by decide) (by decide)) (g := (mkF m 6 #[iv (3 : Int32), rv en3, .unset] [(.int (3 : Int32))])) rfl (by rw [hml]; rfl) (argsL := [(.int (3 : Int32))]) (rest := []) (lenOf pd_0 rfl) rfl (by show 2 * 0 + _ ≤ _; exact Nat.le_of_eq rfl) (hb hby d1_6) (fun _ _ => ⟨rfl, e13, (by decide : 0 + 0 ≤ _), (by decide : 0 + 0 ≤ _)⟩)
    dsimp only [Pt.U, Pt.locs, Pt.cells, Pt.slots] at X14 l14 y14 z14 st14 hQ14
    subst l14 y14 z14
    obtain ⟨hv14, N14q, e14q⟩ := hQ14
    have N14 := Fr.app N13 N14q
    rw [show own_ref (3 : Int32) en0 en1 en2 en3 en4 en5 = .ref en3 from rfl] at hv14
    subst hv14
    have e14 : T14.heap = h0 := e14q
    obtain ⟨cq15, kq15, q15a, q15b, q15c⟩ := isOf hZ e14 E_en3
    obtain ⟨_, _, ⟨T15, L15, k15, n15⟩, -, X15, ⟨Lc15, hQ15, l15, y15, z15⟩, st15⟩ := X14.virtualBack hx (y := (⟨"com/example/converge/converge/runtime/WireType", "getNumber", "()I"⟩ : MethodName)) (z := (⟨"com/example/converge/converge/runtime/WireType", "getNumber", "()I"⟩ : MethodName)) hown (mvT hZ (hw _ (List.mem_of_getElem? (i := 15) rfl))) (mvT hZ (hw _ (List.mem_of_getElem? (i := 16) rfl))) (notFace_of_selects (args := #[]) (mvT hZ (hw _ (List.mem_of_getElem? (i := 18) rfl)))) (mvT hZ (hw _ (List.mem_of_getElem? (i := 18) rfl))) (mvT hZ (hw _ (List.mem_of_getElem? (i := 17) rfl))) (by decide) (backOf (W := 0) (rm4 l Z a0 hw [] en3 (3 : Int32) h0 n0 Z0 F_en3) hZ (hw _ (List.mem_of_getElem? (i := 19) rfl)) (hw _ (List.mem_of_getElem? (i := 6) rfl)) (by decide) (by decide)) q15a q15c (g := (mkF m 37 #[iv (3 : Int32), rv en3, rv en3] [(.ref en3)])) rfl (by rw [hml]; rfl) (Steps.refl _) (argsL := []) (rest := []) (lenOf pd_1 rfl) rfl (by show 2 * 0 + _ ≤ _; exact Nat.le_of_eq rfl) (hb hby d1_37) (fun _ _ => ⟨rfl, e14, (by decide : 0 + 0 ≤ _), (by decide : 0 + 0 ≤ _)⟩)
    dsimp only [Pt.U, Pt.locs, Pt.cells, Pt.slots] at X15 l15 y15 z15 st15 hQ15
    subst l15 y15 z15
    obtain ⟨rfl, N15q, e15q⟩ := hQ15
    have N15 := Fr.app N14 N15q
    have e15 : T15.heap = h0 := e15q
    have pre16 : ∀ t, own_S p e below T15 m 49 #[iv (3 : Int32), rv en3, rv en3] [(.int (1 : Int32))] t → Steps p.tables e below (s₁.setTop (entryFrame m #[(.int (3 : Int32))] 3)) t := fun t k => pre0 t (by
      show own_S p e below s₁ m 0 #[iv (3 : Int32), .unset, .unset] [] _
      refine XS.iloadN X0.here hx rfl (hb hby d1_0) rfl ?_
      show own_S p e below s₁ m 1 #[iv (3 : Int32), .unset, .unset] [(.int (3 : Int32))] _
      refine st13 _ ?_
      show own_S p e below T13 m 4 #[iv (3 : Int32), .unset, .unset] [(.ref en3)] _
      refine XS.astoreN X13.here hx rfl (hb hby d1_4) rfl rfl (l' := #[iv (3 : Int32), rv en3, .unset]) rfl ?_
      show own_S p e below T13 m 5 #[iv (3 : Int32), rv en3, .unset] [] _
      refine XS.iloadN X13.here hx rfl (hb hby d1_5) rfl ?_
      show own_S p e below T13 m 6 #[iv (3 : Int32), rv en3, .unset] [(.int (3 : Int32))] _
      refine st14 _ ?_
      show own_S p e below T14 m 9 #[iv (3 : Int32), rv en3, .unset] [(.ref en3)] _
      refine XS.astoreN X14.here hx rfl (hb hby d1_9) rfl rfl (l' := #[iv (3 : Int32), rv en3, rv en3]) rfl ?_
      show own_S p e below T14 m 10 #[iv (3 : Int32), rv en3, rv en3] [] _
      refine XS.aloadN X14.here hx rfl (hb hby d1_10) rfl rfl ?_
      show own_S p e below T14 m 11 #[iv (3 : Int32), rv en3, rv en3] [(.ref en3)] _
      refine XS.aloadN X14.here hx rfl (hb hby d1_11) rfl rfl ?_
      show own_S p e below T14 m 12 #[iv (3 : Int32), rv en3, rv en3] [(.ref en3), (.ref en3)] _
      refine Jvm.RoadKit.acmp (g := (mkF m 12 #[iv (3 : Int32), rv en3, rv en3] [(.ref en3), (.ref en3)])) X14 hx rfl rfl rfl (pc0 := 12) (pc' := 17) (same := true) rfl (hb hby d1_12) rfl (decide_eq_true rfl) (by decide) (by decide) ?_
      show own_S p e below T14 m 17 #[iv (3 : Int32), rv en3, rv en3] [] _
      refine XS.aloadN X14.here hx rfl (hb hby d1_17) rfl rfl ?_
      show own_S p e below T14 m 18 #[iv (3 : Int32), rv en3, rv en3] [(.ref en3)] _
      refine XS.ifnonnullYes X14.here hx rfl (pc0 := 18) (pc' := 36) rfl (hb hby d1_18) rfl (by decide) (by decide) ?_
      show own_S p e below T14 m 36 #[iv (3 : Int32), rv en3, rv en3] [] _
      refine XS.aloadN X14.here hx rfl (hb hby d1_36) rfl rfl ?_
      show own_S p e below T14 m 37 #[iv (3 : Int32), rv en3, rv en3] [(.ref en3)] _
      refine st15.trans ?_
      show own_S p e below T15 m 40 #[iv (3 : Int32), rv en3, rv en3] [(.int (3 : Int32))] _
      refine XS.iloadN X15.here hx rfl (hb hby d1_40) rfl ?_
      show own_S p e below T15 m 41 #[iv (3 : Int32), rv en3, rv en3] [(.int (3 : Int32)), (.int (3 : Int32))] _
      refine XS.icmpNo X15.here hx rfl (hb hby d1_41) rfl (teq (by decide : (3 : Int32) = (3 : Int32))).2 ?_
      show own_S p e below T15 m 44 #[iv (3 : Int32), rv en3, rv en3] [] _
      refine XS.iconst X15.here hx rfl (hb hby d1_44) ?_
      show own_S p e below T15 m 45 #[iv (3 : Int32), rv en3, rv en3] [(.int (1 : Int32))] _
      refine XS.goto X15.here hx rfl (pc0 := 45) (pc' := 49) rfl (hb hby d1_45) (by decide) (by decide) ?_
      exact k)
    obtain ⟨fs, hr, hrun, hended, hW, hsame⟩ := X15.leave (v := some (.int (nar .boolean (1 : Int32)))) (fun h => by rw [Bd.returns] at h; cases h)
    refine ⟨_, _, pre16 _ ?_, hrun, hended, _, _, rfl, ?_, ⟨_, rfl⟩, hW, hsame.mono (by decide) (by decide)⟩
    · show own_S p e below T15 m 49 #[iv (3 : Int32), rv en3, rv en3] [(.int (1 : Int32))] _
      exact retN X15 hx (t := .boolean) Bd.returns (by simp) (hb hby d1_49) hr
    · show Q1 Z (3 : Int32) en0 en1 en2 en3 en4 en5 aA kA h0 n0 _ T15.heap _
      rw [e15]
      exact ⟨rfl, N15, rfl⟩
  ·  -- case
    obtain ⟨_, _, ⟨T17, L17, k17, n17⟩, -, X17, ⟨Lc17, hQ17, l17, y17, z17⟩, st17⟩ := Jvm.LawKit.callS X0 hx (y := (⟨"com/example/converge/converge/runtime/WireType", "forNumber", "(I)Lcom/example/converge/converge/runtime/WireType;"⟩ : MethodName)) hown (mvT hZ (hw _ (List.mem_of_getElem? (i := 4) rfl))) (mvT hZ (hw _ (List.mem_of_getElem? (i := 5) rfl))) (mvT hZ (hw _ (List.mem_of_getElem? (i := 6) rfl))) (mvT hZ (hw _ (List.mem_of_getElem? (i := 7) rfl))) (by decide) (backOf (W := 0) (rm2 l Z a0 hw [] (4 : Int32) en0 en1 en2 en3 en4 en5 aA kA h0 n0 Z0 S_en0 S_en1 S_en2 S_en3 S_en4 S_en5 S_A V_A F_en0 F_en1 F_en2 F_en3 F_en4 F_en5 E_en0 E_en1 E_en2 E_en3 E_en4 E_en5) hZ (hw _ (List.mem_of_getElem? (i := 7) rfl)) (hw _ (List.mem_of_getElem? (i := 6) rfl)) (by decide) (by decide)) (g := (mkF m 1 #[iv (4 : Int32), .unset, .unset] [(.int (4 : Int32))])) rfl (by rw [hml]; rfl) (argsL := [(.int (4 : Int32))]) (rest := []) (lenOf pd_0 rfl) rfl (by show 2 * 0 + _ ≤ _; exact Nat.le_of_eq rfl) (hb hby d1_1) (fun _ _ => ⟨rfl, e0, (by decide : 0 + 0 ≤ _), (by decide : 0 + 0 ≤ _)⟩)
    dsimp only [Pt.U, Pt.locs, Pt.cells, Pt.slots] at X17 l17 y17 z17 st17 hQ17
    subst l17 y17 z17
    obtain ⟨hv17, N17q, e17q⟩ := hQ17
    have N17 := Fr.app N0 N17q
    rw [show own_ref (4 : Int32) en0 en1 en2 en3 en4 en5 = .ref en4 from rfl] at hv17
    subst hv17
    have e17 : T17.heap = h0 := e17q
    obtain ⟨_, _, ⟨T18, L18, k18, n18⟩, -, X18, ⟨Lc18, hQ18, l18, y18, z18⟩, st18⟩ := Jvm.LawKit.callS X17 hx (y := (⟨"com/example/converge/converge/runtime/WireTypeForNumberPinLaw", "expected", "(I)Lcom/example/converge/converge/runtime/WireType;"⟩ : MethodName)) hown (mvT hZ (hw _ (List.mem_of_getElem? (i := 11) rfl))) (mvT hZ (hw _ (List.mem_of_getElem? (i := 12) rfl))) (mvT hZ (hw _ (List.mem_of_getElem? (i := 2) rfl))) (mvT hZ (hw _ (List.mem_of_getElem? (i := 13) rfl))) (by decide) (backOf (W := 0) (rm3 l Z a0 hw [] (4 : Int32) en0 en1 en2 en3 en4 en5 aA kA h0 n0 Z0 S_en0 S_en1 S_en2 S_en3 S_en4 S_en5 S_A V_A F_en0 F_en1 F_en2 F_en3 F_en4 F_en5 E_en0 E_en1 E_en2 E_en3 E_en4 E_en5) hZ (hw _ (List.mem_of_getElem? (i := 13) rfl)) (hw _ (List.mem_of_getElem? (i := 2) rfl)) (by decide) (by decide)) (g := (mkF m 6 #[iv (4 : Int32), rv en4, .unset] [(.int (4 : Int32))])) rfl (by rw [hml]; rfl) (argsL := [(.int (4 : Int32))]) (rest := []) (lenOf pd_0 rfl) rfl (by show 2 * 0 + _ ≤ _; exact Nat.le_of_eq rfl) (hb hby d1_6) (fun _ _ => ⟨rfl, e17, (by decide : 0 + 0 ≤ _), (by decide : 0 + 0 ≤ _)⟩)
    dsimp only [Pt.U, Pt.locs, Pt.cells, Pt.slots] at X18 l18 y18 z18 st18 hQ18
    subst l18 y18 z18
    obtain ⟨hv18, N18q, e18q⟩ := hQ18
    have N18 := Fr.app N17 N18q
    rw [show own_ref (4 : Int32) en0 en1 en2 en3 en4 en5 = .ref en4 from rfl] at hv18
    subst hv18
    have e18 : T18.heap = h0 := e18q
    obtain ⟨cq19, kq19, q19a, q19b, q19c⟩ := isOf hZ e18 E_en4
    obtain ⟨_, _, ⟨T19, L19, k19, n19⟩, -, X19, ⟨Lc19, hQ19, l19, y19, z19⟩, st19⟩ := X18.virtualBack hx (y := (⟨"com/example/converge/converge/runtime/WireType", "getNumber", "()I"⟩ : MethodName)) (z := (⟨"com/example/converge/converge/runtime/WireType", "getNumber", "()I"⟩ : MethodName)) hown (mvT hZ (hw _ (List.mem_of_getElem? (i := 15) rfl))) (mvT hZ (hw _ (List.mem_of_getElem? (i := 16) rfl))) (notFace_of_selects (args := #[]) (mvT hZ (hw _ (List.mem_of_getElem? (i := 18) rfl)))) (mvT hZ (hw _ (List.mem_of_getElem? (i := 18) rfl))) (mvT hZ (hw _ (List.mem_of_getElem? (i := 17) rfl))) (by decide) (backOf (W := 0) (rm4 l Z a0 hw [] en4 (4 : Int32) h0 n0 Z0 F_en4) hZ (hw _ (List.mem_of_getElem? (i := 19) rfl)) (hw _ (List.mem_of_getElem? (i := 6) rfl)) (by decide) (by decide)) q19a q19c (g := (mkF m 37 #[iv (4 : Int32), rv en4, rv en4] [(.ref en4)])) rfl (by rw [hml]; rfl) (Steps.refl _) (argsL := []) (rest := []) (lenOf pd_1 rfl) rfl (by show 2 * 0 + _ ≤ _; exact Nat.le_of_eq rfl) (hb hby d1_37) (fun _ _ => ⟨rfl, e18, (by decide : 0 + 0 ≤ _), (by decide : 0 + 0 ≤ _)⟩)
    dsimp only [Pt.U, Pt.locs, Pt.cells, Pt.slots] at X19 l19 y19 z19 st19 hQ19
    subst l19 y19 z19
    obtain ⟨rfl, N19q, e19q⟩ := hQ19
    have N19 := Fr.app N18 N19q
    have e19 : T19.heap = h0 := e19q
    have pre20 : ∀ t, own_S p e below T19 m 49 #[iv (4 : Int32), rv en4, rv en4] [(.int (1 : Int32))] t → Steps p.tables e below (s₁.setTop (entryFrame m #[(.int (4 : Int32))] 3)) t := fun t k => pre0 t (by
      show own_S p e below s₁ m 0 #[iv (4 : Int32), .unset, .unset] [] _
      refine XS.iloadN X0.here hx rfl (hb hby d1_0) rfl ?_
      show own_S p e below s₁ m 1 #[iv (4 : Int32), .unset, .unset] [(.int (4 : Int32))] _
      refine st17 _ ?_
      show own_S p e below T17 m 4 #[iv (4 : Int32), .unset, .unset] [(.ref en4)] _
      refine XS.astoreN X17.here hx rfl (hb hby d1_4) rfl rfl (l' := #[iv (4 : Int32), rv en4, .unset]) rfl ?_
      show own_S p e below T17 m 5 #[iv (4 : Int32), rv en4, .unset] [] _
      refine XS.iloadN X17.here hx rfl (hb hby d1_5) rfl ?_
      show own_S p e below T17 m 6 #[iv (4 : Int32), rv en4, .unset] [(.int (4 : Int32))] _
      refine st18 _ ?_
      show own_S p e below T18 m 9 #[iv (4 : Int32), rv en4, .unset] [(.ref en4)] _
      refine XS.astoreN X18.here hx rfl (hb hby d1_9) rfl rfl (l' := #[iv (4 : Int32), rv en4, rv en4]) rfl ?_
      show own_S p e below T18 m 10 #[iv (4 : Int32), rv en4, rv en4] [] _
      refine XS.aloadN X18.here hx rfl (hb hby d1_10) rfl rfl ?_
      show own_S p e below T18 m 11 #[iv (4 : Int32), rv en4, rv en4] [(.ref en4)] _
      refine XS.aloadN X18.here hx rfl (hb hby d1_11) rfl rfl ?_
      show own_S p e below T18 m 12 #[iv (4 : Int32), rv en4, rv en4] [(.ref en4), (.ref en4)] _
      refine Jvm.RoadKit.acmp (g := (mkF m 12 #[iv (4 : Int32), rv en4, rv en4] [(.ref en4), (.ref en4)])) X18 hx rfl rfl rfl (pc0 := 12) (pc' := 17) (same := true) rfl (hb hby d1_12) rfl (decide_eq_true rfl) (by decide) (by decide) ?_
      show own_S p e below T18 m 17 #[iv (4 : Int32), rv en4, rv en4] [] _
      refine XS.aloadN X18.here hx rfl (hb hby d1_17) rfl rfl ?_
      show own_S p e below T18 m 18 #[iv (4 : Int32), rv en4, rv en4] [(.ref en4)] _
      refine XS.ifnonnullYes X18.here hx rfl (pc0 := 18) (pc' := 36) rfl (hb hby d1_18) rfl (by decide) (by decide) ?_
      show own_S p e below T18 m 36 #[iv (4 : Int32), rv en4, rv en4] [] _
      refine XS.aloadN X18.here hx rfl (hb hby d1_36) rfl rfl ?_
      show own_S p e below T18 m 37 #[iv (4 : Int32), rv en4, rv en4] [(.ref en4)] _
      refine st19.trans ?_
      show own_S p e below T19 m 40 #[iv (4 : Int32), rv en4, rv en4] [(.int (4 : Int32))] _
      refine XS.iloadN X19.here hx rfl (hb hby d1_40) rfl ?_
      show own_S p e below T19 m 41 #[iv (4 : Int32), rv en4, rv en4] [(.int (4 : Int32)), (.int (4 : Int32))] _
      refine XS.icmpNo X19.here hx rfl (hb hby d1_41) rfl (teq (by decide : (4 : Int32) = (4 : Int32))).2 ?_
      show own_S p e below T19 m 44 #[iv (4 : Int32), rv en4, rv en4] [] _
      refine XS.iconst X19.here hx rfl (hb hby d1_44) ?_
      show own_S p e below T19 m 45 #[iv (4 : Int32), rv en4, rv en4] [(.int (1 : Int32))] _
      refine XS.goto X19.here hx rfl (pc0 := 45) (pc' := 49) rfl (hb hby d1_45) (by decide) (by decide) ?_
      exact k)
    obtain ⟨fs, hr, hrun, hended, hW, hsame⟩ := X19.leave (v := some (.int (nar .boolean (1 : Int32)))) (fun h => by rw [Bd.returns] at h; cases h)
    refine ⟨_, _, pre20 _ ?_, hrun, hended, _, _, rfl, ?_, ⟨_, rfl⟩, hW, hsame.mono (by decide) (by decide)⟩
    · show own_S p e below T19 m 49 #[iv (4 : Int32), rv en4, rv en4] [(.int (1 : Int32))] _
      exact retN X19 hx (t := .boolean) Bd.returns (by simp) (hb hby d1_49) hr
    · show Q1 Z (4 : Int32) en0 en1 en2 en3 en4 en5 aA kA h0 n0 _ T19.heap _
      rw [e19]
      exact ⟨rfl, N19, rfl⟩
  ·  -- case
    obtain ⟨_, _, ⟨T21, L21, k21, n21⟩, -, X21, ⟨Lc21, hQ21, l21, y21, z21⟩, st21⟩ := Jvm.LawKit.callS X0 hx (y := (⟨"com/example/converge/converge/runtime/WireType", "forNumber", "(I)Lcom/example/converge/converge/runtime/WireType;"⟩ : MethodName)) hown (mvT hZ (hw _ (List.mem_of_getElem? (i := 4) rfl))) (mvT hZ (hw _ (List.mem_of_getElem? (i := 5) rfl))) (mvT hZ (hw _ (List.mem_of_getElem? (i := 6) rfl))) (mvT hZ (hw _ (List.mem_of_getElem? (i := 7) rfl))) (by decide) (backOf (W := 0) (rm2 l Z a0 hw [] (5 : Int32) en0 en1 en2 en3 en4 en5 aA kA h0 n0 Z0 S_en0 S_en1 S_en2 S_en3 S_en4 S_en5 S_A V_A F_en0 F_en1 F_en2 F_en3 F_en4 F_en5 E_en0 E_en1 E_en2 E_en3 E_en4 E_en5) hZ (hw _ (List.mem_of_getElem? (i := 7) rfl)) (hw _ (List.mem_of_getElem? (i := 6) rfl)) (by decide) (by decide)) (g := (mkF m 1 #[iv (5 : Int32), .unset, .unset] [(.int (5 : Int32))])) rfl (by rw [hml]; rfl) (argsL := [(.int (5 : Int32))]) (rest := []) (lenOf pd_0 rfl) rfl (by show 2 * 0 + _ ≤ _; exact Nat.le_of_eq rfl) (hb hby d1_1) (fun _ _ => ⟨rfl, e0, (by decide : 0 + 0 ≤ _), (by decide : 0 + 0 ≤ _)⟩)
    dsimp only [Pt.U, Pt.locs, Pt.cells, Pt.slots] at X21 l21 y21 z21 st21 hQ21
    subst l21 y21 z21
    obtain ⟨hv21, N21q, e21q⟩ := hQ21
    have N21 := Fr.app N0 N21q
    rw [show own_ref (5 : Int32) en0 en1 en2 en3 en4 en5 = .ref en5 from rfl] at hv21
    subst hv21
    have e21 : T21.heap = h0 := e21q
    obtain ⟨_, _, ⟨T22, L22, k22, n22⟩, -, X22, ⟨Lc22, hQ22, l22, y22, z22⟩, st22⟩ := Jvm.LawKit.callS X21 hx (y := (⟨"com/example/converge/converge/runtime/WireTypeForNumberPinLaw", "expected", "(I)Lcom/example/converge/converge/runtime/WireType;"⟩ : MethodName)) hown (mvT hZ (hw _ (List.mem_of_getElem? (i := 11) rfl))) (mvT hZ (hw _ (List.mem_of_getElem? (i := 12) rfl))) (mvT hZ (hw _ (List.mem_of_getElem? (i := 2) rfl))) (mvT hZ (hw _ (List.mem_of_getElem? (i := 13) rfl))) (by decide) (backOf (W := 0) (rm3 l Z a0 hw [] (5 : Int32) en0 en1 en2 en3 en4 en5 aA kA h0 n0 Z0 S_en0 S_en1 S_en2 S_en3 S_en4 S_en5 S_A V_A F_en0 F_en1 F_en2 F_en3 F_en4 F_en5 E_en0 E_en1 E_en2 E_en3 E_en4 E_en5) hZ (hw _ (List.mem_of_getElem? (i := 13) rfl)) (hw _ (List.mem_of_getElem? (i := 2) rfl)) (by decide) (by decide)) (g := (mkF m 6 #[iv (5 : Int32), rv en5, .unset] [(.int (5 : Int32))])) rfl (by rw [hml]; rfl) (argsL := [(.int (5 : Int32))]) (rest := []) (lenOf pd_0 rfl) rfl (by show 2 * 0 + _ ≤ _; exact Nat.le_of_eq rfl) (hb hby d1_6) (fun _ _ => ⟨rfl, e21, (by decide : 0 + 0 ≤ _), (by decide : 0 + 0 ≤ _)⟩)
    dsimp only [Pt.U, Pt.locs, Pt.cells, Pt.slots] at X22 l22 y22 z22 st22 hQ22
    subst l22 y22 z22
    obtain ⟨hv22, N22q, e22q⟩ := hQ22
    have N22 := Fr.app N21 N22q
    rw [show own_ref (5 : Int32) en0 en1 en2 en3 en4 en5 = .ref en5 from rfl] at hv22
    subst hv22
    have e22 : T22.heap = h0 := e22q
    obtain ⟨cq23, kq23, q23a, q23b, q23c⟩ := isOf hZ e22 E_en5
    obtain ⟨_, _, ⟨T23, L23, k23, n23⟩, -, X23, ⟨Lc23, hQ23, l23, y23, z23⟩, st23⟩ := X22.virtualBack hx (y := (⟨"com/example/converge/converge/runtime/WireType", "getNumber", "()I"⟩ : MethodName)) (z := (⟨"com/example/converge/converge/runtime/WireType", "getNumber", "()I"⟩ : MethodName)) hown (mvT hZ (hw _ (List.mem_of_getElem? (i := 15) rfl))) (mvT hZ (hw _ (List.mem_of_getElem? (i := 16) rfl))) (notFace_of_selects (args := #[]) (mvT hZ (hw _ (List.mem_of_getElem? (i := 18) rfl)))) (mvT hZ (hw _ (List.mem_of_getElem? (i := 18) rfl))) (mvT hZ (hw _ (List.mem_of_getElem? (i := 17) rfl))) (by decide) (backOf (W := 0) (rm4 l Z a0 hw [] en5 (5 : Int32) h0 n0 Z0 F_en5) hZ (hw _ (List.mem_of_getElem? (i := 19) rfl)) (hw _ (List.mem_of_getElem? (i := 6) rfl)) (by decide) (by decide)) q23a q23c (g := (mkF m 37 #[iv (5 : Int32), rv en5, rv en5] [(.ref en5)])) rfl (by rw [hml]; rfl) (Steps.refl _) (argsL := []) (rest := []) (lenOf pd_1 rfl) rfl (by show 2 * 0 + _ ≤ _; exact Nat.le_of_eq rfl) (hb hby d1_37) (fun _ _ => ⟨rfl, e22, (by decide : 0 + 0 ≤ _), (by decide : 0 + 0 ≤ _)⟩)
    dsimp only [Pt.U, Pt.locs, Pt.cells, Pt.slots] at X23 l23 y23 z23 st23 hQ23
    subst l23 y23 z23
    obtain ⟨rfl, N23q, e23q⟩ := hQ23
    have N23 := Fr.app N22 N23q
    have e23 : T23.heap = h0 := e23q
    have pre24 : ∀ t, own_S p e below T23 m 49 #[iv (5 : Int32), rv en5, rv en5] [(.int (1 : Int32))] t → Steps p.tables e below (s₁.setTop (entryFrame m #[(.int (5 : Int32))] 3)) t := fun t k => pre0 t (by
      show own_S p e below s₁ m 0 #[iv (5 : Int32), .unset, .unset] [] _
      refine XS.iloadN X0.here hx rfl (hb hby d1_0) rfl ?_
      show own_S p e below s₁ m 1 #[iv (5 : Int32), .unset, .unset] [(.int (5 : Int32))] _
      refine st21 _ ?_
      show own_S p e below T21 m 4 #[iv (5 : Int32), .unset, .unset] [(.ref en5)] _
      refine XS.astoreN X21.here hx rfl (hb hby d1_4) rfl rfl (l' := #[iv (5 : Int32), rv en5, .unset]) rfl ?_
      show own_S p e below T21 m 5 #[iv (5 : Int32), rv en5, .unset] [] _
      refine XS.iloadN X21.here hx rfl (hb hby d1_5) rfl ?_
      show own_S p e below T21 m 6 #[iv (5 : Int32), rv en5, .unset] [(.int (5 : Int32))] _
      refine st22 _ ?_
      show own_S p e below T22 m 9 #[iv (5 : Int32), rv en5, .unset] [(.ref en5)] _
      refine XS.astoreN X22.here hx rfl (hb hby d1_9) rfl rfl (l' := #[iv (5 : Int32), rv en5, rv en5]) rfl ?_
      show own_S p e below T22 m 10 #[iv (5 : Int32), rv en5, rv en5] [] _
      refine XS.aloadN X22.here hx rfl (hb hby d1_10) rfl rfl ?_
      show own_S p e below T22 m 11 #[iv (5 : Int32), rv en5, rv en5] [(.ref en5)] _
      refine XS.aloadN X22.here hx rfl (hb hby d1_11) rfl rfl ?_
      show own_S p e below T22 m 12 #[iv (5 : Int32), rv en5, rv en5] [(.ref en5), (.ref en5)] _
      refine Jvm.RoadKit.acmp (g := (mkF m 12 #[iv (5 : Int32), rv en5, rv en5] [(.ref en5), (.ref en5)])) X22 hx rfl rfl rfl (pc0 := 12) (pc' := 17) (same := true) rfl (hb hby d1_12) rfl (decide_eq_true rfl) (by decide) (by decide) ?_
      show own_S p e below T22 m 17 #[iv (5 : Int32), rv en5, rv en5] [] _
      refine XS.aloadN X22.here hx rfl (hb hby d1_17) rfl rfl ?_
      show own_S p e below T22 m 18 #[iv (5 : Int32), rv en5, rv en5] [(.ref en5)] _
      refine XS.ifnonnullYes X22.here hx rfl (pc0 := 18) (pc' := 36) rfl (hb hby d1_18) rfl (by decide) (by decide) ?_
      show own_S p e below T22 m 36 #[iv (5 : Int32), rv en5, rv en5] [] _
      refine XS.aloadN X22.here hx rfl (hb hby d1_36) rfl rfl ?_
      show own_S p e below T22 m 37 #[iv (5 : Int32), rv en5, rv en5] [(.ref en5)] _
      refine st23.trans ?_
      show own_S p e below T23 m 40 #[iv (5 : Int32), rv en5, rv en5] [(.int (5 : Int32))] _
      refine XS.iloadN X23.here hx rfl (hb hby d1_40) rfl ?_
      show own_S p e below T23 m 41 #[iv (5 : Int32), rv en5, rv en5] [(.int (5 : Int32)), (.int (5 : Int32))] _
      refine XS.icmpNo X23.here hx rfl (hb hby d1_41) rfl (teq (by decide : (5 : Int32) = (5 : Int32))).2 ?_
      show own_S p e below T23 m 44 #[iv (5 : Int32), rv en5, rv en5] [] _
      refine XS.iconst X23.here hx rfl (hb hby d1_44) ?_
      show own_S p e below T23 m 45 #[iv (5 : Int32), rv en5, rv en5] [(.int (1 : Int32))] _
      refine XS.goto X23.here hx rfl (pc0 := 45) (pc' := 49) rfl (hb hby d1_45) (by decide) (by decide) ?_
      exact k)
    obtain ⟨fs, hr, hrun, hended, hW, hsame⟩ := X23.leave (v := some (.int (nar .boolean (1 : Int32)))) (fun h => by rw [Bd.returns] at h; cases h)
    refine ⟨_, _, pre24 _ ?_, hrun, hended, _, _, rfl, ?_, ⟨_, rfl⟩, hW, hsame.mono (by decide) (by decide)⟩
    · show own_S p e below T23 m 49 #[iv (5 : Int32), rv en5, rv en5] [(.int (1 : Int32))] _
      exact retN X23 hx (t := .boolean) Bd.returns (by simp) (hb hby d1_49) hr
    · show Q1 Z (5 : Int32) en0 en1 en2 en3 en4 en5 aA kA h0 n0 _ T23.heap _
      rw [e23]
      exact ⟨rfl, N23, rfl⟩
  ·  -- case
    obtain ⟨_, _, ⟨T25, L25, k25, n25⟩, -, X25, ⟨Lc25, hQ25, l25, y25, z25⟩, st25⟩ := Jvm.LawKit.callS X0 hx (y := (⟨"com/example/converge/converge/runtime/WireType", "forNumber", "(I)Lcom/example/converge/converge/runtime/WireType;"⟩ : MethodName)) hown (mvT hZ (hw _ (List.mem_of_getElem? (i := 4) rfl))) (mvT hZ (hw _ (List.mem_of_getElem? (i := 5) rfl))) (mvT hZ (hw _ (List.mem_of_getElem? (i := 6) rfl))) (mvT hZ (hw _ (List.mem_of_getElem? (i := 7) rfl))) (by decide) (backOf (W := 0) (rm2 l Z a0 hw [] p1 en0 en1 en2 en3 en4 en5 aA kA h0 n0 Z0 S_en0 S_en1 S_en2 S_en3 S_en4 S_en5 S_A V_A F_en0 F_en1 F_en2 F_en3 F_en4 F_en5 E_en0 E_en1 E_en2 E_en3 E_en4 E_en5) hZ (hw _ (List.mem_of_getElem? (i := 7) rfl)) (hw _ (List.mem_of_getElem? (i := 6) rfl)) (by decide) (by decide)) (g := (mkF m 1 #[iv p1, .unset, .unset] [(.int p1)])) rfl (by rw [hml]; rfl) (argsL := [(.int p1)]) (rest := []) (lenOf pd_0 rfl) rfl (by show 2 * 0 + _ ≤ _; exact Nat.le_of_eq rfl) (hb hby d1_1) (fun _ _ => ⟨rfl, e0, (by decide : 0 + 0 ≤ _), (by decide : 0 + 0 ≤ _)⟩)
    dsimp only [Pt.U, Pt.locs, Pt.cells, Pt.slots] at X25 l25 y25 z25 st25 hQ25
    subst l25 y25 z25
    obtain ⟨hv25, N25q, e25q⟩ := hQ25
    have N25 := Fr.app N0 N25q
    rw [show own_ref p1 en0 en1 en2 en3 en4 en5 = .null from own_null hout en0 en1 en2 en3 en4 en5] at hv25
    subst hv25
    have e25 : T25.heap = h0 := e25q
    obtain ⟨_, _, ⟨T26, L26, k26, n26⟩, -, X26, ⟨Lc26, hQ26, l26, y26, z26⟩, st26⟩ := Jvm.LawKit.callS X25 hx (y := (⟨"com/example/converge/converge/runtime/WireTypeForNumberPinLaw", "expected", "(I)Lcom/example/converge/converge/runtime/WireType;"⟩ : MethodName)) hown (mvT hZ (hw _ (List.mem_of_getElem? (i := 11) rfl))) (mvT hZ (hw _ (List.mem_of_getElem? (i := 12) rfl))) (mvT hZ (hw _ (List.mem_of_getElem? (i := 2) rfl))) (mvT hZ (hw _ (List.mem_of_getElem? (i := 13) rfl))) (by decide) (backOf (W := 0) (rm3 l Z a0 hw [] p1 en0 en1 en2 en3 en4 en5 aA kA h0 n0 Z0 S_en0 S_en1 S_en2 S_en3 S_en4 S_en5 S_A V_A F_en0 F_en1 F_en2 F_en3 F_en4 F_en5 E_en0 E_en1 E_en2 E_en3 E_en4 E_en5) hZ (hw _ (List.mem_of_getElem? (i := 13) rfl)) (hw _ (List.mem_of_getElem? (i := 2) rfl)) (by decide) (by decide)) (g := (mkF m 6 #[iv p1, .val .null, .unset] [(.int p1)])) rfl (by rw [hml]; rfl) (argsL := [(.int p1)]) (rest := []) (lenOf pd_0 rfl) rfl (by show 2 * 0 + _ ≤ _; exact Nat.le_of_eq rfl) (hb hby d1_6) (fun _ _ => ⟨rfl, e25, (by decide : 0 + 0 ≤ _), (by decide : 0 + 0 ≤ _)⟩)
    dsimp only [Pt.U, Pt.locs, Pt.cells, Pt.slots] at X26 l26 y26 z26 st26 hQ26
    subst l26 y26 z26
    obtain ⟨hv26, N26q, e26q⟩ := hQ26
    have N26 := Fr.app N25 N26q
    rw [show own_ref p1 en0 en1 en2 en3 en4 en5 = .null from own_null hout en0 en1 en2 en3 en4 en5] at hv26
    subst hv26
    have e26 : T26.heap = h0 := e26q
    have pre28 : ∀ t, own_S p e below T26 m 22 #[iv p1, .val .null, .val .null] [(.int p1)] t → Steps p.tables e below (s₁.setTop (entryFrame m #[(.int p1)] 3)) t := fun t k => pre0 t (by
      show own_S p e below s₁ m 0 #[iv p1, .unset, .unset] [] _
      refine XS.iloadN X0.here hx rfl (hb hby d1_0) rfl ?_
      show own_S p e below s₁ m 1 #[iv p1, .unset, .unset] [(.int p1)] _
      refine st25 _ ?_
      show own_S p e below T25 m 4 #[iv p1, .unset, .unset] [.null] _
      refine XS.astoreN X25.here hx rfl (hb hby d1_4) rfl rfl (l' := #[iv p1, .val .null, .unset]) rfl ?_
      show own_S p e below T25 m 5 #[iv p1, .val .null, .unset] [] _
      refine XS.iloadN X25.here hx rfl (hb hby d1_5) rfl ?_
      show own_S p e below T25 m 6 #[iv p1, .val .null, .unset] [(.int p1)] _
      refine st26 _ ?_
      show own_S p e below T26 m 9 #[iv p1, .val .null, .unset] [.null] _
      refine XS.astoreN X26.here hx rfl (hb hby d1_9) rfl rfl (l' := #[iv p1, .val .null, .val .null]) rfl ?_
      show own_S p e below T26 m 10 #[iv p1, .val .null, .val .null] [] _
      refine XS.aloadN X26.here hx rfl (hb hby d1_10) rfl rfl ?_
      show own_S p e below T26 m 11 #[iv p1, .val .null, .val .null] [.null] _
      refine XS.aloadN X26.here hx rfl (hb hby d1_11) rfl rfl ?_
      show own_S p e below T26 m 12 #[iv p1, .val .null, .val .null] [.null, .null] _
      refine Jvm.RoadKit.acmp (g := (mkF m 12 #[iv p1, .val .null, .val .null] [.null, .null])) X26 hx rfl rfl rfl (pc0 := 12) (pc' := 17) (same := true) rfl (hb hby d1_12) rfl (decide_eq_true rfl) (by decide) (by decide) ?_
      show own_S p e below T26 m 17 #[iv p1, .val .null, .val .null] [] _
      refine XS.aloadN X26.here hx rfl (hb hby d1_17) rfl rfl ?_
      show own_S p e below T26 m 18 #[iv p1, .val .null, .val .null] [.null] _
      refine XS.ifnonnullNo X26.here hx rfl (hb hby d1_18) rfl ?_
      show own_S p e below T26 m 21 #[iv p1, .val .null, .val .null] [] _
      refine XS.iloadN X26.here hx rfl (hb hby d1_21) rfl ?_
      exact k)
    by_cases hc22_27 : p1 < (0 : Int32)
    ·  -- pc 22 yes
      have pre29 : ∀ t, own_S p e below T26 m 35 #[iv p1, .val .null, .val .null] [(.int (1 : Int32))] t → Steps p.tables e below (s₁.setTop (entryFrame m #[(.int p1)] 3)) t := fun t k => pre28 t (by
        show own_S p e below T26 m 22 #[iv p1, .val .null, .val .null] [(.int p1)] _
        refine XS.ifYes X26.here hx rfl (pc0 := 22) (pc' := 30) rfl (hb hby d1_22) rfl ((if0 _ _).trans (tlt hc22_27).1) (by decide) (by decide) ?_
        show own_S p e below T26 m 30 #[iv p1, .val .null, .val .null] [] _
        refine XS.iconst X26.here hx rfl (hb hby d1_30) ?_
        show own_S p e below T26 m 31 #[iv p1, .val .null, .val .null] [(.int (1 : Int32))] _
        refine XS.goto X26.here hx rfl (pc0 := 31) (pc' := 35) rfl (hb hby d1_31) (by decide) (by decide) ?_
        exact k)
      obtain ⟨fs, hr, hrun, hended, hW, hsame⟩ := X26.leave (v := some (.int (nar .boolean (1 : Int32)))) (fun h => by rw [Bd.returns] at h; cases h)
      refine ⟨_, _, pre29 _ ?_, hrun, hended, _, _, rfl, ?_, ⟨_, rfl⟩, hW, hsame.mono (by decide) (by decide)⟩
      · show own_S p e below T26 m 35 #[iv p1, .val .null, .val .null] [(.int (1 : Int32))] _
        exact retN X26 hx (t := .boolean) Bd.returns (by simp) (hb hby d1_35) hr
      · show Q1 Z p1 en0 en1 en2 en3 en4 en5 aA kA h0 n0 _ T26.heap _
        rw [e26]
        exact ⟨rfl, N26, rfl⟩
    ·  -- pc 22 no
      have pre31 : ∀ t, own_S p e below T26 m 27 #[iv p1, .val .null, .val .null] [(.int (5 : Int32)), (.int p1)] t → Steps p.tables e below (s₁.setTop (entryFrame m #[(.int p1)] 3)) t := fun t k => pre28 t (by
        show own_S p e below T26 m 22 #[iv p1, .val .null, .val .null] [(.int p1)] _
        refine XS.ifNo X26.here hx rfl (hb hby d1_22) rfl ((if0 _ _).trans (flt hc22_27).1) ?_
        show own_S p e below T26 m 25 #[iv p1, .val .null, .val .null] [] _
        refine XS.iloadN X26.here hx rfl (hb hby d1_25) rfl ?_
        show own_S p e below T26 m 26 #[iv p1, .val .null, .val .null] [(.int p1)] _
        refine XS.iconst X26.here hx rfl (hb hby d1_26) ?_
        exact k)
      by_cases hc27_30 : (5 : Int32) < p1
      ·  -- pc 27 yes
        have pre32 : ∀ t, own_S p e below T26 m 35 #[iv p1, .val .null, .val .null] [(.int (1 : Int32))] t → Steps p.tables e below (s₁.setTop (entryFrame m #[(.int p1)] 3)) t := fun t k => pre31 t (by
          show own_S p e below T26 m 27 #[iv p1, .val .null, .val .null] [(.int (5 : Int32)), (.int p1)] _
          refine XS.icmpNo X26.here hx rfl (hb hby d1_27) rfl (tlt hc27_30).2.2.2 ?_
          show own_S p e below T26 m 30 #[iv p1, .val .null, .val .null] [] _
          refine XS.iconst X26.here hx rfl (hb hby d1_30) ?_
          show own_S p e below T26 m 31 #[iv p1, .val .null, .val .null] [(.int (1 : Int32))] _
          refine XS.goto X26.here hx rfl (pc0 := 31) (pc' := 35) rfl (hb hby d1_31) (by decide) (by decide) ?_
          exact k)
        obtain ⟨fs, hr, hrun, hended, hW, hsame⟩ := X26.leave (v := some (.int (nar .boolean (1 : Int32)))) (fun h => by rw [Bd.returns] at h; cases h)
        refine ⟨_, _, pre32 _ ?_, hrun, hended, _, _, rfl, ?_, ⟨_, rfl⟩, hW, hsame.mono (by decide) (by decide)⟩
        · show own_S p e below T26 m 35 #[iv p1, .val .null, .val .null] [(.int (1 : Int32))] _
          exact retN X26 hx (t := .boolean) Bd.returns (by simp) (hb hby d1_35) hr
        · show Q1 Z p1 en0 en1 en2 en3 en4 en5 aA kA h0 n0 _ T26.heap _
          rw [e26]
          exact ⟨rfl, N26, rfl⟩
      ·  -- pc 27 no
        exfalso
        rcases hout with q | q
        · exact hc22_27 q
        · exact q (own_le hc27_30)
theorem ef_0 (m : MethodId) (p1 : Int32) (p2 : Int32) : entryFrame m #[(.int p1), (.int p2)] maxLocals = mkF m 0 #[iv p1, iv p2, .unset] [] := by first | (simp [entryFrame, mkF, argsToLocals, Value.category, maxLocals]; done) | rfl
def Q0 (Z : State) (p1 : Int32) (p2 : Int32) (en0 : Addr) (en1 : Addr) (en2 : Addr) (en3 : Addr) (en4 : Addr) (en5 : Addr) (aA : Addr) (kA : ClassId) (h0 : Heap) (n0 : Nat) (v : Option Value) (h : Heap) (L : List Loc) : Prop := v = some (.int 1) ∧ Fr n0 L
theorem pd_2 : parseMethodDescriptor "(I)Z" = some ⟨[.int], some .boolean⟩ := by decide +kernel
set_option maxRecDepth 65536 in
set_option maxHeartbeats 40000000 in
theorem rm0 (l : Launch) (Z : State) (a0 : Array Value) (hw : ∀ d ∈ tables_1, d.before a0 Z = true) (ws : List Jvm.Cond) (p1 : Int32) (p2 : Int32) (en0 : Addr) (en1 : Addr) (en2 : Addr) (en3 : Addr) (en4 : Addr) (en5 : Addr) (aA : Addr) (kA : ClassId) (h0 : Heap) (n0 : Nat) (Z0 : n0 ≤ h0.size) (S_en0 : Sta Z h0 "com/example/converge/converge/runtime/WireType" "VARINT" "Lcom/example/converge/converge/runtime/WireType;" (.ref en0)) (S_en1 : Sta Z h0 "com/example/converge/converge/runtime/WireType" "I64" "Lcom/example/converge/converge/runtime/WireType;" (.ref en1)) (S_en2 : Sta Z h0 "com/example/converge/converge/runtime/WireType" "LEN" "Lcom/example/converge/converge/runtime/WireType;" (.ref en2)) (S_en3 : Sta Z h0 "com/example/converge/converge/runtime/WireType" "SGROUP" "Lcom/example/converge/converge/runtime/WireType;" (.ref en3)) (S_en4 : Sta Z h0 "com/example/converge/converge/runtime/WireType" "EGROUP" "Lcom/example/converge/converge/runtime/WireType;" (.ref en4)) (S_en5 : Sta Z h0 "com/example/converge/converge/runtime/WireType" "I32" "Lcom/example/converge/converge/runtime/WireType;" (.ref en5)) (S_A : Sta Z h0 "com/example/converge/converge/runtime/WireType" "BY_NUMBER" "[Lcom/example/converge/converge/runtime/WireType;" (.ref aA)) (V_A : Arv Z h0 aA kA (.object "com/example/converge/converge/runtime/WireType") (6 : Int32) [(.ref en0), (.ref en1), (.ref en2), (.ref en3), (.ref en4), (.ref en5)] .null) (F_en0 : Fld Z h0 en0 "com/example/converge/converge/runtime/WireType" "_number" "I" (.int (0 : Int32))) (F_en1 : Fld Z h0 en1 "com/example/converge/converge/runtime/WireType" "_number" "I" (.int (1 : Int32))) (F_en2 : Fld Z h0 en2 "com/example/converge/converge/runtime/WireType" "_number" "I" (.int (2 : Int32))) (F_en3 : Fld Z h0 en3 "com/example/converge/converge/runtime/WireType" "_number" "I" (.int (3 : Int32))) (F_en4 : Fld Z h0 en4 "com/example/converge/converge/runtime/WireType" "_number" "I" (.int (4 : Int32))) (F_en5 : Fld Z h0 en5 "com/example/converge/converge/runtime/WireType" "_number" "I" (.int (5 : Int32))) (E_en0 : Exa Z h0 en0 "com/example/converge/converge/runtime/WireType") (E_en1 : Exa Z h0 en1 "com/example/converge/converge/runtime/WireType") (E_en2 : Exa Z h0 en2 "com/example/converge/converge/runtime/WireType") (E_en3 : Exa Z h0 en3 "com/example/converge/converge/runtime/WireType") (E_en4 : Exa Z h0 en4 "com/example/converge/converge/runtime/WireType") (E_en5 : Exa Z h0 en5 "com/example/converge/converge/runtime/WireType") :
    MetFree l x (head1 (Jvm.Cond.code x code maxLocals ret :: ws) room_1) (fun a U => a = #[(.int p1), (.int p2)] ∧ Z.Warmed39 U.vm ∧ U.heap = h0) (fun _ _ _ _ _ => True) (fun _ U o U' => ∃ v L, o = .returned v ∧ Q0 Z p1 p2 en0 en1 en2 en3 en4 en5 aA kA h0 n0 v U'.heap L ∧ FrameEnd U o U' L room_1.cells room_1.slots) := by
  refine MetFree.of_bodySF (plainFor_of_name pn_1) hisR ?_
  intro p e s m args below meth c s₁ Bd hml0 hP hK
  obtain ⟨rfl, hZ, hh⟩ := hP
  have hx := Bd.exec
  have hby := Bd.bytes
  have hml : c.maxLocals = 3 := hml0
  have hown : s.vm.findClass "com/example/converge/converge/runtime/WireTypeForNumberPinLaw" = some m.cls := findClass_of_methodNamed Bd.named
  have hnm := (name_of_methodNamed Bd.named Bd.method).1
  have X0 : Stand p l e room_1 s m #[(.int p1), (.int p2)] below meth c s₁ [] 0 0 := Stand.of_body Bd
  have e0 : s₁.heap = h0 := by rw [← hh, Bd.state]; rfl
  have N0 := Fr.nil n0
  have pre0 : ∀ t, Steps p.tables e below (s₁.setTop (mkF m 0 #[iv p1, iv p2, .unset] [])) t → Steps p.tables e below (s₁.setTop (entryFrame m #[(.int p1), (.int p2)] maxLocals)) t := fun t k => castTop (ef_0 m p1 p2) k
  obtain ⟨_, _, ⟨T1, L1, k1, n1⟩, -, X1, ⟨Lc1, hQ1, l1, y1, z1⟩, st1⟩ := Jvm.LawKit.callS X0 hx (y := (⟨"com/example/converge/converge/runtime/WireTypeForNumberPinLaw", "check", "(I)Z"⟩ : MethodName)) hown (mvT hZ (hw _ (List.mem_of_getElem? (i := 0) rfl))) (mvT hZ (hw _ (List.mem_of_getElem? (i := 1) rfl))) (mvT hZ (hw _ (List.mem_of_getElem? (i := 2) rfl))) (mvT hZ (hw _ (List.mem_of_getElem? (i := 3) rfl))) (by decide) (backOf (W := 0) (rm1 l Z a0 hw [] p1 en0 en1 en2 en3 en4 en5 aA kA h0 n0 Z0 S_en0 S_en1 S_en2 S_en3 S_en4 S_en5 S_A V_A F_en0 F_en1 F_en2 F_en3 F_en4 F_en5 E_en0 E_en1 E_en2 E_en3 E_en4 E_en5) hZ (hw _ (List.mem_of_getElem? (i := 3) rfl)) (hw _ (List.mem_of_getElem? (i := 2) rfl)) (by decide) (by decide)) (g := (mkF m 8 #[iv p1, iv p2, iv ((p2 &&& (7 : Int32)) - (1 : Int32))] [(.int p1)])) rfl (by rw [hml]; rfl) (argsL := [(.int p1)]) (rest := []) (lenOf pd_2 rfl) rfl (by show 2 * 0 + _ ≤ _; exact Nat.le_of_eq rfl) (hb hby at_8) (fun _ _ => ⟨rfl, e0, (by decide : 0 + 0 ≤ _), (by decide : 0 + 0 ≤ _)⟩)
  dsimp only [Pt.U, Pt.locs, Pt.cells, Pt.slots] at X1 l1 y1 z1 st1 hQ1
  subst l1 y1 z1
  obtain ⟨rfl, N1q, e1q⟩ := hQ1
  have N1 := Fr.app N0 N1q
  have e1 : T1.heap = h0 := e1q
  obtain ⟨_, _, ⟨T2, L2, k2, n2⟩, -, X2, ⟨Lc2, hQ2, l2, y2, z2⟩, st2⟩ := Jvm.LawKit.callS X1 hx (y := (⟨"com/example/converge/converge/runtime/WireTypeForNumberPinLaw", "check", "(I)Z"⟩ : MethodName)) hown (mvT hZ (hw _ (List.mem_of_getElem? (i := 0) rfl))) (mvT hZ (hw _ (List.mem_of_getElem? (i := 1) rfl))) (mvT hZ (hw _ (List.mem_of_getElem? (i := 2) rfl))) (mvT hZ (hw _ (List.mem_of_getElem? (i := 3) rfl))) (by decide) (backOf (W := 0) (rm1 l Z a0 hw [] ((p2 &&& (7 : Int32)) - (1 : Int32)) en0 en1 en2 en3 en4 en5 aA kA h0 n0 Z0 S_en0 S_en1 S_en2 S_en3 S_en4 S_en5 S_A V_A F_en0 F_en1 F_en2 F_en3 F_en4 F_en5 E_en0 E_en1 E_en2 E_en3 E_en4 E_en5) hZ (hw _ (List.mem_of_getElem? (i := 3) rfl)) (hw _ (List.mem_of_getElem? (i := 2) rfl)) (by decide) (by decide)) (g := (mkF m 15 #[iv p1, iv p2, iv ((p2 &&& (7 : Int32)) - (1 : Int32))] [(.int ((p2 &&& (7 : Int32)) - (1 : Int32)))])) rfl (by rw [hml]; rfl) (argsL := [(.int ((p2 &&& (7 : Int32)) - (1 : Int32)))]) (rest := []) (lenOf pd_2 rfl) rfl (by show 2 * 0 + _ ≤ _; exact Nat.le_of_eq rfl) (hb hby at_15) (fun _ _ => ⟨rfl, e1, (by decide : 0 + 0 ≤ _), (by decide : 0 + 0 ≤ _)⟩)
  dsimp only [Pt.U, Pt.locs, Pt.cells, Pt.slots] at X2 l2 y2 z2 st2 hQ2
  subst l2 y2 z2
  obtain ⟨rfl, N2q, e2q⟩ := hQ2
  have N2 := Fr.app N1 N2q
  have e2 : T2.heap = h0 := e2q
  have pre3 : ∀ t, own_S p e below T2 m 26 #[iv p1, iv p2, iv ((p2 &&& (7 : Int32)) - (1 : Int32))] [(.int (1 : Int32))] t → Steps p.tables e below (s₁.setTop (entryFrame m #[(.int p1), (.int p2)] maxLocals)) t := fun t k => pre0 t (by
    show own_S p e below s₁ m 0 #[iv p1, iv p2, .unset] [] _
    refine XS.iloadN X0.here hx rfl (hb hby at_0) rfl ?_
    show own_S p e below s₁ m 1 #[iv p1, iv p2, .unset] [(.int p2)] _
    refine XS.bipush X0.here hx rfl (hb hby at_1) ?_
    show own_S p e below s₁ m 3 #[iv p1, iv p2, .unset] [(.int (7 : Int32)), (.int p2)] _
    refine XS.iand X0.here hx rfl (hb hby at_3) rfl ?_
    show own_S p e below s₁ m 4 #[iv p1, iv p2, .unset] [(.int (p2 &&& (7 : Int32)))] _
    refine XS.iconst X0.here hx rfl (hb hby at_4) ?_
    show own_S p e below s₁ m 5 #[iv p1, iv p2, .unset] [(.int (1 : Int32)), (.int (p2 &&& (7 : Int32)))] _
    refine XS.isub X0.here hx rfl (hb hby at_5) rfl ?_
    show own_S p e below s₁ m 6 #[iv p1, iv p2, .unset] [(.int ((p2 &&& (7 : Int32)) - (1 : Int32)))] _
    refine XS.istoreN X0.here hx rfl (hb hby at_6) rfl (l' := #[iv p1, iv p2, iv ((p2 &&& (7 : Int32)) - (1 : Int32))]) rfl ?_
    show own_S p e below s₁ m 7 #[iv p1, iv p2, iv ((p2 &&& (7 : Int32)) - (1 : Int32))] [] _
    refine XS.iloadN X0.here hx rfl (hb hby at_7) rfl ?_
    show own_S p e below s₁ m 8 #[iv p1, iv p2, iv ((p2 &&& (7 : Int32)) - (1 : Int32))] [(.int p1)] _
    refine st1 _ ?_
    show own_S p e below T1 m 11 #[iv p1, iv p2, iv ((p2 &&& (7 : Int32)) - (1 : Int32))] [(.int (1 : Int32))] _
    refine XS.ifNo X1.here hx rfl (hb hby at_11) rfl ((if0 _ _).trans (feq (by decide : ¬ ((1 : Int32) = (0 : Int32)))).1) ?_
    show own_S p e below T1 m 14 #[iv p1, iv p2, iv ((p2 &&& (7 : Int32)) - (1 : Int32))] [] _
    refine XS.iloadN X1.here hx rfl (hb hby at_14) rfl ?_
    show own_S p e below T1 m 15 #[iv p1, iv p2, iv ((p2 &&& (7 : Int32)) - (1 : Int32))] [(.int ((p2 &&& (7 : Int32)) - (1 : Int32)))] _
    refine st2 _ ?_
    show own_S p e below T2 m 18 #[iv p1, iv p2, iv ((p2 &&& (7 : Int32)) - (1 : Int32))] [(.int (1 : Int32))] _
    refine XS.ifNo X2.here hx rfl (hb hby at_18) rfl ((if0 _ _).trans (feq (by decide : ¬ ((1 : Int32) = (0 : Int32)))).1) ?_
    show own_S p e below T2 m 21 #[iv p1, iv p2, iv ((p2 &&& (7 : Int32)) - (1 : Int32))] [] _
    refine XS.iconst X2.here hx rfl (hb hby at_21) ?_
    show own_S p e below T2 m 22 #[iv p1, iv p2, iv ((p2 &&& (7 : Int32)) - (1 : Int32))] [(.int (1 : Int32))] _
    refine XS.goto X2.here hx rfl (pc0 := 22) (pc' := 26) rfl (hb hby at_22) (by decide) (by decide) ?_
    exact k)
  obtain ⟨fs, hr, hrun, hended, hW, hsame⟩ := X2.leave (v := some (.int (nar .boolean (1 : Int32)))) (fun h => by rw [Bd.returns] at h; cases h)
  refine ⟨_, _, pre3 _ ?_, hrun, hended, _, _, rfl, ?_, ⟨_, rfl⟩, hW, hsame.mono (by decide) (by decide)⟩
  · show own_S p e below T2 m 26 #[iv p1, iv p2, iv ((p2 &&& (7 : Int32)) - (1 : Int32))] [(.int (1 : Int32))] _
    exact retN X2 hx (t := .boolean) Bd.returns (by simp) (hb hby at_26) hr
  · show Q0 Z p1 p2 en0 en1 en2 en3 en4 en5 aA kA h0 n0 _ T2.heap _
    rw [e2]
    exact ⟨rfl, N2⟩
set_option maxRecDepth 65536 in
set_option maxHeartbeats 40000000 in
theorem comes_1 {Post : Tables → Env → Array Value → State → Outcome → State → Prop} (hpost : ∀ tb e args s v u, (limb_1_1.after args s (.returned v) u = true ∧ limb_1_2.after args s (.returned v) u = true ∧ True) → FrameEnd s (.returned v) u (Jvm.fieldLocs frame_1_writes args s ++ Jvm.arrayLocs frame_1_arrays args s ++ Jvm.staticLocs frame_1_statics s) 0 0 → Post tb e args s (.returned v) u) :
    ArmFor flags0 classFile x code maxLocals ret World_1 tables_1 room_1 Calls_1 rest_1 Pre_1 Post := by
  intro l hfl _ _ p e ha hc hk s m args below hf hA hF happ hP
  obtain ⟨hcalls, hrest, hpre⟩ := hP
  obtain ⟨-, -, -, hnamed, -, -, -, hat⟩ := (Spec.applies_iff hf).mp happ
  obtain ⟨hg, hn⟩ := and_e (Cond.before_iff.mp (show (Jvm.Cond.and given_1 narrow_1).before args s = true from hpre))
  obtain ⟨g1, g2⟩ := and_e hg
  obtain ⟨g3, g4⟩ := and_e g2
  obtain ⟨w0, w1, rfl⟩ : ∃ w0 w1 : Value, args = #[w0, w1] := by
    have hs : args.size = 2 := by simpa [Cond.value, given_1] using g1
    obtain ⟨L⟩ := args
    match L, hs with
    | [w0, w1], _ => exact ⟨w0, w1, rfl⟩
  have hw := fun d (hd : d ∈ tables_1) => atoms_spec (ws := Jvm.Cond.code x code maxLocals ret :: tables_1) hat d (List.mem_cons_of_mem _ hd)
  have hfit : Fit s := fun {y c} hc i hi => by
    obtain ⟨ha, rfl⟩ := Array.getElem?_eq_some_iff.mp hc
    have q := List.all_eq_true.mp ((Array.all_eq_true_iff_forall_mem.mp hF) _ (Array.getElem_mem ha)) i (List.mem_range.mpr hi)
    simpa [Array.getElem?_eq_getElem hi] using q
  obtain ⟨i0, ei0⟩ := is_v g3
  obtain rfl : w0 = (.int i0) := Option.some.inj ei0
  obtain ⟨i1, ei1⟩ := is_v g4
  obtain rfl : w1 = (.int i1) := Option.some.inj ei1
  obtain ⟨n0, hn0⟩ := and_e hn
  obtain ⟨n1, hn1⟩ := and_e hn0
  obtain ⟨n2, hn2⟩ := and_e hn1
  obtain ⟨n3, hn3⟩ := and_e hn2
  obtain ⟨n4, hn4⟩ := and_e hn3
  obtain ⟨n5, hn5⟩ := and_e hn4
  obtain ⟨n6, hn6⟩ := and_e hn5
  obtain ⟨n7, hn7⟩ := and_e hn6
  obtain ⟨n8, hn8⟩ := and_e hn7
  obtain ⟨n9, hn9⟩ := and_e hn8
  obtain ⟨n10, hn10⟩ := and_e hn9
  obtain ⟨n11, hn11⟩ := and_e hn10
  obtain ⟨n12, hn12⟩ := and_e hn11
  obtain ⟨n13, hn13⟩ := and_e hn12
  obtain ⟨n14, hn14⟩ := and_e hn13
  obtain ⟨n15, hn15⟩ := and_e hn14
  obtain ⟨n16, hn16⟩ := and_e hn15
  obtain ⟨n17, hn17⟩ := and_e hn16
  obtain ⟨n18, hn18⟩ := and_e hn17
  have n19 := hn18
  obtain ⟨en0, ev_en0⟩ := exa_v n2
  have E_en0 := Exa.start ev_en0 n2
  have S_en0 := Sta.start ev_en0 (Or.inr ⟨(hw _ (List.mem_of_getElem? (i := 6) rfl)), (hw _ (List.mem_of_getElem? (i := 10) rfl))⟩)
  have F_en0 := Fld.start ((fld_at ev_en0).symm.trans (own_eqI n4))
  obtain ⟨en1, ev_en1⟩ := exa_v n17
  have E_en1 := Exa.start ev_en1 n17
  have S_en1 := Sta.start ev_en1 (Or.inr ⟨(hw _ (List.mem_of_getElem? (i := 6) rfl)), (hw _ (List.mem_of_getElem? (i := 30) rfl))⟩)
  have F_en1 := Fld.start ((fld_at ev_en1).symm.trans (own_eqI n19))
  obtain ⟨en2, ev_en2⟩ := exa_v n5
  have E_en2 := Exa.start ev_en2 n5
  have S_en2 := Sta.start ev_en2 (Or.inr ⟨(hw _ (List.mem_of_getElem? (i := 6) rfl)), (hw _ (List.mem_of_getElem? (i := 22) rfl))⟩)
  have F_en2 := Fld.start ((fld_at ev_en2).symm.trans (own_eqI n7))
  obtain ⟨en3, ev_en3⟩ := exa_v n8
  have E_en3 := Exa.start ev_en3 n8
  have S_en3 := Sta.start ev_en3 (Or.inr ⟨(hw _ (List.mem_of_getElem? (i := 6) rfl)), (hw _ (List.mem_of_getElem? (i := 24) rfl))⟩)
  have F_en3 := Fld.start ((fld_at ev_en3).symm.trans (own_eqI n10))
  obtain ⟨en4, ev_en4⟩ := exa_v n11
  have E_en4 := Exa.start ev_en4 n11
  have S_en4 := Sta.start ev_en4 (Or.inr ⟨(hw _ (List.mem_of_getElem? (i := 6) rfl)), (hw _ (List.mem_of_getElem? (i := 26) rfl))⟩)
  have F_en4 := Fld.start ((fld_at ev_en4).symm.trans (own_eqI n13))
  obtain ⟨en5, ev_en5⟩ := exa_v n14
  have E_en5 := Exa.start ev_en5 n14
  have S_en5 := Sta.start ev_en5 (Or.inr ⟨(hw _ (List.mem_of_getElem? (i := 6) rfl)), (hw _ (List.mem_of_getElem? (i := 28) rfl))⟩)
  have F_en5 := Fld.start ((fld_at ev_en5).symm.trans (own_eqI n16))
  obtain ⟨aA, ev_A⟩ := arr_v n0
  have S_A := Sta.start ev_A (Or.inr ⟨(hw _ (List.mem_of_getElem? (i := 6) rfl)), (hw _ (List.mem_of_getElem? (i := 9) rfl))⟩)
  obtain ⟨clA, AA⟩ := Arr.start ev_A n0
  obtain ⟨aA', clA', q1, q2, q3⟩ := Term.length_spec (own_eqI n1)
  cases ev_A.symm.trans q1
  cases AA.1.symm.trans (State.arrayAt?_spec q2).1
  have q4 := Value.int.inj q3
  have w0e := (elem_in (own_eqR n3 ev_en0) ev_A (show (Term.int (0 : Int32)).eval _ s none [] s = some (.int (0 : Int32)) from rfl) AA.1).2
  have w1e := (elem_in (own_eqR n18 ev_en1) ev_A (show (Term.int (1 : Int32)).eval _ s none [] s = some (.int (1 : Int32)) from rfl) AA.1).2
  have w2e := (elem_in (own_eqR n6 ev_en2) ev_A (show (Term.int (2 : Int32)).eval _ s none [] s = some (.int (2 : Int32)) from rfl) AA.1).2
  have w3e := (elem_in (own_eqR n9 ev_en3) ev_A (show (Term.int (3 : Int32)).eval _ s none [] s = some (.int (3 : Int32)) from rfl) AA.1).2
  have w4e := (elem_in (own_eqR n12 ev_en4) ev_A (show (Term.int (4 : Int32)).eval _ s none [] s = some (.int (4 : Int32)) from rfl) AA.1).2
  have w5e := (elem_in (own_eqR n15 ev_en5) ev_A (show (Term.int (5 : Int32)).eval _ s none [] s = some (.int (5 : Int32)) from rfl) AA.1).2
  have hlt : clA.slots.size < 2 ^ 31 := own_small (own_eqI n1) ev_A (AA.fin (Vm.Alike.refl _))
  have V_A : Arv s s.heap aA clA.cls (.object "com/example/converge/converge/runtime/WireType") (6 : Int32) [(.ref en0), (.ref en1), (.ref en2), (.ref en3), (.ref en4), (.ref en5)] .null := Arv.start hfit AA hlt q4.symm (by decide) rfl ⟨w0e, w1e, w2e, w3e, w4e, w5e, trivial⟩
  obtain ⟨n, o, h1, h2, h3, _, L, rfl, ⟨rfl, N⟩, hq⟩ := rm0 l s _ hw tables_1 i0 i1 en0 en1 en2 en3 en4 en5 aA clA.cls s.heap s.heap.size (Nat.le_refl _) S_en0 S_en1 S_en2 S_en3 S_en4 S_en5 S_A V_A F_en0 F_en1 F_en2 F_en3 F_en4 F_en5 E_en0 E_en1 E_en2 E_en3 E_en4 E_en5 p e ha hc hk s m _ below hf ((Spec.applies_iff_loose hf).mp happ).1 ⟨rfl, State.Warmed39.refl s, rfl⟩ trivial
  refine ⟨n, _, h1, h2, h3, hpost _ _ _ _ _ _ ⟨Cond.after_iff.mpr rfl, Cond.after_iff.mpr (eq_i res_at (Term.int_eval (1)) rfl), trivial⟩ ⟨hq.1, hq.2.1, (hq.2.2.sift fun y hy => Or.inr (N y hy)).mono (by decide) (by decide)⟩⟩
theorem main_1_1 : Claimed_1_1 := comes_1 fun _ _ _ _ _ _ h hF => ⟨h.1, hF⟩
theorem main_1_2 : Claimed_1_2 := comes_1 fun _ _ _ _ _ _ h hF => ⟨h.2.1, hF⟩
end Jvm.Pilot.@@N@@
namespace Jvm.Pilot.@@N@@
open Jvm Jvm.ClassFile Sem Op Lib Jvm.Free Jvm.Stand Jvm.Pilot.@@N@@.Jvm.D
/-! MADE BY PROGRAM (witnessworld.py) out of the Statement's table words and the real class files: 13 classes; the members and pool entries that the words name. The judged class is class 1, her method 3. -/
namespace start1
open Jvm.ClassFile
def u (s : String) : CpInfo := .utf8 (stringToUtf16 s)
/-- a pool by its gaps: so many unusable entries, then the entry; so many at the end -/
def gap : Nat → List CpInfo → List CpInfo
  | 0, r => r
  | n + 1, r => .unusable :: gap n r
def poolList (es : List (Nat × CpInfo)) (last : Nat) : List CpInfo := es.foldr (fun e r => gap e.1 (e.2 :: r)) (gap last [])
def pool (es : List (Nat × CpInfo)) (last : Nat) : Array CpInfo := ⟨poolList es last⟩
def fileOf (pool : Array CpInfo) (this : Nat) (attrs : Array Attribute := #[]) (ms : Array MethodInfo := #[]) (fl : Nat := 33) (sup : Nat := 0) (ifs : Array Nat := #[]) (fds : Array FieldInfo := #[]) : ClassFile where
  minorVersion := 0
  majorVersion := 65
  constantPool := pool
  accessFlags := fl
  thisClass := this
  superClass := sup
  interfaces := ifs
  fields := fds
  methods := ms
  attributes := attrs
def plain (name : String) (sup : Option ClassId) : Class where
  name := name
  kind := .ordinary
  loader := none
  accessFlags := 33
  super := sup
  interfaces := #[]
  cf := none
  fields := #[]
  methods := #[]
  instanceTypes := #[]
  staticTypes := #[]
  resolved := #[]
  callSites := []
  init := .initialized
  statics := none
  mirror := none

def pool0 : Array CpInfo := pool [(5, u "<init>"), (0, u "()V"), (1, .class_ 10), (1, u "java/lang/Object")] 113

def k0m0 : Method := { name := "<init>", desc := "()V", sig := { parameters := [], returnType := none }, accessFlags := 1, code := none }
/-- java/lang/Object -/
def k0 : Class := { plain "java/lang/Object" none with
  accessFlags := 33
  interfaces := #[]
  cf := some (fileOf pool0 8 #[] #[{ accessFlags := 1, nameIndex := 5, descriptorIndex := 6, attributes := #[] }] 33 0 #[] #[])
  fields := #[]
  methods := #[k0m0]
  instanceTypes := #[]
  staticTypes := #[]
  resolved := Array.replicate 124 none
  statics := none }

def pool1 : Array CpInfo := pool [(2, .class_ 4), (1, u "java/lang/Object"), (0, u "<init>"), (0, u "()V"), (0, .fieldref 8 9), (0, .class_ 10), (0, .nameAndType 11 12), (0, u "com/example/converge/converge/runtime/WireType"), (0, u "VARINT"), (0, u "Lcom/example/converge/converge/runtime/WireType;"), (0, .fieldref 8 14), (0, .nameAndType 15 12), (0, u "I64"), (0, .fieldref 8 17), (0, .nameAndType 18 12), (0, u "LEN"), (0, .fieldref 8 20), (0, .nameAndType 21 12), (0, u "SGROUP"), (0, .fieldref 8 23), (0, .nameAndType 24 12), (0, u "EGROUP"), (0, .fieldref 8 26), (0, .nameAndType 27 12), (0, u "I32"), (0, .methodref 8 29), (0, .nameAndType 30 31), (0, u "forNumber"), (0, u "(I)Lcom/example/converge/converge/runtime/WireType;"), (0, .methodref 33 34), (0, .class_ 35), (0, .nameAndType 36 31), (0, u "com/example/converge/converge/runtime/WireTypeForNumberPinLaw"), (0, u "expected"), (0, .methodref 8 38), (0, .nameAndType 39 40), (0, u "getNumber"), (0, u "()I"), (0, .methodref 33 42), (0, .nameAndType 43 44), (0, u "check"), (0, u "(I)Z"), (3, u "law"), (0, u "(II)Z")] 2

def k1m0 : Method := { name := "<init>", desc := "()V", sig := { parameters := [], returnType := none }, accessFlags := 2, code := none }
def k1c1 : Code := { maxStack := 2, maxLocals := 1, code := method_2_code, exceptionTable := #[], attributes := #[] }
def k1m1 : Method := { name := "expected", desc := "(I)Lcom/example/converge/converge/runtime/WireType;", sig := { parameters := [.int], returnType := some (.object "com/example/converge/converge/runtime/WireType") }, accessFlags := 10, code := some k1c1 }
def k1c2 : Code := { maxStack := 2, maxLocals := 3, code := method_3_code, exceptionTable := #[], attributes := #[] }
def k1m2 : Method := { name := "check", desc := "(I)Z", sig := { parameters := [.int], returnType := some .boolean }, accessFlags := 10, code := some k1c2 }
def k1c3 : Code := { maxStack := 2, maxLocals := 3, code := code, exceptionTable := #[], attributes := #[] }
def k1m3 : Method := { name := "law", desc := "(II)Z", sig := { parameters := [.int, .int], returnType := some .boolean }, accessFlags := 9, code := some k1c3 }
/-- com/example/converge/converge/runtime/WireTypeForNumberPinLaw -/
def k1 : Class := { plain "com/example/converge/converge/runtime/WireTypeForNumberPinLaw" (some 0) with
  accessFlags := 49
  interfaces := #[]
  cf := some (fileOf pool1 33 #[] #[{ accessFlags := 2, nameIndex := 5, descriptorIndex := 6, attributes := #[] }, { accessFlags := 10, nameIndex := 36, descriptorIndex := 31, attributes := #[] }, { accessFlags := 10, nameIndex := 43, descriptorIndex := 44, attributes := #[] }, { accessFlags := 9, nameIndex := 48, descriptorIndex := 49, attributes := #[] }] 49 2 #[] #[])
  fields := #[]
  methods := #[k1m0, k1m1, k1m2, k1m3]
  instanceTypes := #[]
  staticTypes := #[]
  resolved := Array.replicate 52 none
  statics := none }

def pool2 : Array CpInfo := pool [(1, .class_ 2), (0, u "java/lang/constant/Constable"), (0, .class_ 4), (0, u "java/lang/Object")] 6

/-- java/lang/constant/Constable -/
def k2 : Class := { plain "java/lang/constant/Constable" (some 0) with
  accessFlags := 1537
  interfaces := #[]
  cf := some (fileOf pool2 1 #[] #[] 1537 3 #[] #[])
  fields := #[]
  methods := #[]
  instanceTypes := #[]
  staticTypes := #[]
  resolved := Array.replicate 11 none
  statics := none }

def pool3 : Array CpInfo := pool [(1, .class_ 2), (0, u "java/lang/Comparable"), (0, .class_ 4), (0, u "java/lang/Object")] 7

/-- java/lang/Comparable -/
def k3 : Class := { plain "java/lang/Comparable" (some 0) with
  accessFlags := 1537
  interfaces := #[]
  cf := some (fileOf pool3 1 #[] #[] 1537 3 #[] #[])
  fields := #[]
  methods := #[]
  instanceTypes := #[]
  staticTypes := #[]
  resolved := Array.replicate 12 none
  statics := none }

def pool4 : Array CpInfo := pool [(1, .class_ 2), (0, u "java/io/Serializable"), (0, .class_ 4), (0, u "java/lang/Object")] 2

/-- java/io/Serializable -/
def k4 : Class := { plain "java/io/Serializable" (some 0) with
  accessFlags := 1537
  interfaces := #[]
  cf := some (fileOf pool4 1 #[] #[] 1537 3 #[] #[])
  fields := #[]
  methods := #[]
  instanceTypes := #[]
  staticTypes := #[]
  resolved := Array.replicate 7 none
  statics := none }

def pool5 : Array CpInfo := pool [(2, .class_ 4), (1, u "java/lang/Enum"), (0, u "name"), (0, u "Ljava/lang/String;"), (2, u "ordinal"), (0, u "I"), (1, .class_ 14), (1, u "java/lang/Object"), (4, u "hash"), (86, .class_ 108), (1, u "java/lang/Enum$EnumDesc"), (2, .class_ 112), (0, u "java/lang/constant/Constable"), (0, .class_ 114), (0, u "java/lang/Comparable"), (0, .class_ 116), (0, u "java/io/Serializable")] 87

/-- java/lang/Enum -/
def k5 : Class := { plain "java/lang/Enum" (some 0) with
  accessFlags := 1057
  interfaces := #[2, 3, 4]
  cf := some (fileOf pool5 2 #[.nestMembers #[106]] #[] 1057 12 #[111, 113, 115] #[{ accessFlags := 18, nameIndex := 5, descriptorIndex := 6, attributes := #[] }, { accessFlags := 18, nameIndex := 9, descriptorIndex := 10, attributes := #[] }, { accessFlags := 2, nameIndex := 19, descriptorIndex := 10, attributes := #[] }])
  fields := #[{ name := "name", type := (.object "java/lang/String"), accessFlags := 18, slot := 0, constantValue := 0 }, { name := "ordinal", type := .int, accessFlags := 18, slot := 1, constantValue := 0 }, { name := "hash", type := .int, accessFlags := 2, slot := 2, constantValue := 0 }]
  methods := #[]
  instanceTypes := #[(.object "java/lang/String"), .int, .int]
  staticTypes := #[]
  resolved := Array.replicate 204 none
  statics := none }

def pool6 : Array CpInfo := pool [(1, .class_ 2), (0, u "com/example/converge/converge/runtime/WireType"), (2, u "VARINT"), (0, u "Lcom/example/converge/converge/runtime/WireType;"), (2, u "I64"), (2, u "LEN"), (2, u "SGROUP"), (2, u "EGROUP"), (2, u "I32"), (2, u "$VALUES"), (0, u "[Lcom/example/converge/converge/runtime/WireType;"), (6, .class_ 34), (1, u "java/lang/Enum"), (6, .fieldref 1 42), (0, .nameAndType 43 44), (0, u "_number"), (0, u "I"), (0, .fieldref 1 46), (0, .nameAndType 47 25), (0, u "BY_NUMBER"), (22, u "getNumber"), (0, u "()I"), (0, u "forNumber"), (0, u "(I)Lcom/example/converge/converge/runtime/WireType;")] 6

def k6c0 : Code := { maxStack := 1, maxLocals := 1, code := prog_92_method_4_code, exceptionTable := #[], attributes := #[] }
def k6m0 : Method := { name := "getNumber", desc := "()I", sig := { parameters := [], returnType := some .int }, accessFlags := 1, code := some k6c0 }
def k6c1 : Code := { maxStack := 2, maxLocals := 1, code := prog_92_method_5_code, exceptionTable := #[], attributes := #[] }
def k6m1 : Method := { name := "forNumber", desc := "(I)Lcom/example/converge/converge/runtime/WireType;", sig := { parameters := [.int], returnType := some (.object "com/example/converge/converge/runtime/WireType") }, accessFlags := 9, code := some k6c1 }
/-- com/example/converge/converge/runtime/WireType -/
def k6 : Class := { plain "com/example/converge/converge/runtime/WireType" (some 5) with
  accessFlags := 16433
  interfaces := #[]
  cf := some (fileOf pool6 1 #[] #[{ accessFlags := 1, nameIndex := 70, descriptorIndex := 71, attributes := #[] }, { accessFlags := 9, nameIndex := 72, descriptorIndex := 73, attributes := #[] }] 16433 32 #[] #[{ accessFlags := 16409, nameIndex := 5, descriptorIndex := 6, attributes := #[] }, { accessFlags := 16409, nameIndex := 9, descriptorIndex := 6, attributes := #[] }, { accessFlags := 16409, nameIndex := 12, descriptorIndex := 6, attributes := #[] }, { accessFlags := 16409, nameIndex := 15, descriptorIndex := 6, attributes := #[] }, { accessFlags := 16409, nameIndex := 18, descriptorIndex := 6, attributes := #[] }, { accessFlags := 16409, nameIndex := 21, descriptorIndex := 6, attributes := #[] }, { accessFlags := 26, nameIndex := 47, descriptorIndex := 25, attributes := #[] }, { accessFlags := 18, nameIndex := 43, descriptorIndex := 44, attributes := #[] }, { accessFlags := 4122, nameIndex := 24, descriptorIndex := 25, attributes := #[] }])
  fields := #[{ name := "VARINT", type := (.object "com/example/converge/converge/runtime/WireType"), accessFlags := 16409, slot := 0, constantValue := 0 }, { name := "I64", type := (.object "com/example/converge/converge/runtime/WireType"), accessFlags := 16409, slot := 1, constantValue := 0 }, { name := "LEN", type := (.object "com/example/converge/converge/runtime/WireType"), accessFlags := 16409, slot := 2, constantValue := 0 }, { name := "SGROUP", type := (.object "com/example/converge/converge/runtime/WireType"), accessFlags := 16409, slot := 3, constantValue := 0 }, { name := "EGROUP", type := (.object "com/example/converge/converge/runtime/WireType"), accessFlags := 16409, slot := 4, constantValue := 0 }, { name := "I32", type := (.object "com/example/converge/converge/runtime/WireType"), accessFlags := 16409, slot := 5, constantValue := 0 }, { name := "BY_NUMBER", type := (.array (.object "com/example/converge/converge/runtime/WireType")), accessFlags := 26, slot := 6, constantValue := 0 }, { name := "_number", type := .int, accessFlags := 18, slot := 3, constantValue := 0 }, { name := "$VALUES", type := (.array (.object "com/example/converge/converge/runtime/WireType")), accessFlags := 4122, slot := 7, constantValue := 0 }]
  methods := #[k6m0, k6m1]
  instanceTypes := #[(.object "java/lang/String"), .int, .int, .int]
  staticTypes := #[(.object "com/example/converge/converge/runtime/WireType"), (.object "com/example/converge/converge/runtime/WireType"), (.object "com/example/converge/converge/runtime/WireType"), (.object "com/example/converge/converge/runtime/WireType"), (.object "com/example/converge/converge/runtime/WireType"), (.object "com/example/converge/converge/runtime/WireType"), (.array (.object "com/example/converge/converge/runtime/WireType")), (.array (.object "com/example/converge/converge/runtime/WireType"))]
  resolved := Array.replicate 80 none
  statics := some 0 }

def pool7 : Array CpInfo := pool [(1, u "java/lang/Cloneable"), (0, .class_ 1), (0, u "java/lang/Object"), (0, .class_ 3)] 3

/-- java/lang/Cloneable -/
def k7 : Class := { plain "java/lang/Cloneable" (some 0) with
  accessFlags := 1537
  interfaces := #[]
  cf := some (fileOf pool7 2 #[] #[] 1537 4 #[] #[])
  fields := #[]
  methods := #[]
  instanceTypes := #[]
  staticTypes := #[]
  resolved := Array.replicate 8 none
  statics := none }

/-- the primitive byte -/
def k8 : Class := { plain "byte" none with kind := .primitive 'B', accessFlags := 0x411 }
/-- [B -/
def k9 : Class := { plain "[B" (some 0) with kind := .array 8 .byte, interfaces := #[7, 4], accessFlags := 1041 }

/-- the primitive int -/
def k10 : Class := { plain "int" none with kind := .primitive 'I', accessFlags := 0x411 }
/-- [I -/
def k11 : Class := { plain "[I" (some 0) with kind := .array 10 .int, interfaces := #[7, 4], accessFlags := 1041 }

/-- [Lcom/example/converge/converge/runtime/WireType; -/
def k12 : Class := { plain "[Lcom/example/converge/converge/runtime/WireType;" (some 0) with kind := .array 6 (.object "com/example/converge/converge/runtime/WireType"), interfaces := #[7, 4], accessFlags := 1041 }

def heap : Heap := #[{ cls := 6, slots := #[.ref 2, .ref 3, .ref 4, .ref 5, .ref 6, .ref 7, .ref 1, .null], vm := .statics 6 },
  { cls := 12, slots := #[.ref 2, .ref 3, .ref 4, .ref 5, .ref 6, .ref 7], vm := .none },
  { cls := 6, slots := #[.null, .int 0, .int 0, .int 0], vm := .none },
  { cls := 6, slots := #[.null, .int 1, .int 0, .int 1], vm := .none },
  { cls := 6, slots := #[.null, .int 2, .int 0, .int 2], vm := .none },
  { cls := 6, slots := #[.null, .int 3, .int 0, .int 3], vm := .none },
  { cls := 6, slots := #[.null, .int 4, .int 0, .int 4], vm := .none },
  { cls := 6, slots := #[.null, .int 5, .int 0, .int 5], vm := .none }]
def classes : Array Class := #[k0, k1, k2, k3, k4, k5, k6, k7, k8, k9, k10, k11, k12]
def interned : List (Array UInt16 × Addr) := []
def slotsUsed : Nat := 38
def theMethod : MethodId := ⟨1, 3⟩
def args0 : Array Value := #[.int 1, .int 2]
def aboutOver (below : List Frame) : State where
  vm := { classes := classes, interned := interned.toArray }
  heap := heap
  slotsUsed := slotsUsed
  threads := #[{ frames := .invoking theMethod args0 :: below }]
def below0 : List Frame := [.native { method := ⟨0, 0⟩, args := #[] }]
def about1 : State := aboutOver below0
def p0 : Program := .bare "" "" ""
def e0 : Env := launch0.env 0 0 0
theorem w_frames : about1.frames = Frame.invoking theMethod args0 :: below0 := rfl
set_option maxRecDepth 65536 in
theorem w_args : argsFit about1.vm theMethod args0 = true := by decide +kernel
set_option maxRecDepth 65536 in
theorem w_heap : heapFits about1 = true := by decide +kernel
set_option maxRecDepth 65536 in
theorem w_runnable : about1.curStatus? = some .runnable := by decide +kernel
set_option maxRecDepth 65536 in
theorem w_alone : about1.alone = true := by decide +kernel
set_option maxRecDepth 65536 in
theorem w_named : about1.methodNamed? x = some theMethod := by decide +kernel
set_option maxRecDepth 65536 in
theorem w_hears : about1.hears theMethod below0 = true := by decide +kernel
set_option maxRecDepth 65536 in
theorem w_ripe : about1.ripe theMethod args0 below0 = true := by decide +kernel
theorem w_running : about1.status = .running := rfl
set_option maxRecDepth 65536 in
theorem w_room : about1.hasRoom e0.platform room_1 = true :=
  launch0.hasRoom_least _ room_1 (by decide +kernel) (by decide +kernel) (by decide +kernel) (by decide +kernel) (by decide +kernel) (by decide +kernel)
theorem allAtoms_all (ts : List Jvm.Cond) (a : Array Jvm.Value) (st : Jvm.State) : (allAtoms ts).before a st = ts.all (fun c => c.before a st) := by
  induction ts with
  | nil => rfl
  | cons c t ih =>
    show (Jvm.Cond.and c (allAtoms t)).before a st = _
    rw [Jvm.Cond.before_and, ih, List.all_cons]
def words1 : List Jvm.Cond := Jvm.Cond.code x code maxLocals ret :: tables_1
/-- a 'code' word, met by the world's own term for the bytes: nothing is compared byte by byte -/
theorem code_word {y : MethodName} {bytes : ByteArray} {mx : Nat} {rt : Option FieldType} {a : Array Value} {s : State} {m : MethodId} {meth : Method} {c : Code} (h1 : s.methodNamed? y = some m) (h2 : s.vm.method? m = some meth) (h3 : meth.code = some c) (h4 : c.code = bytes)
    (h5 : (c.maxLocals == mx && c.exceptionTable.isEmpty && decide (c.maxStack ≤ mostOperands) && decide (meth.sig.returnType = rt) && !meth.locks && decide (parseMethodDescriptor y.desc = some meth.sig)) = true) : (Jvm.Cond.code y bytes mx rt).before a s = true := by
  simp only [Bool.and_eq_true, beq_iff_eq, Bool.not_eq_true', decide_eq_true_eq] at h5
  obtain ⟨⟨⟨⟨⟨g1, g2⟩, g3⟩, g4⟩, g5⟩, g6⟩ := h5
  simp [Cond.before, Cond.holds, Cond.value, h1, h2, h3, h4, g1, g2, g3, g4, g5, g6]
def isCode : Jvm.Cond → Bool
  | .code _ _ _ _ => true
  | _ => false
theorem all_split {L : List Jvm.Cond} {P : Jvm.Cond → Bool} (h1 : L.all (fun c => isCode c || P c) = true) (h2 : ∀ c ∈ L.filter isCode, P c = true) : L.all P = true := by
  refine List.all_eq_true.mpr fun c hc => ?_
  have h := List.all_eq_true.mp h1 c hc
  rcases Bool.eq_false_or_eq_true (isCode c) with hi | hi
  · exact h2 c (List.mem_filter.mpr ⟨hc, hi⟩)
  · simpa [hi] using h
set_option maxRecDepth 65536 in
theorem w_c0 : (Jvm.Cond.code x code maxLocals ret).before args0 about1 = true := code_word (m := ⟨1, 3⟩) (meth := k1m3) (c := k1c3) (by decide +kernel) rfl rfl rfl (by decide +kernel)
set_option maxRecDepth 65536 in
theorem w_c1 : (Jvm.Cond.code ({ cls := "com/example/converge/converge/runtime/WireTypeForNumberPinLaw", name := "check", desc := "(I)Z" } : Jvm.MethodName) method_3_code (3 : Nat) (Option.some Jvm.ClassFile.FieldType.boolean)).before args0 about1 = true := code_word (m := ⟨1, 2⟩) (meth := k1m2) (c := k1c2) (by decide +kernel) rfl rfl rfl (by decide +kernel)
set_option maxRecDepth 65536 in
theorem w_c2 : (Jvm.Cond.code ({ cls := "com/example/converge/converge/runtime/WireType", name := "forNumber", desc := "(I)Lcom/example/converge/converge/runtime/WireType;" } : Jvm.MethodName) prog_92_method_5_code (1 : Nat) (Option.some (Jvm.ClassFile.FieldType.object "com/example/converge/converge/runtime/WireType"))).before args0 about1 = true := code_word (m := ⟨6, 1⟩) (meth := k6m1) (c := k6c1) (by decide +kernel) rfl rfl rfl (by decide +kernel)
set_option maxRecDepth 65536 in
theorem w_c3 : (Jvm.Cond.code ({ cls := "com/example/converge/converge/runtime/WireTypeForNumberPinLaw", name := "expected", desc := "(I)Lcom/example/converge/converge/runtime/WireType;" } : Jvm.MethodName) method_2_code (1 : Nat) (Option.some (Jvm.ClassFile.FieldType.object "com/example/converge/converge/runtime/WireType"))).before args0 about1 = true := code_word (m := ⟨1, 1⟩) (meth := k1m1) (c := k1c1) (by decide +kernel) rfl rfl rfl (by decide +kernel)
set_option maxRecDepth 65536 in
theorem w_c4 : (Jvm.Cond.code ({ cls := "com/example/converge/converge/runtime/WireType", name := "getNumber", desc := "()I" } : Jvm.MethodName) prog_92_method_4_code (1 : Nat) (Option.some Jvm.ClassFile.FieldType.int)).before args0 about1 = true := code_word (m := ⟨6, 0⟩) (meth := k6m0) (c := k6c0) (by decide +kernel) rfl rfl rfl (by decide +kernel)
def codes1 : List Jvm.Cond := [Jvm.Cond.code x code maxLocals ret, Jvm.Cond.code ({ cls := "com/example/converge/converge/runtime/WireTypeForNumberPinLaw", name := "check", desc := "(I)Z" } : Jvm.MethodName) method_3_code (3 : Nat) (Option.some Jvm.ClassFile.FieldType.boolean), Jvm.Cond.code ({ cls := "com/example/converge/converge/runtime/WireType", name := "forNumber", desc := "(I)Lcom/example/converge/converge/runtime/WireType;" } : Jvm.MethodName) prog_92_method_5_code (1 : Nat) (Option.some (Jvm.ClassFile.FieldType.object "com/example/converge/converge/runtime/WireType")), Jvm.Cond.code ({ cls := "com/example/converge/converge/runtime/WireTypeForNumberPinLaw", name := "expected", desc := "(I)Lcom/example/converge/converge/runtime/WireType;" } : Jvm.MethodName) method_2_code (1 : Nat) (Option.some (Jvm.ClassFile.FieldType.object "com/example/converge/converge/runtime/WireType")), Jvm.Cond.code ({ cls := "com/example/converge/converge/runtime/WireType", name := "getNumber", desc := "()I" } : Jvm.MethodName) prog_92_method_4_code (1 : Nat) (Option.some Jvm.ClassFile.FieldType.int)]
set_option maxRecDepth 65536 in
theorem codes_eq : words1.filter isCode = codes1 := rfl
theorem w_codes : ∀ c ∈ words1.filter isCode, c.before args0 about1 = true := by
  rw [codes_eq]
  intro c hc
  simp only [codes1, List.mem_cons, List.not_mem_nil, or_false] at hc
  rcases hc with rfl | rfl | rfl | rfl | rfl
  · exact w_c0
  · exact w_c1
  · exact w_c2
  · exact w_c3
  · exact w_c4
set_option maxRecDepth 65536 in
theorem w_t1 : (words1.take 24).all (fun c => isCode c || c.before args0 about1) = true := by decide +kernel
set_option maxRecDepth 65536 in
theorem w_t2 : (words1.drop 24).all (fun c => isCode c || c.before args0 about1) = true := by decide +kernel
theorem w_tables : (allAtoms (Jvm.Cond.code x code maxLocals ret :: tables_1)).before args0 about1 = true := by
  rw [allAtoms_all]
  show words1.all (fun c => c.before args0 about1) = true
  refine all_split ?_ w_codes
  rw [← List.take_append_drop 24 words1, List.all_append, w_t1, w_t2]
  rfl
set_option maxRecDepth 65536 in
theorem w_case : (Jvm.Cond.and given_1 narrow_1).before args0 about1 = true := by decide +kernel
theorem w_applies : (headSpec (Jvm.Cond.code x code maxLocals ret :: tables_1) room_1).applies x e0.platform about1 = true :=
  (Spec.applies_iff w_frames).mpr ⟨w_running, w_runnable, w_alone, w_named, w_hears, w_ripe, w_room, w_tables⟩
theorem atStart : AtStart classFile x code maxLocals ret World_1 tables_1 room_1 Calls_1 rest_1 Pre_1 launch0 p0 e0 about1 theMethod args0 below0 :=
  ⟨lists_1, trivial, launch0.admits_env _ _ _, launch0.least_env, fairChoices_fair.cas, fairChoices_fair.clock, w_frames, w_args, w_heap, w_applies, trivial, trivial, w_case⟩
end start1
theorem witness_1 : WitnessClaimed_1 := ⟨start1.p0, start1.e0, start1.about1, start1.theMethod, start1.args0, start1.below0, start1.atStart⟩
end Jvm.Pilot.@@N@@
