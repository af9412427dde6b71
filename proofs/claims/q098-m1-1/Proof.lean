import JvmDerived
import JvmDerived.Pilot.@@N@@Statement
import JvmDerived.Pilot.@@N@@Code
set_option linter.unusedVariables false
set_option linter.unusedSimpArgs false
namespace Jvm.RoadKit
open Sem ClassFile Op Lib Jvm.Stand Jvm.Free Jvm.LawKit
section New
variable {p : Program} {l : Launch} {e : Env} {R : Room} {s : State} {m : MethodId} {args : Array Value} {below : List Frame} {meth : Method} {c : Code} {T : State} {locs : List Loc} {cells slots : Nat}
theorem retI (X : Stand p l e R s m args below meth c T locs cells slots) (hx : p.tables.exec = Jvm.exec) {pc : Nat} {Ls : Array Slot} {z : Int32} {rest : List Value} (hret : meth.sig.returnType = some .int) (hd : decode c.code pc = .ok (.ireturn, 1)) {fs : List Frame}
    (hl : ∀ (f : JFrame) (acts : List Action), f.method = m → f.locked = none → f.entered = [] → (doReturn e (T.setTop f) acts (some (.int z))).1 = T.setFrames fs) : Steps p.tables e below (T.setTop (mkF m pc Ls (.int z :: rest))) (T.setFrames fs) := by
  have hm' : T.vm.method? m = some meth := X.method'
  have hn : narrow .int (.int z) = .int z := rfl
  show Steps p.tables e below (T.setTop { method := m, pc := pc, locals := Ls, stack := _ :: rest, locked := none }) _
  jvm_step X.here [X.here.top, hx, hd, hm', hret, hn]
  first | (intro acts; rw [hl _ acts rfl rfl rfl]) | rw [hl _ _ rfl rfl rfl]
  exact Steps.refl _
end New
end Jvm.RoadKit
namespace Jvm.Pilot.@@N@@
open Jvm Jvm.ClassFile Sem Op Lib Jvm.Free Jvm.Stand Jvm.LawKit Jvm.RoadKit Bundle Jvm.Pilot.@@N@@.Jvm.D
abbrev own_S (p : Program) (e : Env) (b : List Frame) (T : State) (m : MethodId) (pc : Nat) (L : Array Slot) (S : List Value) (t : State) : Prop := Steps p.tables e b (T.setTop (mkF m pc L S)) t
theorem own_eqI {args : Array Value} {s : State} {a : Term} {k : Int32} (h : (Jvm.Cond.eq a (.int k)).value args s none s [] = some true) : a.eval args s none [] s = some (.int k) := by
  obtain ⟨x, y, e1, e2, k1, -⟩ := cmp_v (Or.inl h)
  cases (show (Term.int k).eval args s none [] s = some (.int k) from rfl).symm.trans e2
  cases x with
  | int z => rw [gotT (Cond.eq_ints e1 e2) h] at e1; exact e1
  | _ => first | (obtain ⟨z, q⟩ := k1; cases q; done) | (exact absurd k1.2 (by simp [Value.isRef]))
theorem own_eqL {args : Array Value} {s : State} {a : Term} {k : Int64} (h : (Jvm.Cond.eq a (.long k)).value args s none s [] = some true) : a.eval args s none [] s = some (.long k) := by
  obtain ⟨x, y, e1, e2, k1, -⟩ := cmp_v (Or.inl h)
  cases (show (Term.long k).eval args s none [] s = some (.long k) from rfl).symm.trans e2
  cases x with
  | long z => rw [gotT (eq_L e1 e2) h] at e1; exact e1
  | _ => first | (obtain ⟨z, q⟩ := k1; cases q; done) | (exact absurd k1.2 (by simp [Value.isRef]))
theorem own_eqR {args : Array Value} {s : State} {a b : Term} {y : Addr} (h : (Jvm.Cond.eq a b).value args s none s [] = some true) (eb : b.eval args s none [] s = some (.ref y)) : a.eval args s none [] s = some (.ref y) := by
  obtain ⟨x, z, e1, e2, k1, k2⟩ := cmp_v (Or.inl h)
  cases eb.symm.trans e2
  have hx : x.isRef = true := k2.2
  rw [gotT (eq_R e1 e2 hx rfl) h] at e1; exact e1
def own_ref (n : Int32) (en1 : Addr) (en2 : Addr) (en3 : Addr) (en4 : Addr) (en5 : Addr) (en6 : Addr) (en7 : Addr) (en8 : Addr) : Value := if n = 1 then .ref en1 else if n = 2 then .ref en2 else if n = 3 then .ref en3 else if n = 4 then .ref en4 else if n = 5 then .ref en5 else if n = 6 then .ref en6 else if n = 7 then .ref en7 else if n = 8 then .ref en8 else .null
def own_out (n : Int32) : Prop := n < 1 ∨ ¬ n < 9
theorem own_split (n : Int32) : n = 1 ∨ n = 2 ∨ n = 3 ∨ n = 4 ∨ n = 5 ∨ n = 6 ∨ n = 7 ∨ n = 8 ∨ own_out n := by
  have l1 : (1 : Int32).toInt = 1 := by decide
  have l2 : (2 : Int32).toInt = 2 := by decide
  have l3 : (3 : Int32).toInt = 3 := by decide
  have l4 : (4 : Int32).toInt = 4 := by decide
  have l5 : (5 : Int32).toInt = 5 := by decide
  have l6 : (6 : Int32).toInt = 6 := by decide
  have l7 : (7 : Int32).toInt = 7 := by decide
  have l8 : (8 : Int32).toInt = 8 := by decide
  have l9 : (9 : Int32).toInt = 9 := by decide
  simp only [own_out, ← Int32.toInt_inj, Int32.lt_iff_toInt_lt, l1, l2, l3, l4, l5, l6, l7, l8, l9]
  omega
theorem own_outs {n : Int32} (h : own_out n) : ¬ n = 1 ∧ ¬ n = 2 ∧ ¬ n = 3 ∧ ¬ n = 4 ∧ ¬ n = 5 ∧ ¬ n = 6 ∧ ¬ n = 7 ∧ ¬ n = 8 := by
  have l1 : (1 : Int32).toInt = 1 := by decide
  have l2 : (2 : Int32).toInt = 2 := by decide
  have l3 : (3 : Int32).toInt = 3 := by decide
  have l4 : (4 : Int32).toInt = 4 := by decide
  have l5 : (5 : Int32).toInt = 5 := by decide
  have l6 : (6 : Int32).toInt = 6 := by decide
  have l7 : (7 : Int32).toInt = 7 := by decide
  have l8 : (8 : Int32).toInt = 8 := by decide
  have l9 : (9 : Int32).toInt = 9 := by decide
  simp only [own_out, ← Int32.toInt_inj, Int32.lt_iff_toInt_lt, l1, l2, l3, l4, l5, l6, l7, l8, l9] at h ⊢
  omega
theorem own_null {n : Int32} (h : own_out n) (en1 : Addr) (en2 : Addr) (en3 : Addr) (en4 : Addr) (en5 : Addr) (en6 : Addr) (en7 : Addr) (en8 : Addr) : own_ref n en1 en2 en3 en4 en5 en6 en7 en8 = .null := by
  obtain ⟨q1, q2, q3, q4, q5, q6, q7, q8⟩ := own_outs h
  simp [own_ref, q1, q2, q3, q4, q5, q6, q7, q8]
theorem own_small {args : Array Value} {s : State} {t : Term} {x : Addr} {cl : Cell} {v : Value} (h : (Term.length t).eval args s none [] s = some v) (ht : t.eval args s none [] s = some (.ref x)) (ha : s.arrayAt? x = some cl) : cl.slots.size < 2 ^ 31 := by
  by_cases q : cl.slots.size < 2 ^ 31
  · exact q
  · simp [Term.eval, ht, ha, q] at h
theorem pn_0 : plainName "com/example/broker/broker/wire/Command" = true := by first | (simp [plainName, overriddenIn]; done) | decide +kernel
theorem ef_1 (m : MethodId) (p1 : Int32) : entryFrame m #[(.int p1)] 5 = mkF m 0 #[iv p1, .unset, .unset, .unset, .unset] [] := by first | (simp [entryFrame, mkF, argsToLocals, Value.category]; done) | rfl
def Q1 (Z : State) (p1 : Int32) (en1 : Addr) (en2 : Addr) (en3 : Addr) (en4 : Addr) (en5 : Addr) (en6 : Addr) (en7 : Addr) (en8 : Addr) (aA : Addr) (kA : ClassId) (h0 : Heap) (n0 : Nat) (v : Option Value) (h : Heap) (L : List Loc) : Prop := v = some (own_ref p1 en1 en2 en3 en4 en5 en6 en7 en8) ∧ Fr n0 L ∧ h = h0
theorem d1_0 : decode prog_24_method_7_code 0 = .ok (.getstatic 56, 3) := by decide +kernel
theorem d1_3 : decode prog_24_method_7_code 3 = .ok (.astore_n 1, 1) := by decide +kernel
theorem d1_4 : decode prog_24_method_7_code 4 = .ok (.aload_n 1, 1) := by decide +kernel
theorem d1_5 : decode prog_24_method_7_code 5 = .ok (.arraylength, 1) := by decide +kernel
theorem d1_6 : decode prog_24_method_7_code 6 = .ok (.istore_n 2, 1) := by decide +kernel
theorem d1_7 : decode prog_24_method_7_code 7 = .ok (.iconst 0, 1) := by decide +kernel
theorem d1_8 : decode prog_24_method_7_code 8 = .ok (.istore_n 3, 1) := by decide +kernel
theorem d1_9 : decode prog_24_method_7_code 9 = .ok (.iload_n 3, 1) := by decide +kernel
theorem d1_10 : decode prog_24_method_7_code 10 = .ok (.iload_n 2, 1) := by decide +kernel
theorem d1_11 : decode prog_24_method_7_code 11 = .ok (.if_icmp .ge 26, 3) := by decide +kernel
theorem d1_14 : decode prog_24_method_7_code 14 = .ok (.aload_n 1, 1) := by decide +kernel
theorem d1_15 : decode prog_24_method_7_code 15 = .ok (.iload_n 3, 1) := by decide +kernel
theorem d1_16 : decode prog_24_method_7_code 16 = .ok (.aaload, 1) := by decide +kernel
theorem d1_17 : decode prog_24_method_7_code 17 = .ok (.astore 4, 2) := by decide +kernel
theorem d1_19 : decode prog_24_method_7_code 19 = .ok (.aload 4, 2) := by decide +kernel
theorem d1_21 : decode prog_24_method_7_code 21 = .ok (.getfield 47, 3) := by decide +kernel
theorem d1_24 : decode prog_24_method_7_code 24 = .ok (.iload_n 0, 1) := by decide +kernel
theorem d1_25 : decode prog_24_method_7_code 25 = .ok (.if_icmp .ne 6, 3) := by decide +kernel
theorem d1_28 : decode prog_24_method_7_code 28 = .ok (.aload 4, 2) := by decide +kernel
theorem d1_30 : decode prog_24_method_7_code 30 = .ok (.areturn, 1) := by decide +kernel
theorem d1_31 : decode prog_24_method_7_code 31 = .ok (.iinc 3 1, 3) := by decide +kernel
theorem d1_34 : decode prog_24_method_7_code 34 = .ok (.goto (-25), 3) := by decide +kernel
theorem d1_37 : decode prog_24_method_7_code 37 = .ok (.aconst_null, 1) := by decide +kernel
theorem d1_38 : decode prog_24_method_7_code 38 = .ok (.areturn, 1) := by decide +kernel
set_option maxRecDepth 65536 in
set_option maxHeartbeats 40000000 in
theorem rm1 (l : Launch) (Z : State) (a0 : Array Value) (hw : ∀ d ∈ tables_1, d.before a0 Z = true) (ws : List Jvm.Cond) (p1 : Int32) (en1 : Addr) (en2 : Addr) (en3 : Addr) (en4 : Addr) (en5 : Addr) (en6 : Addr) (en7 : Addr) (en8 : Addr) (aA : Addr) (kA : ClassId) (h0 : Heap) (n0 : Nat) (Z0 : n0 ≤ h0.size) (S_en1 : Sta Z h0 "com/example/broker/broker/wire/Command" "SEND" "Lcom/example/broker/broker/wire/Command;" (.ref en1)) (S_en2 : Sta Z h0 "com/example/broker/broker/wire/Command" "READ" "Lcom/example/broker/broker/wire/Command;" (.ref en2)) (S_en3 : Sta Z h0 "com/example/broker/broker/wire/Command" "SUBSCRIBE" "Lcom/example/broker/broker/wire/Command;" (.ref en3)) (S_en4 : Sta Z h0 "com/example/broker/broker/wire/Command" "DELIVER" "Lcom/example/broker/broker/wire/Command;" (.ref en4)) (S_en5 : Sta Z h0 "com/example/broker/broker/wire/Command" "ACK" "Lcom/example/broker/broker/wire/Command;" (.ref en5)) (S_en6 : Sta Z h0 "com/example/broker/broker/wire/Command" "UNSUBSCRIBE" "Lcom/example/broker/broker/wire/Command;" (.ref en6)) (S_en7 : Sta Z h0 "com/example/broker/broker/wire/Command" "STATS" "Lcom/example/broker/broker/wire/Command;" (.ref en7)) (S_en8 : Sta Z h0 "com/example/broker/broker/wire/Command" "ACK_EACH" "Lcom/example/broker/broker/wire/Command;" (.ref en8)) (S_A : Sta Z h0 "com/example/broker/broker/wire/Command" "ALL" "[Lcom/example/broker/broker/wire/Command;" (.ref aA)) (V_A : Arv Z h0 aA kA (.object "com/example/broker/broker/wire/Command") (8 : Int32) [(.ref en1), (.ref en2), (.ref en3), (.ref en4), (.ref en5), (.ref en6), (.ref en7), (.ref en8)] .null) (F_en1 : Fld Z h0 en1 "com/example/broker/broker/wire/Command" "code" "I" (.int (1 : Int32))) (F_en2 : Fld Z h0 en2 "com/example/broker/broker/wire/Command" "code" "I" (.int (2 : Int32))) (F_en3 : Fld Z h0 en3 "com/example/broker/broker/wire/Command" "code" "I" (.int (3 : Int32))) (F_en4 : Fld Z h0 en4 "com/example/broker/broker/wire/Command" "code" "I" (.int (4 : Int32))) (F_en5 : Fld Z h0 en5 "com/example/broker/broker/wire/Command" "code" "I" (.int (5 : Int32))) (F_en6 : Fld Z h0 en6 "com/example/broker/broker/wire/Command" "code" "I" (.int (6 : Int32))) (F_en7 : Fld Z h0 en7 "com/example/broker/broker/wire/Command" "code" "I" (.int (7 : Int32))) (F_en8 : Fld Z h0 en8 "com/example/broker/broker/wire/Command" "code" "I" (.int (8 : Int32))) (E_en1 : Exa Z h0 en1 "com/example/broker/broker/wire/Command") (E_en2 : Exa Z h0 en2 "com/example/broker/broker/wire/Command") (E_en3 : Exa Z h0 en3 "com/example/broker/broker/wire/Command") (E_en4 : Exa Z h0 en4 "com/example/broker/broker/wire/Command") (E_en5 : Exa Z h0 en5 "com/example/broker/broker/wire/Command") (E_en6 : Exa Z h0 en6 "com/example/broker/broker/wire/Command") (E_en7 : Exa Z h0 en7 "com/example/broker/broker/wire/Command") (E_en8 : Exa Z h0 en8 "com/example/broker/broker/wire/Command") :
    MetFree l (⟨"com/example/broker/broker/wire/Command", "of", "(I)Lcom/example/broker/broker/wire/Command;"⟩ : MethodName) (head1 (Jvm.Cond.code (⟨"com/example/broker/broker/wire/Command", "of", "(I)Lcom/example/broker/broker/wire/Command;"⟩ : MethodName) prog_24_method_7_code 5 (some (.object "com/example/broker/broker/wire/Command")) :: ws) ({ frames := 0, cells := 0, slots := 0, locals := 0 } : Room)) (fun a U => a = #[(.int p1)] ∧ Z.Warmed39 U.vm ∧ U.heap = h0) (fun _ _ _ _ _ => True) (fun _ U o U' => ∃ v L, o = .returned v ∧ Q1 Z p1 en1 en2 en3 en4 en5 en6 en7 en8 aA kA h0 n0 v U'.heap L ∧ FrameEnd U o U' L ({ frames := 0, cells := 0, slots := 0, locals := 0 } : Room).cells ({ frames := 0, cells := 0, slots := 0, locals := 0 } : Room).slots) := by
  refine MetFree.of_bodySF (plainFor_of_name pn_0) hisR ?_
  intro p e s m args below meth c s₁ Bd hml0 hP hK
  obtain ⟨rfl, hZ, hh⟩ := hP
  have hx := Bd.exec
  have hby := Bd.bytes
  have hml : c.maxLocals = 5 := hml0
  have hown : s.vm.findClass "com/example/broker/broker/wire/Command" = some m.cls := findClass_of_methodNamed Bd.named
  have hnm := (name_of_methodNamed Bd.named Bd.method).1
  have X0 : Stand p l e ({ frames := 0, cells := 0, slots := 0, locals := 0 } : Room) s m #[(.int p1)] below meth c s₁ [] 0 0 := Stand.of_body Bd
  have e0 : s₁.heap = h0 := by rw [← hh, Bd.state]; rfl
  have N0 := Fr.nil n0
  have pre0 : ∀ t, Steps p.tables e below (s₁.setTop (mkF m 0 #[iv p1, .unset, .unset, .unset, .unset] [])) t → Steps p.tables e below (s₁.setTop (entryFrame m #[(.int p1)] 5)) t := fun t k => castTop (ef_1 m p1) k
  have hsp := own_split p1
  rcases hsp with rfl | rfl | rfl | rfl | rfl | rfl | rfl | rfl | hout
  ·  -- case
    obtain ⟨T1, X1, e1, st1⟩ := getS2 X0 hx hZ hown (host := "") (Or.inl (hw _ (List.mem_of_getElem? (i := 5) rfl))) Via.refl e0 S_A (g := (mkF m 0 #[iv (1 : Int32), .unset, .unset, .unset, .unset] [])) rfl (hb hby d1_0)
    obtain ⟨cl2, Ar2, q2, S2, M2, -, -⟩ := id V_A
    obtain ⟨cl3, Ar3, q3, S3, M3, H3, G3⟩ := id V_A
    have hin3 : ¬ ((0 : Int32) < 0 ∨ cl3.slots.size ≤ ((0 : Int32)).toNatClampNeg) := inb_of S3 ⟨by decide, by decide⟩
    have hat3 : cl3.slots[((0 : Int32)).toNatClampNeg]? = some (.ref en1) := H3.at hin3 rfl
    obtain ⟨T4, X4, e4, st4⟩ := getF X1 hx hZ hown (host := "") (Or.inl (hw _ (List.mem_of_getElem? (i := 8) rfl))) Via.refl e1 F_en1 (g := (mkF m 21 #[iv (1 : Int32), rv aA, iv (8 : Int32), iv (0 : Int32), rv en1] [(.ref en1)])) rfl rfl (hb hby d1_21)
    have pre5 : ∀ t, own_S p e below T4 m 30 #[iv (1 : Int32), rv aA, iv (8 : Int32), iv (0 : Int32), rv en1] [(.ref en1)] t → Steps p.tables e below (s₁.setTop (entryFrame m #[(.int (1 : Int32))] 5)) t := fun t k => pre0 t (by
      show own_S p e below s₁ m 0 #[iv (1 : Int32), .unset, .unset, .unset, .unset] [] _
      refine st1 _ ?_
      show own_S p e below T1 m 3 #[iv (1 : Int32), .unset, .unset, .unset, .unset] [(.ref aA)] _
      refine XS.astoreN X1.here hx rfl (hb hby d1_3) rfl rfl (l' := #[iv (1 : Int32), rv aA, .unset, .unset, .unset]) rfl ?_
      show own_S p e below T1 m 4 #[iv (1 : Int32), rv aA, .unset, .unset, .unset] [] _
      refine XS.aloadN X1.here hx rfl (hb hby d1_4) rfl rfl ?_
      show own_S p e below T1 m 5 #[iv (1 : Int32), rv aA, .unset, .unset, .unset] [(.ref aA)] _
      refine X1.arraylength hx (by rw [e1]; exact Ar2.1) (State.isArrayOf_alike hZ.alike Ar2.2.1) (g := (mkF m 5 #[iv (1 : Int32), rv aA, .unset, .unset, .unset] [(.ref aA)])) rfl rfl (hb hby d1_5) _ ?_
      rw [len_of S2 M2]
      show own_S p e below T1 m 6 #[iv (1 : Int32), rv aA, .unset, .unset, .unset] [(.int (8 : Int32))] _
      refine XS.istoreN X1.here hx rfl (hb hby d1_6) rfl (l' := #[iv (1 : Int32), rv aA, iv (8 : Int32), .unset, .unset]) rfl ?_
      show own_S p e below T1 m 7 #[iv (1 : Int32), rv aA, iv (8 : Int32), .unset, .unset] [] _
      refine XS.iconst X1.here hx rfl (hb hby d1_7) ?_
      show own_S p e below T1 m 8 #[iv (1 : Int32), rv aA, iv (8 : Int32), .unset, .unset] [(.int (0 : Int32))] _
      refine XS.istoreN X1.here hx rfl (hb hby d1_8) rfl (l' := #[iv (1 : Int32), rv aA, iv (8 : Int32), iv (0 : Int32), .unset]) rfl ?_
      show own_S p e below T1 m 9 #[iv (1 : Int32), rv aA, iv (8 : Int32), iv (0 : Int32), .unset] [] _
      refine XS.iloadN X1.here hx rfl (hb hby d1_9) rfl ?_
      show own_S p e below T1 m 10 #[iv (1 : Int32), rv aA, iv (8 : Int32), iv (0 : Int32), .unset] [(.int (0 : Int32))] _
      refine XS.iloadN X1.here hx rfl (hb hby d1_10) rfl ?_
      show own_S p e below T1 m 11 #[iv (1 : Int32), rv aA, iv (8 : Int32), iv (0 : Int32), .unset] [(.int (8 : Int32)), (.int (0 : Int32))] _
      refine XS.icmpNo X1.here hx rfl (hb hby d1_11) rfl (tlt (by decide : (0 : Int32) < (8 : Int32))).2.1 ?_
      show own_S p e below T1 m 14 #[iv (1 : Int32), rv aA, iv (8 : Int32), iv (0 : Int32), .unset] [] _
      refine XS.aloadN X1.here hx rfl (hb hby d1_14) rfl rfl ?_
      show own_S p e below T1 m 15 #[iv (1 : Int32), rv aA, iv (8 : Int32), iv (0 : Int32), .unset] [(.ref aA)] _
      refine XS.iloadN X1.here hx rfl (hb hby d1_15) rfl ?_
      show own_S p e below T1 m 16 #[iv (1 : Int32), rv aA, iv (8 : Int32), iv (0 : Int32), .unset] [(.int (0 : Int32)), (.ref aA)] _
      refine X1.aaload hx (j := (0 : Int32)) (v := (.ref en1)) (by rw [e1]; exact Ar3.1) (State.isArrayOf_alike hZ.alike Ar3.2.1) rfl Ar3.2.2 hin3 hat3 (g := (mkF m 16 #[iv (1 : Int32), rv aA, iv (8 : Int32), iv (0 : Int32), .unset] [(.int (0 : Int32)), (.ref aA)])) rfl rfl (hb hby d1_16) _ ?_
      show own_S p e below T1 m 17 #[iv (1 : Int32), rv aA, iv (8 : Int32), iv (0 : Int32), .unset] [(.ref en1)] _
      refine XS.astore X1.here hx rfl (hb hby d1_17) rfl rfl (l' := #[iv (1 : Int32), rv aA, iv (8 : Int32), iv (0 : Int32), rv en1]) rfl ?_
      show own_S p e below T1 m 19 #[iv (1 : Int32), rv aA, iv (8 : Int32), iv (0 : Int32), rv en1] [] _
      refine XS.aload X1.here hx rfl (hb hby d1_19) rfl rfl ?_
      show own_S p e below T1 m 21 #[iv (1 : Int32), rv aA, iv (8 : Int32), iv (0 : Int32), rv en1] [(.ref en1)] _
      refine st4 _ ?_
      show own_S p e below T4 m 24 #[iv (1 : Int32), rv aA, iv (8 : Int32), iv (0 : Int32), rv en1] [(.int (1 : Int32))] _
      refine XS.iloadN X4.here hx rfl (hb hby d1_24) rfl ?_
      show own_S p e below T4 m 25 #[iv (1 : Int32), rv aA, iv (8 : Int32), iv (0 : Int32), rv en1] [(.int (1 : Int32)), (.int (1 : Int32))] _
      refine XS.icmpNo X4.here hx rfl (hb hby d1_25) rfl (teq (by decide : (1 : Int32) = (1 : Int32))).2 ?_
      show own_S p e below T4 m 28 #[iv (1 : Int32), rv aA, iv (8 : Int32), iv (0 : Int32), rv en1] [] _
      refine XS.aload X4.here hx rfl (hb hby d1_28) rfl rfl ?_
      exact k)
    obtain ⟨fs, hr, hrun, hended, hW, hsame⟩ := X4.leave (v := some (.ref en1)) (fun h => by rw [Bd.returns] at h; cases h)
    refine ⟨_, _, pre5 _ ?_, hrun, hended, _, _, rfl, ?_, ⟨_, rfl⟩, hW, hsame.mono (by decide) (by decide)⟩
    · show own_S p e below T4 m 30 #[iv (1 : Int32), rv aA, iv (8 : Int32), iv (0 : Int32), rv en1] [(.ref en1)] _
      exact retOut X4 hx (t := (.object "com/example/broker/broker/wire/Command")) Bd.returns rfl (Or.inr (Or.inr (Or.inr (Or.inr ⟨rfl, rfl, rfl⟩)))) (hb hby d1_30) hr
    · show Q1 Z (1 : Int32) en1 en2 en3 en4 en5 en6 en7 en8 aA kA h0 n0 _ T4.heap _
      rw [e4]
      exact ⟨rfl, N0, rfl⟩
  ·  -- case
    obtain ⟨T6, X6, e6, st6⟩ := getS2 X0 hx hZ hown (host := "") (Or.inl (hw _ (List.mem_of_getElem? (i := 5) rfl))) Via.refl e0 S_A (g := (mkF m 0 #[iv (2 : Int32), .unset, .unset, .unset, .unset] [])) rfl (hb hby d1_0)
    obtain ⟨cl7, Ar7, q7, S7, M7, -, -⟩ := id V_A
    obtain ⟨cl8, Ar8, q8, S8, M8, H8, G8⟩ := id V_A
    have hin8 : ¬ ((0 : Int32) < 0 ∨ cl8.slots.size ≤ ((0 : Int32)).toNatClampNeg) := inb_of S8 ⟨by decide, by decide⟩
    have hat8 : cl8.slots[((0 : Int32)).toNatClampNeg]? = some (.ref en1) := H8.at hin8 rfl
    obtain ⟨T9, X9, e9, st9⟩ := getF X6 hx hZ hown (host := "") (Or.inl (hw _ (List.mem_of_getElem? (i := 8) rfl))) Via.refl e6 F_en1 (g := (mkF m 21 #[iv (2 : Int32), rv aA, iv (8 : Int32), iv (0 : Int32), rv en1] [(.ref en1)])) rfl rfl (hb hby d1_21)
    obtain ⟨cl10, Ar10, q10, S10, M10, H10, G10⟩ := id V_A
    have hin10 : ¬ ((1 : Int32) < 0 ∨ cl10.slots.size ≤ ((1 : Int32)).toNatClampNeg) := inb_of S10 ⟨by decide, by decide⟩
    have hat10 : cl10.slots[((1 : Int32)).toNatClampNeg]? = some (.ref en2) := H10.at hin10 rfl
    obtain ⟨T11, X11, e11, st11⟩ := getF X9 hx hZ hown (host := "") (Or.inl (hw _ (List.mem_of_getElem? (i := 8) rfl))) Via.refl e9 F_en2 (g := (mkF m 21 #[iv (2 : Int32), rv aA, iv (8 : Int32), iv (1 : Int32), rv en2] [(.ref en2)])) rfl rfl (hb hby d1_21)
    have pre12 : ∀ t, own_S p e below T11 m 30 #[iv (2 : Int32), rv aA, iv (8 : Int32), iv (1 : Int32), rv en2] [(.ref en2)] t → Steps p.tables e below (s₁.setTop (entryFrame m #[(.int (2 : Int32))] 5)) t := fun t k => pre0 t (by
      show own_S p e below s₁ m 0 #[iv (2 : Int32), .unset, .unset, .unset, .unset] [] _
      refine st6 _ ?_
      show own_S p e below T6 m 3 #[iv (2 : Int32), .unset, .unset, .unset, .unset] [(.ref aA)] _
      refine XS.astoreN X6.here hx rfl (hb hby d1_3) rfl rfl (l' := #[iv (2 : Int32), rv aA, .unset, .unset, .unset]) rfl ?_
      show own_S p e below T6 m 4 #[iv (2 : Int32), rv aA, .unset, .unset, .unset] [] _
      refine XS.aloadN X6.here hx rfl (hb hby d1_4) rfl rfl ?_
      show own_S p e below T6 m 5 #[iv (2 : Int32), rv aA, .unset, .unset, .unset] [(.ref aA)] _
      refine X6.arraylength hx (by rw [e6]; exact Ar7.1) (State.isArrayOf_alike hZ.alike Ar7.2.1) (g := (mkF m 5 #[iv (2 : Int32), rv aA, .unset, .unset, .unset] [(.ref aA)])) rfl rfl (hb hby d1_5) _ ?_
      rw [len_of S7 M7]
      show own_S p e below T6 m 6 #[iv (2 : Int32), rv aA, .unset, .unset, .unset] [(.int (8 : Int32))] _
      refine XS.istoreN X6.here hx rfl (hb hby d1_6) rfl (l' := #[iv (2 : Int32), rv aA, iv (8 : Int32), .unset, .unset]) rfl ?_
      show own_S p e below T6 m 7 #[iv (2 : Int32), rv aA, iv (8 : Int32), .unset, .unset] [] _
      refine XS.iconst X6.here hx rfl (hb hby d1_7) ?_
      show own_S p e below T6 m 8 #[iv (2 : Int32), rv aA, iv (8 : Int32), .unset, .unset] [(.int (0 : Int32))] _
      refine XS.istoreN X6.here hx rfl (hb hby d1_8) rfl (l' := #[iv (2 : Int32), rv aA, iv (8 : Int32), iv (0 : Int32), .unset]) rfl ?_
      show own_S p e below T6 m 9 #[iv (2 : Int32), rv aA, iv (8 : Int32), iv (0 : Int32), .unset] [] _
      refine XS.iloadN X6.here hx rfl (hb hby d1_9) rfl ?_
      show own_S p e below T6 m 10 #[iv (2 : Int32), rv aA, iv (8 : Int32), iv (0 : Int32), .unset] [(.int (0 : Int32))] _
      refine XS.iloadN X6.here hx rfl (hb hby d1_10) rfl ?_
      show own_S p e below T6 m 11 #[iv (2 : Int32), rv aA, iv (8 : Int32), iv (0 : Int32), .unset] [(.int (8 : Int32)), (.int (0 : Int32))] _
      refine XS.icmpNo X6.here hx rfl (hb hby d1_11) rfl (tlt (by decide : (0 : Int32) < (8 : Int32))).2.1 ?_
      show own_S p e below T6 m 14 #[iv (2 : Int32), rv aA, iv (8 : Int32), iv (0 : Int32), .unset] [] _
      refine XS.aloadN X6.here hx rfl (hb hby d1_14) rfl rfl ?_
      show own_S p e below T6 m 15 #[iv (2 : Int32), rv aA, iv (8 : Int32), iv (0 : Int32), .unset] [(.ref aA)] _
      refine XS.iloadN X6.here hx rfl (hb hby d1_15) rfl ?_
      show own_S p e below T6 m 16 #[iv (2 : Int32), rv aA, iv (8 : Int32), iv (0 : Int32), .unset] [(.int (0 : Int32)), (.ref aA)] _
      refine X6.aaload hx (j := (0 : Int32)) (v := (.ref en1)) (by rw [e6]; exact Ar8.1) (State.isArrayOf_alike hZ.alike Ar8.2.1) rfl Ar8.2.2 hin8 hat8 (g := (mkF m 16 #[iv (2 : Int32), rv aA, iv (8 : Int32), iv (0 : Int32), .unset] [(.int (0 : Int32)), (.ref aA)])) rfl rfl (hb hby d1_16) _ ?_
      show own_S p e below T6 m 17 #[iv (2 : Int32), rv aA, iv (8 : Int32), iv (0 : Int32), .unset] [(.ref en1)] _
      refine XS.astore X6.here hx rfl (hb hby d1_17) rfl rfl (l' := #[iv (2 : Int32), rv aA, iv (8 : Int32), iv (0 : Int32), rv en1]) rfl ?_
      show own_S p e below T6 m 19 #[iv (2 : Int32), rv aA, iv (8 : Int32), iv (0 : Int32), rv en1] [] _
      refine XS.aload X6.here hx rfl (hb hby d1_19) rfl rfl ?_
      show own_S p e below T6 m 21 #[iv (2 : Int32), rv aA, iv (8 : Int32), iv (0 : Int32), rv en1] [(.ref en1)] _
      refine st9 _ ?_
      show own_S p e below T9 m 24 #[iv (2 : Int32), rv aA, iv (8 : Int32), iv (0 : Int32), rv en1] [(.int (1 : Int32))] _
      refine XS.iloadN X9.here hx rfl (hb hby d1_24) rfl ?_
      show own_S p e below T9 m 25 #[iv (2 : Int32), rv aA, iv (8 : Int32), iv (0 : Int32), rv en1] [(.int (2 : Int32)), (.int (1 : Int32))] _
      refine XS.icmpYes X9.here hx rfl (pc0 := 25) (pc' := 31) rfl (hb hby d1_25) rfl (feq (by decide : ¬ ((1 : Int32) = (2 : Int32)))).2 (by decide) (by decide) ?_
      show own_S p e below T9 m 31 #[iv (2 : Int32), rv aA, iv (8 : Int32), iv (0 : Int32), rv en1] [] _
      refine XS.iinc X9.here hx rfl (hb hby d1_31) rfl (l' := #[iv (2 : Int32), rv aA, iv (8 : Int32), iv (1 : Int32), rv en1]) rfl ?_
      show own_S p e below T9 m 34 #[iv (2 : Int32), rv aA, iv (8 : Int32), iv (1 : Int32), rv en1] [] _
      refine XS.goto X9.here hx rfl (pc0 := 34) (pc' := 9) rfl (hb hby d1_34) (by decide) (by decide) ?_
      show own_S p e below T9 m 9 #[iv (2 : Int32), rv aA, iv (8 : Int32), iv (1 : Int32), rv en1] [] _
      refine XS.iloadN X9.here hx rfl (hb hby d1_9) rfl ?_
      show own_S p e below T9 m 10 #[iv (2 : Int32), rv aA, iv (8 : Int32), iv (1 : Int32), rv en1] [(.int (1 : Int32))] _
      refine XS.iloadN X9.here hx rfl (hb hby d1_10) rfl ?_
      show own_S p e below T9 m 11 #[iv (2 : Int32), rv aA, iv (8 : Int32), iv (1 : Int32), rv en1] [(.int (8 : Int32)), (.int (1 : Int32))] _
      refine XS.icmpNo X9.here hx rfl (hb hby d1_11) rfl (tlt (by decide : (1 : Int32) < (8 : Int32))).2.1 ?_
      show own_S p e below T9 m 14 #[iv (2 : Int32), rv aA, iv (8 : Int32), iv (1 : Int32), rv en1] [] _
      refine XS.aloadN X9.here hx rfl (hb hby d1_14) rfl rfl ?_
      show own_S p e below T9 m 15 #[iv (2 : Int32), rv aA, iv (8 : Int32), iv (1 : Int32), rv en1] [(.ref aA)] _
      refine XS.iloadN X9.here hx rfl (hb hby d1_15) rfl ?_
      show own_S p e below T9 m 16 #[iv (2 : Int32), rv aA, iv (8 : Int32), iv (1 : Int32), rv en1] [(.int (1 : Int32)), (.ref aA)] _
      refine X9.aaload hx (j := (1 : Int32)) (v := (.ref en2)) (by rw [e9]; exact Ar10.1) (State.isArrayOf_alike hZ.alike Ar10.2.1) rfl Ar10.2.2 hin10 hat10 (g := (mkF m 16 #[iv (2 : Int32), rv aA, iv (8 : Int32), iv (1 : Int32), rv en1] [(.int (1 : Int32)), (.ref aA)])) rfl rfl (hb hby d1_16) _ ?_
      show own_S p e below T9 m 17 #[iv (2 : Int32), rv aA, iv (8 : Int32), iv (1 : Int32), rv en1] [(.ref en2)] _
      refine XS.astore X9.here hx rfl (hb hby d1_17) rfl rfl (l' := #[iv (2 : Int32), rv aA, iv (8 : Int32), iv (1 : Int32), rv en2]) rfl ?_
      show own_S p e below T9 m 19 #[iv (2 : Int32), rv aA, iv (8 : Int32), iv (1 : Int32), rv en2] [] _
      refine XS.aload X9.here hx rfl (hb hby d1_19) rfl rfl ?_
      show own_S p e below T9 m 21 #[iv (2 : Int32), rv aA, iv (8 : Int32), iv (1 : Int32), rv en2] [(.ref en2)] _
      refine st11 _ ?_
      show own_S p e below T11 m 24 #[iv (2 : Int32), rv aA, iv (8 : Int32), iv (1 : Int32), rv en2] [(.int (2 : Int32))] _
      refine XS.iloadN X11.here hx rfl (hb hby d1_24) rfl ?_
      show own_S p e below T11 m 25 #[iv (2 : Int32), rv aA, iv (8 : Int32), iv (1 : Int32), rv en2] [(.int (2 : Int32)), (.int (2 : Int32))] _
      refine XS.icmpNo X11.here hx rfl (hb hby d1_25) rfl (teq (by decide : (2 : Int32) = (2 : Int32))).2 ?_
      show own_S p e below T11 m 28 #[iv (2 : Int32), rv aA, iv (8 : Int32), iv (1 : Int32), rv en2] [] _
      refine XS.aload X11.here hx rfl (hb hby d1_28) rfl rfl ?_
      exact k)
    obtain ⟨fs, hr, hrun, hended, hW, hsame⟩ := X11.leave (v := some (.ref en2)) (fun h => by rw [Bd.returns] at h; cases h)
    refine ⟨_, _, pre12 _ ?_, hrun, hended, _, _, rfl, ?_, ⟨_, rfl⟩, hW, hsame.mono (by decide) (by decide)⟩
    · show own_S p e below T11 m 30 #[iv (2 : Int32), rv aA, iv (8 : Int32), iv (1 : Int32), rv en2] [(.ref en2)] _
      exact retOut X11 hx (t := (.object "com/example/broker/broker/wire/Command")) Bd.returns rfl (Or.inr (Or.inr (Or.inr (Or.inr ⟨rfl, rfl, rfl⟩)))) (hb hby d1_30) hr
    · show Q1 Z (2 : Int32) en1 en2 en3 en4 en5 en6 en7 en8 aA kA h0 n0 _ T11.heap _
      rw [e11]
      exact ⟨rfl, N0, rfl⟩
  ·  -- case
    obtain ⟨T13, X13, e13, st13⟩ := getS2 X0 hx hZ hown (host := "") (Or.inl (hw _ (List.mem_of_getElem? (i := 5) rfl))) Via.refl e0 S_A (g := (mkF m 0 #[iv (3 : Int32), .unset, .unset, .unset, .unset] [])) rfl (hb hby d1_0)
    obtain ⟨cl14, Ar14, q14, S14, M14, -, -⟩ := id V_A
    obtain ⟨cl15, Ar15, q15, S15, M15, H15, G15⟩ := id V_A
    have hin15 : ¬ ((0 : Int32) < 0 ∨ cl15.slots.size ≤ ((0 : Int32)).toNatClampNeg) := inb_of S15 ⟨by decide, by decide⟩
    have hat15 : cl15.slots[((0 : Int32)).toNatClampNeg]? = some (.ref en1) := H15.at hin15 rfl
    obtain ⟨T16, X16, e16, st16⟩ := getF X13 hx hZ hown (host := "") (Or.inl (hw _ (List.mem_of_getElem? (i := 8) rfl))) Via.refl e13 F_en1 (g := (mkF m 21 #[iv (3 : Int32), rv aA, iv (8 : Int32), iv (0 : Int32), rv en1] [(.ref en1)])) rfl rfl (hb hby d1_21)
    obtain ⟨cl17, Ar17, q17, S17, M17, H17, G17⟩ := id V_A
    have hin17 : ¬ ((1 : Int32) < 0 ∨ cl17.slots.size ≤ ((1 : Int32)).toNatClampNeg) := inb_of S17 ⟨by decide, by decide⟩
    have hat17 : cl17.slots[((1 : Int32)).toNatClampNeg]? = some (.ref en2) := H17.at hin17 rfl
    obtain ⟨T18, X18, e18, st18⟩ := getF X16 hx hZ hown (host := "") (Or.inl (hw _ (List.mem_of_getElem? (i := 8) rfl))) Via.refl e16 F_en2 (g := (mkF m 21 #[iv (3 : Int32), rv aA, iv (8 : Int32), iv (1 : Int32), rv en2] [(.ref en2)])) rfl rfl (hb hby d1_21)
    obtain ⟨cl19, Ar19, q19, S19, M19, H19, G19⟩ := id V_A
    have hin19 : ¬ ((2 : Int32) < 0 ∨ cl19.slots.size ≤ ((2 : Int32)).toNatClampNeg) := inb_of S19 ⟨by decide, by decide⟩
    have hat19 : cl19.slots[((2 : Int32)).toNatClampNeg]? = some (.ref en3) := H19.at hin19 rfl
    obtain ⟨T20, X20, e20, st20⟩ := getF X18 hx hZ hown (host := "") (Or.inl (hw _ (List.mem_of_getElem? (i := 8) rfl))) Via.refl e18 F_en3 (g := (mkF m 21 #[iv (3 : Int32), rv aA, iv (8 : Int32), iv (2 : Int32), rv en3] [(.ref en3)])) rfl rfl (hb hby d1_21)
    have pre21 : ∀ t, own_S p e below T20 m 30 #[iv (3 : Int32), rv aA, iv (8 : Int32), iv (2 : Int32), rv en3] [(.ref en3)] t → Steps p.tables e below (s₁.setTop (entryFrame m #[(.int (3 : Int32))] 5)) t := fun t k => pre0 t (by
      show own_S p e below s₁ m 0 #[iv (3 : Int32), .unset, .unset, .unset, .unset] [] _
      refine st13 _ ?_
      show own_S p e below T13 m 3 #[iv (3 : Int32), .unset, .unset, .unset, .unset] [(.ref aA)] _
      refine XS.astoreN X13.here hx rfl (hb hby d1_3) rfl rfl (l' := #[iv (3 : Int32), rv aA, .unset, .unset, .unset]) rfl ?_
      show own_S p e below T13 m 4 #[iv (3 : Int32), rv aA, .unset, .unset, .unset] [] _
      refine XS.aloadN X13.here hx rfl (hb hby d1_4) rfl rfl ?_
      show own_S p e below T13 m 5 #[iv (3 : Int32), rv aA, .unset, .unset, .unset] [(.ref aA)] _
      refine X13.arraylength hx (by rw [e13]; exact Ar14.1) (State.isArrayOf_alike hZ.alike Ar14.2.1) (g := (mkF m 5 #[iv (3 : Int32), rv aA, .unset, .unset, .unset] [(.ref aA)])) rfl rfl (hb hby d1_5) _ ?_
      rw [len_of S14 M14]
      show own_S p e below T13 m 6 #[iv (3 : Int32), rv aA, .unset, .unset, .unset] [(.int (8 : Int32))] _
      refine XS.istoreN X13.here hx rfl (hb hby d1_6) rfl (l' := #[iv (3 : Int32), rv aA, iv (8 : Int32), .unset, .unset]) rfl ?_
      show own_S p e below T13 m 7 #[iv (3 : Int32), rv aA, iv (8 : Int32), .unset, .unset] [] _
      refine XS.iconst X13.here hx rfl (hb hby d1_7) ?_
      show own_S p e below T13 m 8 #[iv (3 : Int32), rv aA, iv (8 : Int32), .unset, .unset] [(.int (0 : Int32))] _
      refine XS.istoreN X13.here hx rfl (hb hby d1_8) rfl (l' := #[iv (3 : Int32), rv aA, iv (8 : Int32), iv (0 : Int32), .unset]) rfl ?_
      show own_S p e below T13 m 9 #[iv (3 : Int32), rv aA, iv (8 : Int32), iv (0 : Int32), .unset] [] _
      refine XS.iloadN X13.here hx rfl (hb hby d1_9) rfl ?_
      show own_S p e below T13 m 10 #[iv (3 : Int32), rv aA, iv (8 : Int32), iv (0 : Int32), .unset] [(.int (0 : Int32))] _
      refine XS.iloadN X13.here hx rfl (hb hby d1_10) rfl ?_
      show own_S p e below T13 m 11 #[iv (3 : Int32), rv aA, iv (8 : Int32), iv (0 : Int32), .unset] [(.int (8 : Int32)), (.int (0 : Int32))] _
      refine XS.icmpNo X13.here hx rfl (hb hby d1_11) rfl (tlt (by decide : (0 : Int32) < (8 : Int32))).2.1 ?_
      show own_S p e below T13 m 14 #[iv (3 : Int32), rv aA, iv (8 : Int32), iv (0 : Int32), .unset] [] _
      refine XS.aloadN X13.here hx rfl (hb hby d1_14) rfl rfl ?_
      show own_S p e below T13 m 15 #[iv (3 : Int32), rv aA, iv (8 : Int32), iv (0 : Int32), .unset] [(.ref aA)] _
      refine XS.iloadN X13.here hx rfl (hb hby d1_15) rfl ?_
      show own_S p e below T13 m 16 #[iv (3 : Int32), rv aA, iv (8 : Int32), iv (0 : Int32), .unset] [(.int (0 : Int32)), (.ref aA)] _
      refine X13.aaload hx (j := (0 : Int32)) (v := (.ref en1)) (by rw [e13]; exact Ar15.1) (State.isArrayOf_alike hZ.alike Ar15.2.1) rfl Ar15.2.2 hin15 hat15 (g := (mkF m 16 #[iv (3 : Int32), rv aA, iv (8 : Int32), iv (0 : Int32), .unset] [(.int (0 : Int32)), (.ref aA)])) rfl rfl (hb hby d1_16) _ ?_
      show own_S p e below T13 m 17 #[iv (3 : Int32), rv aA, iv (8 : Int32), iv (0 : Int32), .unset] [(.ref en1)] _
      refine XS.astore X13.here hx rfl (hb hby d1_17) rfl rfl (l' := #[iv (3 : Int32), rv aA, iv (8 : Int32), iv (0 : Int32), rv en1]) rfl ?_
      show own_S p e below T13 m 19 #[iv (3 : Int32), rv aA, iv (8 : Int32), iv (0 : Int32), rv en1] [] _
      refine XS.aload X13.here hx rfl (hb hby d1_19) rfl rfl ?_
      show own_S p e below T13 m 21 #[iv (3 : Int32), rv aA, iv (8 : Int32), iv (0 : Int32), rv en1] [(.ref en1)] _
      refine st16 _ ?_
      show own_S p e below T16 m 24 #[iv (3 : Int32), rv aA, iv (8 : Int32), iv (0 : Int32), rv en1] [(.int (1 : Int32))] _
      refine XS.iloadN X16.here hx rfl (hb hby d1_24) rfl ?_
      show own_S p e below T16 m 25 #[iv (3 : Int32), rv aA, iv (8 : Int32), iv (0 : Int32), rv en1] [(.int (3 : Int32)), (.int (1 : Int32))] _
      refine XS.icmpYes X16.here hx rfl (pc0 := 25) (pc' := 31) rfl (hb hby d1_25) rfl (feq (by decide : ¬ ((1 : Int32) = (3 : Int32)))).2 (by decide) (by decide) ?_
      show own_S p e below T16 m 31 #[iv (3 : Int32), rv aA, iv (8 : Int32), iv (0 : Int32), rv en1] [] _
      refine XS.iinc X16.here hx rfl (hb hby d1_31) rfl (l' := #[iv (3 : Int32), rv aA, iv (8 : Int32), iv (1 : Int32), rv en1]) rfl ?_
      show own_S p e below T16 m 34 #[iv (3 : Int32), rv aA, iv (8 : Int32), iv (1 : Int32), rv en1] [] _
      refine XS.goto X16.here hx rfl (pc0 := 34) (pc' := 9) rfl (hb hby d1_34) (by decide) (by decide) ?_
      show own_S p e below T16 m 9 #[iv (3 : Int32), rv aA, iv (8 : Int32), iv (1 : Int32), rv en1] [] _
      refine XS.iloadN X16.here hx rfl (hb hby d1_9) rfl ?_
      show own_S p e below T16 m 10 #[iv (3 : Int32), rv aA, iv (8 : Int32), iv (1 : Int32), rv en1] [(.int (1 : Int32))] _
      refine XS.iloadN X16.here hx rfl (hb hby d1_10) rfl ?_
      show own_S p e below T16 m 11 #[iv (3 : Int32), rv aA, iv (8 : Int32), iv (1 : Int32), rv en1] [(.int (8 : Int32)), (.int (1 : Int32))] _
      refine XS.icmpNo X16.here hx rfl (hb hby d1_11) rfl (tlt (by decide : (1 : Int32) < (8 : Int32))).2.1 ?_
      show own_S p e below T16 m 14 #[iv (3 : Int32), rv aA, iv (8 : Int32), iv (1 : Int32), rv en1] [] _
      refine XS.aloadN X16.here hx rfl (hb hby d1_14) rfl rfl ?_
      show own_S p e below T16 m 15 #[iv (3 : Int32), rv aA, iv (8 : Int32), iv (1 : Int32), rv en1] [(.ref aA)] _
      refine XS.iloadN X16.here hx rfl (hb hby d1_15) rfl ?_
      show own_S p e below T16 m 16 #[iv (3 : Int32), rv aA, iv (8 : Int32), iv (1 : Int32), rv en1] [(.int (1 : Int32)), (.ref aA)] _
      refine X16.aaload hx (j := (1 : Int32)) (v := (.ref en2)) (by rw [e16]; exact Ar17.1) (State.isArrayOf_alike hZ.alike Ar17.2.1) rfl Ar17.2.2 hin17 hat17 (g := (mkF m 16 #[iv (3 : Int32), rv aA, iv (8 : Int32), iv (1 : Int32), rv en1] [(.int (1 : Int32)), (.ref aA)])) rfl rfl (hb hby d1_16) _ ?_
      show own_S p e below T16 m 17 #[iv (3 : Int32), rv aA, iv (8 : Int32), iv (1 : Int32), rv en1] [(.ref en2)] _
      refine XS.astore X16.here hx rfl (hb hby d1_17) rfl rfl (l' := #[iv (3 : Int32), rv aA, iv (8 : Int32), iv (1 : Int32), rv en2]) rfl ?_
      show own_S p e below T16 m 19 #[iv (3 : Int32), rv aA, iv (8 : Int32), iv (1 : Int32), rv en2] [] _
      refine XS.aload X16.here hx rfl (hb hby d1_19) rfl rfl ?_
      show own_S p e below T16 m 21 #[iv (3 : Int32), rv aA, iv (8 : Int32), iv (1 : Int32), rv en2] [(.ref en2)] _
      refine st18 _ ?_
      show own_S p e below T18 m 24 #[iv (3 : Int32), rv aA, iv (8 : Int32), iv (1 : Int32), rv en2] [(.int (2 : Int32))] _
      refine XS.iloadN X18.here hx rfl (hb hby d1_24) rfl ?_
      show own_S p e below T18 m 25 #[iv (3 : Int32), rv aA, iv (8 : Int32), iv (1 : Int32), rv en2] [(.int (3 : Int32)), (.int (2 : Int32))] _
      refine XS.icmpYes X18.here hx rfl (pc0 := 25) (pc' := 31) rfl (hb hby d1_25) rfl (feq (by decide : ¬ ((2 : Int32) = (3 : Int32)))).2 (by decide) (by decide) ?_
      show own_S p e below T18 m 31 #[iv (3 : Int32), rv aA, iv (8 : Int32), iv (1 : Int32), rv en2] [] _
      refine XS.iinc X18.here hx rfl (hb hby d1_31) rfl (l' := #[iv (3 : Int32), rv aA, iv (8 : Int32), iv (2 : Int32), rv en2]) rfl ?_
      show own_S p e below T18 m 34 #[iv (3 : Int32), rv aA, iv (8 : Int32), iv (2 : Int32), rv en2] [] _
      refine XS.goto X18.here hx rfl (pc0 := 34) (pc' := 9) rfl (hb hby d1_34) (by decide) (by decide) ?_
      show own_S p e below T18 m 9 #[iv (3 : Int32), rv aA, iv (8 : Int32), iv (2 : Int32), rv en2] [] _
      refine XS.iloadN X18.here hx rfl (hb hby d1_9) rfl ?_
      show own_S p e below T18 m 10 #[iv (3 : Int32), rv aA, iv (8 : Int32), iv (2 : Int32), rv en2] [(.int (2 : Int32))] _
      refine XS.iloadN X18.here hx rfl (hb hby d1_10) rfl ?_
      show own_S p e below T18 m 11 #[iv (3 : Int32), rv aA, iv (8 : Int32), iv (2 : Int32), rv en2] [(.int (8 : Int32)), (.int (2 : Int32))] _
      refine XS.icmpNo X18.here hx rfl (hb hby d1_11) rfl (tlt (by decide : (2 : Int32) < (8 : Int32))).2.1 ?_
      show own_S p e below T18 m 14 #[iv (3 : Int32), rv aA, iv (8 : Int32), iv (2 : Int32), rv en2] [] _
      refine XS.aloadN X18.here hx rfl (hb hby d1_14) rfl rfl ?_
      show own_S p e below T18 m 15 #[iv (3 : Int32), rv aA, iv (8 : Int32), iv (2 : Int32), rv en2] [(.ref aA)] _
      refine XS.iloadN X18.here hx rfl (hb hby d1_15) rfl ?_
      show own_S p e below T18 m 16 #[iv (3 : Int32), rv aA, iv (8 : Int32), iv (2 : Int32), rv en2] [(.int (2 : Int32)), (.ref aA)] _
      refine X18.aaload hx (j := (2 : Int32)) (v := (.ref en3)) (by rw [e18]; exact Ar19.1) (State.isArrayOf_alike hZ.alike Ar19.2.1) rfl Ar19.2.2 hin19 hat19 (g := (mkF m 16 #[iv (3 : Int32), rv aA, iv (8 : Int32), iv (2 : Int32), rv en2] [(.int (2 : Int32)), (.ref aA)])) rfl rfl (hb hby d1_16) _ ?_
      show own_S p e below T18 m 17 #[iv (3 : Int32), rv aA, iv (8 : Int32), iv (2 : Int32), rv en2] [(.ref en3)] _
      refine XS.astore X18.here hx rfl (hb hby d1_17) rfl rfl (l' := #[iv (3 : Int32), rv aA, iv (8 : Int32), iv (2 : Int32), rv en3]) rfl ?_
      show own_S p e below T18 m 19 #[iv (3 : Int32), rv aA, iv (8 : Int32), iv (2 : Int32), rv en3] [] _
      refine XS.aload X18.here hx rfl (hb hby d1_19) rfl rfl ?_
      show own_S p e below T18 m 21 #[iv (3 : Int32), rv aA, iv (8 : Int32), iv (2 : Int32), rv en3] [(.ref en3)] _
      refine st20 _ ?_
      show own_S p e below T20 m 24 #[iv (3 : Int32), rv aA, iv (8 : Int32), iv (2 : Int32), rv en3] [(.int (3 : Int32))] _
      refine XS.iloadN X20.here hx rfl (hb hby d1_24) rfl ?_
      show own_S p e below T20 m 25 #[iv (3 : Int32), rv aA, iv (8 : Int32), iv (2 : Int32), rv en3] [(.int (3 : Int32)), (.int (3 : Int32))] _
      refine XS.icmpNo X20.here hx rfl (hb hby d1_25) rfl (teq (by decide : (3 : Int32) = (3 : Int32))).2 ?_
      show own_S p e below T20 m 28 #[iv (3 : Int32), rv aA, iv (8 : Int32), iv (2 : Int32), rv en3] [] _
      refine XS.aload X20.here hx rfl (hb hby d1_28) rfl rfl ?_
      exact k)
    obtain ⟨fs, hr, hrun, hended, hW, hsame⟩ := X20.leave (v := some (.ref en3)) (fun h => by rw [Bd.returns] at h; cases h)
    refine ⟨_, _, pre21 _ ?_, hrun, hended, _, _, rfl, ?_, ⟨_, rfl⟩, hW, hsame.mono (by decide) (by decide)⟩
    · show own_S p e below T20 m 30 #[iv (3 : Int32), rv aA, iv (8 : Int32), iv (2 : Int32), rv en3] [(.ref en3)] _
      exact retOut X20 hx (t := (.object "com/example/broker/broker/wire/Command")) Bd.returns rfl (Or.inr (Or.inr (Or.inr (Or.inr ⟨rfl, rfl, rfl⟩)))) (hb hby d1_30) hr
    · show Q1 Z (3 : Int32) en1 en2 en3 en4 en5 en6 en7 en8 aA kA h0 n0 _ T20.heap _
      rw [e20]
      exact ⟨rfl, N0, rfl⟩
  ·  -- case
    obtain ⟨T22, X22, e22, st22⟩ := getS2 X0 hx hZ hown (host := "") (Or.inl (hw _ (List.mem_of_getElem? (i := 5) rfl))) Via.refl e0 S_A (g := (mkF m 0 #[iv (4 : Int32), .unset, .unset, .unset, .unset] [])) rfl (hb hby d1_0)
    obtain ⟨cl23, Ar23, q23, S23, M23, -, -⟩ := id V_A
    obtain ⟨cl24, Ar24, q24, S24, M24, H24, G24⟩ := id V_A
    have hin24 : ¬ ((0 : Int32) < 0 ∨ cl24.slots.size ≤ ((0 : Int32)).toNatClampNeg) := inb_of S24 ⟨by decide, by decide⟩
    have hat24 : cl24.slots[((0 : Int32)).toNatClampNeg]? = some (.ref en1) := H24.at hin24 rfl
    obtain ⟨T25, X25, e25, st25⟩ := getF X22 hx hZ hown (host := "") (Or.inl (hw _ (List.mem_of_getElem? (i := 8) rfl))) Via.refl e22 F_en1 (g := (mkF m 21 #[iv (4 : Int32), rv aA, iv (8 : Int32), iv (0 : Int32), rv en1] [(.ref en1)])) rfl rfl (hb hby d1_21)
    obtain ⟨cl26, Ar26, q26, S26, M26, H26, G26⟩ := id V_A
    have hin26 : ¬ ((1 : Int32) < 0 ∨ cl26.slots.size ≤ ((1 : Int32)).toNatClampNeg) := inb_of S26 ⟨by decide, by decide⟩
    have hat26 : cl26.slots[((1 : Int32)).toNatClampNeg]? = some (.ref en2) := H26.at hin26 rfl
    obtain ⟨T27, X27, e27, st27⟩ := getF X25 hx hZ hown (host := "") (Or.inl (hw _ (List.mem_of_getElem? (i := 8) rfl))) Via.refl e25 F_en2 (g := (mkF m 21 #[iv (4 : Int32), rv aA, iv (8 : Int32), iv (1 : Int32), rv en2] [(.ref en2)])) rfl rfl (hb hby d1_21)
    obtain ⟨cl28, Ar28, q28, S28, M28, H28, G28⟩ := id V_A
    have hin28 : ¬ ((2 : Int32) < 0 ∨ cl28.slots.size ≤ ((2 : Int32)).toNatClampNeg) := inb_of S28 ⟨by decide, by decide⟩
    have hat28 : cl28.slots[((2 : Int32)).toNatClampNeg]? = some (.ref en3) := H28.at hin28 rfl
    obtain ⟨T29, X29, e29, st29⟩ := getF X27 hx hZ hown (host := "") (Or.inl (hw _ (List.mem_of_getElem? (i := 8) rfl))) Via.refl e27 F_en3 (g := (mkF m 21 #[iv (4 : Int32), rv aA, iv (8 : Int32), iv (2 : Int32), rv en3] [(.ref en3)])) rfl rfl (hb hby d1_21)
    obtain ⟨cl30, Ar30, q30, S30, M30, H30, G30⟩ := id V_A
    have hin30 : ¬ ((3 : Int32) < 0 ∨ cl30.slots.size ≤ ((3 : Int32)).toNatClampNeg) := inb_of S30 ⟨by decide, by decide⟩
    have hat30 : cl30.slots[((3 : Int32)).toNatClampNeg]? = some (.ref en4) := H30.at hin30 rfl
    obtain ⟨T31, X31, e31, st31⟩ := getF X29 hx hZ hown (host := "") (Or.inl (hw _ (List.mem_of_getElem? (i := 8) rfl))) Via.refl e29 F_en4 (g := (mkF m 21 #[iv (4 : Int32), rv aA, iv (8 : Int32), iv (3 : Int32), rv en4] [(.ref en4)])) rfl rfl (hb hby d1_21)
    have pre32 : ∀ t, own_S p e below T31 m 30 #[iv (4 : Int32), rv aA, iv (8 : Int32), iv (3 : Int32), rv en4] [(.ref en4)] t → Steps p.tables e below (s₁.setTop (entryFrame m #[(.int (4 : Int32))] 5)) t := fun t k => pre0 t (by
      show own_S p e below s₁ m 0 #[iv (4 : Int32), .unset, .unset, .unset, .unset] [] _
      refine st22 _ ?_
      show own_S p e below T22 m 3 #[iv (4 : Int32), .unset, .unset, .unset, .unset] [(.ref aA)] _
      refine XS.astoreN X22.here hx rfl (hb hby d1_3) rfl rfl (l' := #[iv (4 : Int32), rv aA, .unset, .unset, .unset]) rfl ?_
      show own_S p e below T22 m 4 #[iv (4 : Int32), rv aA, .unset, .unset, .unset] [] _
      refine XS.aloadN X22.here hx rfl (hb hby d1_4) rfl rfl ?_
      show own_S p e below T22 m 5 #[iv (4 : Int32), rv aA, .unset, .unset, .unset] [(.ref aA)] _
      refine X22.arraylength hx (by rw [e22]; exact Ar23.1) (State.isArrayOf_alike hZ.alike Ar23.2.1) (g := (mkF m 5 #[iv (4 : Int32), rv aA, .unset, .unset, .unset] [(.ref aA)])) rfl rfl (hb hby d1_5) _ ?_
      rw [len_of S23 M23]
      show own_S p e below T22 m 6 #[iv (4 : Int32), rv aA, .unset, .unset, .unset] [(.int (8 : Int32))] _
      refine XS.istoreN X22.here hx rfl (hb hby d1_6) rfl (l' := #[iv (4 : Int32), rv aA, iv (8 : Int32), .unset, .unset]) rfl ?_
      show own_S p e below T22 m 7 #[iv (4 : Int32), rv aA, iv (8 : Int32), .unset, .unset] [] _
      refine XS.iconst X22.here hx rfl (hb hby d1_7) ?_
      show own_S p e below T22 m 8 #[iv (4 : Int32), rv aA, iv (8 : Int32), .unset, .unset] [(.int (0 : Int32))] _
      refine XS.istoreN X22.here hx rfl (hb hby d1_8) rfl (l' := #[iv (4 : Int32), rv aA, iv (8 : Int32), iv (0 : Int32), .unset]) rfl ?_
      show own_S p e below T22 m 9 #[iv (4 : Int32), rv aA, iv (8 : Int32), iv (0 : Int32), .unset] [] _
      refine XS.iloadN X22.here hx rfl (hb hby d1_9) rfl ?_
      show own_S p e below T22 m 10 #[iv (4 : Int32), rv aA, iv (8 : Int32), iv (0 : Int32), .unset] [(.int (0 : Int32))] _
      refine XS.iloadN X22.here hx rfl (hb hby d1_10) rfl ?_
      show own_S p e below T22 m 11 #[iv (4 : Int32), rv aA, iv (8 : Int32), iv (0 : Int32), .unset] [(.int (8 : Int32)), (.int (0 : Int32))] _
      refine XS.icmpNo X22.here hx rfl (hb hby d1_11) rfl (tlt (by decide : (0 : Int32) < (8 : Int32))).2.1 ?_
      show own_S p e below T22 m 14 #[iv (4 : Int32), rv aA, iv (8 : Int32), iv (0 : Int32), .unset] [] _
      refine XS.aloadN X22.here hx rfl (hb hby d1_14) rfl rfl ?_
      show own_S p e below T22 m 15 #[iv (4 : Int32), rv aA, iv (8 : Int32), iv (0 : Int32), .unset] [(.ref aA)] _
      refine XS.iloadN X22.here hx rfl (hb hby d1_15) rfl ?_
      show own_S p e below T22 m 16 #[iv (4 : Int32), rv aA, iv (8 : Int32), iv (0 : Int32), .unset] [(.int (0 : Int32)), (.ref aA)] _
      refine X22.aaload hx (j := (0 : Int32)) (v := (.ref en1)) (by rw [e22]; exact Ar24.1) (State.isArrayOf_alike hZ.alike Ar24.2.1) rfl Ar24.2.2 hin24 hat24 (g := (mkF m 16 #[iv (4 : Int32), rv aA, iv (8 : Int32), iv (0 : Int32), .unset] [(.int (0 : Int32)), (.ref aA)])) rfl rfl (hb hby d1_16) _ ?_
      show own_S p e below T22 m 17 #[iv (4 : Int32), rv aA, iv (8 : Int32), iv (0 : Int32), .unset] [(.ref en1)] _
      refine XS.astore X22.here hx rfl (hb hby d1_17) rfl rfl (l' := #[iv (4 : Int32), rv aA, iv (8 : Int32), iv (0 : Int32), rv en1]) rfl ?_
      show own_S p e below T22 m 19 #[iv (4 : Int32), rv aA, iv (8 : Int32), iv (0 : Int32), rv en1] [] _
      refine XS.aload X22.here hx rfl (hb hby d1_19) rfl rfl ?_
      show own_S p e below T22 m 21 #[iv (4 : Int32), rv aA, iv (8 : Int32), iv (0 : Int32), rv en1] [(.ref en1)] _
      refine st25 _ ?_
      show own_S p e below T25 m 24 #[iv (4 : Int32), rv aA, iv (8 : Int32), iv (0 : Int32), rv en1] [(.int (1 : Int32))] _
      refine XS.iloadN X25.here hx rfl (hb hby d1_24) rfl ?_
      show own_S p e below T25 m 25 #[iv (4 : Int32), rv aA, iv (8 : Int32), iv (0 : Int32), rv en1] [(.int (4 : Int32)), (.int (1 : Int32))] _
      refine XS.icmpYes X25.here hx rfl (pc0 := 25) (pc' := 31) rfl (hb hby d1_25) rfl (feq (by decide : ¬ ((1 : Int32) = (4 : Int32)))).2 (by decide) (by decide) ?_
      show own_S p e below T25 m 31 #[iv (4 : Int32), rv aA, iv (8 : Int32), iv (0 : Int32), rv en1] [] _
      refine XS.iinc X25.here hx rfl (hb hby d1_31) rfl (l' := #[iv (4 : Int32), rv aA, iv (8 : Int32), iv (1 : Int32), rv en1]) rfl ?_
      show own_S p e below T25 m 34 #[iv (4 : Int32), rv aA, iv (8 : Int32), iv (1 : Int32), rv en1] [] _
      refine XS.goto X25.here hx rfl (pc0 := 34) (pc' := 9) rfl (hb hby d1_34) (by decide) (by decide) ?_
      show own_S p e below T25 m 9 #[iv (4 : Int32), rv aA, iv (8 : Int32), iv (1 : Int32), rv en1] [] _
      refine XS.iloadN X25.here hx rfl (hb hby d1_9) rfl ?_
      show own_S p e below T25 m 10 #[iv (4 : Int32), rv aA, iv (8 : Int32), iv (1 : Int32), rv en1] [(.int (1 : Int32))] _
      refine XS.iloadN X25.here hx rfl (hb hby d1_10) rfl ?_
      show own_S p e below T25 m 11 #[iv (4 : Int32), rv aA, iv (8 : Int32), iv (1 : Int32), rv en1] [(.int (8 : Int32)), (.int (1 : Int32))] _
      refine XS.icmpNo X25.here hx rfl (hb hby d1_11) rfl (tlt (by decide : (1 : Int32) < (8 : Int32))).2.1 ?_
      show own_S p e below T25 m 14 #[iv (4 : Int32), rv aA, iv (8 : Int32), iv (1 : Int32), rv en1] [] _
      refine XS.aloadN X25.here hx rfl (hb hby d1_14) rfl rfl ?_
      show own_S p e below T25 m 15 #[iv (4 : Int32), rv aA, iv (8 : Int32), iv (1 : Int32), rv en1] [(.ref aA)] _
      refine XS.iloadN X25.here hx rfl (hb hby d1_15) rfl ?_
      show own_S p e below T25 m 16 #[iv (4 : Int32), rv aA, iv (8 : Int32), iv (1 : Int32), rv en1] [(.int (1 : Int32)), (.ref aA)] _
      refine X25.aaload hx (j := (1 : Int32)) (v := (.ref en2)) (by rw [e25]; exact Ar26.1) (State.isArrayOf_alike hZ.alike Ar26.2.1) rfl Ar26.2.2 hin26 hat26 (g := (mkF m 16 #[iv (4 : Int32), rv aA, iv (8 : Int32), iv (1 : Int32), rv en1] [(.int (1 : Int32)), (.ref aA)])) rfl rfl (hb hby d1_16) _ ?_
      show own_S p e below T25 m 17 #[iv (4 : Int32), rv aA, iv (8 : Int32), iv (1 : Int32), rv en1] [(.ref en2)] _
      refine XS.astore X25.here hx rfl (hb hby d1_17) rfl rfl (l' := #[iv (4 : Int32), rv aA, iv (8 : Int32), iv (1 : Int32), rv en2]) rfl ?_
      show own_S p e below T25 m 19 #[iv (4 : Int32), rv aA, iv (8 : Int32), iv (1 : Int32), rv en2] [] _
      refine XS.aload X25.here hx rfl (hb hby d1_19) rfl rfl ?_
      show own_S p e below T25 m 21 #[iv (4 : Int32), rv aA, iv (8 : Int32), iv (1 : Int32), rv en2] [(.ref en2)] _
      refine st27 _ ?_
      show own_S p e below T27 m 24 #[iv (4 : Int32), rv aA, iv (8 : Int32), iv (1 : Int32), rv en2] [(.int (2 : Int32))] _
      refine XS.iloadN X27.here hx rfl (hb hby d1_24) rfl ?_
      show own_S p e below T27 m 25 #[iv (4 : Int32), rv aA, iv (8 : Int32), iv (1 : Int32), rv en2] [(.int (4 : Int32)), (.int (2 : Int32))] _
      refine XS.icmpYes X27.here hx rfl (pc0 := 25) (pc' := 31) rfl (hb hby d1_25) rfl (feq (by decide : ¬ ((2 : Int32) = (4 : Int32)))).2 (by decide) (by decide) ?_
      show own_S p e below T27 m 31 #[iv (4 : Int32), rv aA, iv (8 : Int32), iv (1 : Int32), rv en2] [] _
      refine XS.iinc X27.here hx rfl (hb hby d1_31) rfl (l' := #[iv (4 : Int32), rv aA, iv (8 : Int32), iv (2 : Int32), rv en2]) rfl ?_
      show own_S p e below T27 m 34 #[iv (4 : Int32), rv aA, iv (8 : Int32), iv (2 : Int32), rv en2] [] _
      refine XS.goto X27.here hx rfl (pc0 := 34) (pc' := 9) rfl (hb hby d1_34) (by decide) (by decide) ?_
      show own_S p e below T27 m 9 #[iv (4 : Int32), rv aA, iv (8 : Int32), iv (2 : Int32), rv en2] [] _
      refine XS.iloadN X27.here hx rfl (hb hby d1_9) rfl ?_
      show own_S p e below T27 m 10 #[iv (4 : Int32), rv aA, iv (8 : Int32), iv (2 : Int32), rv en2] [(.int (2 : Int32))] _
      refine XS.iloadN X27.here hx rfl (hb hby d1_10) rfl ?_
      show own_S p e below T27 m 11 #[iv (4 : Int32), rv aA, iv (8 : Int32), iv (2 : Int32), rv en2] [(.int (8 : Int32)), (.int (2 : Int32))] _
      refine XS.icmpNo X27.here hx rfl (hb hby d1_11) rfl (tlt (by decide : (2 : Int32) < (8 : Int32))).2.1 ?_
      show own_S p e below T27 m 14 #[iv (4 : Int32), rv aA, iv (8 : Int32), iv (2 : Int32), rv en2] [] _
      refine XS.aloadN X27.here hx rfl (hb hby d1_14) rfl rfl ?_
      show own_S p e below T27 m 15 #[iv (4 : Int32), rv aA, iv (8 : Int32), iv (2 : Int32), rv en2] [(.ref aA)] _
      refine XS.iloadN X27.here hx rfl (hb hby d1_15) rfl ?_
      show own_S p e below T27 m 16 #[iv (4 : Int32), rv aA, iv (8 : Int32), iv (2 : Int32), rv en2] [(.int (2 : Int32)), (.ref aA)] _
      refine X27.aaload hx (j := (2 : Int32)) (v := (.ref en3)) (by rw [e27]; exact Ar28.1) (State.isArrayOf_alike hZ.alike Ar28.2.1) rfl Ar28.2.2 hin28 hat28 (g := (mkF m 16 #[iv (4 : Int32), rv aA, iv (8 : Int32), iv (2 : Int32), rv en2] [(.int (2 : Int32)), (.ref aA)])) rfl rfl (hb hby d1_16) _ ?_
      show own_S p e below T27 m 17 #[iv (4 : Int32), rv aA, iv (8 : Int32), iv (2 : Int32), rv en2] [(.ref en3)] _
      refine XS.astore X27.here hx rfl (hb hby d1_17) rfl rfl (l' := #[iv (4 : Int32), rv aA, iv (8 : Int32), iv (2 : Int32), rv en3]) rfl ?_
      show own_S p e below T27 m 19 #[iv (4 : Int32), rv aA, iv (8 : Int32), iv (2 : Int32), rv en3] [] _
      refine XS.aload X27.here hx rfl (hb hby d1_19) rfl rfl ?_
      show own_S p e below T27 m 21 #[iv (4 : Int32), rv aA, iv (8 : Int32), iv (2 : Int32), rv en3] [(.ref en3)] _
      refine st29 _ ?_
      show own_S p e below T29 m 24 #[iv (4 : Int32), rv aA, iv (8 : Int32), iv (2 : Int32), rv en3] [(.int (3 : Int32))] _
      refine XS.iloadN X29.here hx rfl (hb hby d1_24) rfl ?_
      show own_S p e below T29 m 25 #[iv (4 : Int32), rv aA, iv (8 : Int32), iv (2 : Int32), rv en3] [(.int (4 : Int32)), (.int (3 : Int32))] _
      refine XS.icmpYes X29.here hx rfl (pc0 := 25) (pc' := 31) rfl (hb hby d1_25) rfl (feq (by decide : ¬ ((3 : Int32) = (4 : Int32)))).2 (by decide) (by decide) ?_
      show own_S p e below T29 m 31 #[iv (4 : Int32), rv aA, iv (8 : Int32), iv (2 : Int32), rv en3] [] _
      refine XS.iinc X29.here hx rfl (hb hby d1_31) rfl (l' := #[iv (4 : Int32), rv aA, iv (8 : Int32), iv (3 : Int32), rv en3]) rfl ?_
      show own_S p e below T29 m 34 #[iv (4 : Int32), rv aA, iv (8 : Int32), iv (3 : Int32), rv en3] [] _
      refine XS.goto X29.here hx rfl (pc0 := 34) (pc' := 9) rfl (hb hby d1_34) (by decide) (by decide) ?_
      show own_S p e below T29 m 9 #[iv (4 : Int32), rv aA, iv (8 : Int32), iv (3 : Int32), rv en3] [] _
      refine XS.iloadN X29.here hx rfl (hb hby d1_9) rfl ?_
      show own_S p e below T29 m 10 #[iv (4 : Int32), rv aA, iv (8 : Int32), iv (3 : Int32), rv en3] [(.int (3 : Int32))] _
      refine XS.iloadN X29.here hx rfl (hb hby d1_10) rfl ?_
      show own_S p e below T29 m 11 #[iv (4 : Int32), rv aA, iv (8 : Int32), iv (3 : Int32), rv en3] [(.int (8 : Int32)), (.int (3 : Int32))] _
      refine XS.icmpNo X29.here hx rfl (hb hby d1_11) rfl (tlt (by decide : (3 : Int32) < (8 : Int32))).2.1 ?_
      show own_S p e below T29 m 14 #[iv (4 : Int32), rv aA, iv (8 : Int32), iv (3 : Int32), rv en3] [] _
      refine XS.aloadN X29.here hx rfl (hb hby d1_14) rfl rfl ?_
      show own_S p e below T29 m 15 #[iv (4 : Int32), rv aA, iv (8 : Int32), iv (3 : Int32), rv en3] [(.ref aA)] _
      refine XS.iloadN X29.here hx rfl (hb hby d1_15) rfl ?_
      show own_S p e below T29 m 16 #[iv (4 : Int32), rv aA, iv (8 : Int32), iv (3 : Int32), rv en3] [(.int (3 : Int32)), (.ref aA)] _
      refine X29.aaload hx (j := (3 : Int32)) (v := (.ref en4)) (by rw [e29]; exact Ar30.1) (State.isArrayOf_alike hZ.alike Ar30.2.1) rfl Ar30.2.2 hin30 hat30 (g := (mkF m 16 #[iv (4 : Int32), rv aA, iv (8 : Int32), iv (3 : Int32), rv en3] [(.int (3 : Int32)), (.ref aA)])) rfl rfl (hb hby d1_16) _ ?_
      show own_S p e below T29 m 17 #[iv (4 : Int32), rv aA, iv (8 : Int32), iv (3 : Int32), rv en3] [(.ref en4)] _
      refine XS.astore X29.here hx rfl (hb hby d1_17) rfl rfl (l' := #[iv (4 : Int32), rv aA, iv (8 : Int32), iv (3 : Int32), rv en4]) rfl ?_
      show own_S p e below T29 m 19 #[iv (4 : Int32), rv aA, iv (8 : Int32), iv (3 : Int32), rv en4] [] _
      refine XS.aload X29.here hx rfl (hb hby d1_19) rfl rfl ?_
      show own_S p e below T29 m 21 #[iv (4 : Int32), rv aA, iv (8 : Int32), iv (3 : Int32), rv en4] [(.ref en4)] _
      refine st31 _ ?_
      show own_S p e below T31 m 24 #[iv (4 : Int32), rv aA, iv (8 : Int32), iv (3 : Int32), rv en4] [(.int (4 : Int32))] _
      refine XS.iloadN X31.here hx rfl (hb hby d1_24) rfl ?_
      show own_S p e below T31 m 25 #[iv (4 : Int32), rv aA, iv (8 : Int32), iv (3 : Int32), rv en4] [(.int (4 : Int32)), (.int (4 : Int32))] _
      refine XS.icmpNo X31.here hx rfl (hb hby d1_25) rfl (teq (by decide : (4 : Int32) = (4 : Int32))).2 ?_
      show own_S p e below T31 m 28 #[iv (4 : Int32), rv aA, iv (8 : Int32), iv (3 : Int32), rv en4] [] _
      refine XS.aload X31.here hx rfl (hb hby d1_28) rfl rfl ?_
      exact k)
    obtain ⟨fs, hr, hrun, hended, hW, hsame⟩ := X31.leave (v := some (.ref en4)) (fun h => by rw [Bd.returns] at h; cases h)
    refine ⟨_, _, pre32 _ ?_, hrun, hended, _, _, rfl, ?_, ⟨_, rfl⟩, hW, hsame.mono (by decide) (by decide)⟩
    · show own_S p e below T31 m 30 #[iv (4 : Int32), rv aA, iv (8 : Int32), iv (3 : Int32), rv en4] [(.ref en4)] _
      exact retOut X31 hx (t := (.object "com/example/broker/broker/wire/Command")) Bd.returns rfl (Or.inr (Or.inr (Or.inr (Or.inr ⟨rfl, rfl, rfl⟩)))) (hb hby d1_30) hr
    · show Q1 Z (4 : Int32) en1 en2 en3 en4 en5 en6 en7 en8 aA kA h0 n0 _ T31.heap _
      rw [e31]
      exact ⟨rfl, N0, rfl⟩
  ·  -- case
    obtain ⟨T33, X33, e33, st33⟩ := getS2 X0 hx hZ hown (host := "") (Or.inl (hw _ (List.mem_of_getElem? (i := 5) rfl))) Via.refl e0 S_A (g := (mkF m 0 #[iv (5 : Int32), .unset, .unset, .unset, .unset] [])) rfl (hb hby d1_0)
    obtain ⟨cl34, Ar34, q34, S34, M34, -, -⟩ := id V_A
    obtain ⟨cl35, Ar35, q35, S35, M35, H35, G35⟩ := id V_A
    have hin35 : ¬ ((0 : Int32) < 0 ∨ cl35.slots.size ≤ ((0 : Int32)).toNatClampNeg) := inb_of S35 ⟨by decide, by decide⟩
    have hat35 : cl35.slots[((0 : Int32)).toNatClampNeg]? = some (.ref en1) := H35.at hin35 rfl
    obtain ⟨T36, X36, e36, st36⟩ := getF X33 hx hZ hown (host := "") (Or.inl (hw _ (List.mem_of_getElem? (i := 8) rfl))) Via.refl e33 F_en1 (g := (mkF m 21 #[iv (5 : Int32), rv aA, iv (8 : Int32), iv (0 : Int32), rv en1] [(.ref en1)])) rfl rfl (hb hby d1_21)
    obtain ⟨cl37, Ar37, q37, S37, M37, H37, G37⟩ := id V_A
    have hin37 : ¬ ((1 : Int32) < 0 ∨ cl37.slots.size ≤ ((1 : Int32)).toNatClampNeg) := inb_of S37 ⟨by decide, by decide⟩
    have hat37 : cl37.slots[((1 : Int32)).toNatClampNeg]? = some (.ref en2) := H37.at hin37 rfl
    obtain ⟨T38, X38, e38, st38⟩ := getF X36 hx hZ hown (host := "") (Or.inl (hw _ (List.mem_of_getElem? (i := 8) rfl))) Via.refl e36 F_en2 (g := (mkF m 21 #[iv (5 : Int32), rv aA, iv (8 : Int32), iv (1 : Int32), rv en2] [(.ref en2)])) rfl rfl (hb hby d1_21)
    obtain ⟨cl39, Ar39, q39, S39, M39, H39, G39⟩ := id V_A
    have hin39 : ¬ ((2 : Int32) < 0 ∨ cl39.slots.size ≤ ((2 : Int32)).toNatClampNeg) := inb_of S39 ⟨by decide, by decide⟩
    have hat39 : cl39.slots[((2 : Int32)).toNatClampNeg]? = some (.ref en3) := H39.at hin39 rfl
    obtain ⟨T40, X40, e40, st40⟩ := getF X38 hx hZ hown (host := "") (Or.inl (hw _ (List.mem_of_getElem? (i := 8) rfl))) Via.refl e38 F_en3 (g := (mkF m 21 #[iv (5 : Int32), rv aA, iv (8 : Int32), iv (2 : Int32), rv en3] [(.ref en3)])) rfl rfl (hb hby d1_21)
    obtain ⟨cl41, Ar41, q41, S41, M41, H41, G41⟩ := id V_A
    have hin41 : ¬ ((3 : Int32) < 0 ∨ cl41.slots.size ≤ ((3 : Int32)).toNatClampNeg) := inb_of S41 ⟨by decide, by decide⟩
    have hat41 : cl41.slots[((3 : Int32)).toNatClampNeg]? = some (.ref en4) := H41.at hin41 rfl
    obtain ⟨T42, X42, e42, st42⟩ := getF X40 hx hZ hown (host := "") (Or.inl (hw _ (List.mem_of_getElem? (i := 8) rfl))) Via.refl e40 F_en4 (g := (mkF m 21 #[iv (5 : Int32), rv aA, iv (8 : Int32), iv (3 : Int32), rv en4] [(.ref en4)])) rfl rfl (hb hby d1_21)
    obtain ⟨cl43, Ar43, q43, S43, M43, H43, G43⟩ := id V_A
    have hin43 : ¬ ((4 : Int32) < 0 ∨ cl43.slots.size ≤ ((4 : Int32)).toNatClampNeg) := inb_of S43 ⟨by decide, by decide⟩
    have hat43 : cl43.slots[((4 : Int32)).toNatClampNeg]? = some (.ref en5) := H43.at hin43 rfl
    obtain ⟨T44, X44, e44, st44⟩ := getF X42 hx hZ hown (host := "") (Or.inl (hw _ (List.mem_of_getElem? (i := 8) rfl))) Via.refl e42 F_en5 (g := (mkF m 21 #[iv (5 : Int32), rv aA, iv (8 : Int32), iv (4 : Int32), rv en5] [(.ref en5)])) rfl rfl (hb hby d1_21)
    have pre45 : ∀ t, own_S p e below T44 m 30 #[iv (5 : Int32), rv aA, iv (8 : Int32), iv (4 : Int32), rv en5] [(.ref en5)] t → Steps p.tables e below (s₁.setTop (entryFrame m #[(.int (5 : Int32))] 5)) t := fun t k => pre0 t (by
      show own_S p e below s₁ m 0 #[iv (5 : Int32), .unset, .unset, .unset, .unset] [] _
      refine st33 _ ?_
      show own_S p e below T33 m 3 #[iv (5 : Int32), .unset, .unset, .unset, .unset] [(.ref aA)] _
      refine XS.astoreN X33.here hx rfl (hb hby d1_3) rfl rfl (l' := #[iv (5 : Int32), rv aA, .unset, .unset, .unset]) rfl ?_
      show own_S p e below T33 m 4 #[iv (5 : Int32), rv aA, .unset, .unset, .unset] [] _
      refine XS.aloadN X33.here hx rfl (hb hby d1_4) rfl rfl ?_
      show own_S p e below T33 m 5 #[iv (5 : Int32), rv aA, .unset, .unset, .unset] [(.ref aA)] _
      refine X33.arraylength hx (by rw [e33]; exact Ar34.1) (State.isArrayOf_alike hZ.alike Ar34.2.1) (g := (mkF m 5 #[iv (5 : Int32), rv aA, .unset, .unset, .unset] [(.ref aA)])) rfl rfl (hb hby d1_5) _ ?_
      rw [len_of S34 M34]
      show own_S p e below T33 m 6 #[iv (5 : Int32), rv aA, .unset, .unset, .unset] [(.int (8 : Int32))] _
      refine XS.istoreN X33.here hx rfl (hb hby d1_6) rfl (l' := #[iv (5 : Int32), rv aA, iv (8 : Int32), .unset, .unset]) rfl ?_
      show own_S p e below T33 m 7 #[iv (5 : Int32), rv aA, iv (8 : Int32), .unset, .unset] [] _
      refine XS.iconst X33.here hx rfl (hb hby d1_7) ?_
      show own_S p e below T33 m 8 #[iv (5 : Int32), rv aA, iv (8 : Int32), .unset, .unset] [(.int (0 : Int32))] _
      refine XS.istoreN X33.here hx rfl (hb hby d1_8) rfl (l' := #[iv (5 : Int32), rv aA, iv (8 : Int32), iv (0 : Int32), .unset]) rfl ?_
      show own_S p e below T33 m 9 #[iv (5 : Int32), rv aA, iv (8 : Int32), iv (0 : Int32), .unset] [] _
      refine XS.iloadN X33.here hx rfl (hb hby d1_9) rfl ?_
      show own_S p e below T33 m 10 #[iv (5 : Int32), rv aA, iv (8 : Int32), iv (0 : Int32), .unset] [(.int (0 : Int32))] _
      refine XS.iloadN X33.here hx rfl (hb hby d1_10) rfl ?_
      show own_S p e below T33 m 11 #[iv (5 : Int32), rv aA, iv (8 : Int32), iv (0 : Int32), .unset] [(.int (8 : Int32)), (.int (0 : Int32))] _
      refine XS.icmpNo X33.here hx rfl (hb hby d1_11) rfl (tlt (by decide : (0 : Int32) < (8 : Int32))).2.1 ?_
      show own_S p e below T33 m 14 #[iv (5 : Int32), rv aA, iv (8 : Int32), iv (0 : Int32), .unset] [] _
      refine XS.aloadN X33.here hx rfl (hb hby d1_14) rfl rfl ?_
      show own_S p e below T33 m 15 #[iv (5 : Int32), rv aA, iv (8 : Int32), iv (0 : Int32), .unset] [(.ref aA)] _
      refine XS.iloadN X33.here hx rfl (hb hby d1_15) rfl ?_
      show own_S p e below T33 m 16 #[iv (5 : Int32), rv aA, iv (8 : Int32), iv (0 : Int32), .unset] [(.int (0 : Int32)), (.ref aA)] _
      refine X33.aaload hx (j := (0 : Int32)) (v := (.ref en1)) (by rw [e33]; exact Ar35.1) (State.isArrayOf_alike hZ.alike Ar35.2.1) rfl Ar35.2.2 hin35 hat35 (g := (mkF m 16 #[iv (5 : Int32), rv aA, iv (8 : Int32), iv (0 : Int32), .unset] [(.int (0 : Int32)), (.ref aA)])) rfl rfl (hb hby d1_16) _ ?_
      show own_S p e below T33 m 17 #[iv (5 : Int32), rv aA, iv (8 : Int32), iv (0 : Int32), .unset] [(.ref en1)] _
      refine XS.astore X33.here hx rfl (hb hby d1_17) rfl rfl (l' := #[iv (5 : Int32), rv aA, iv (8 : Int32), iv (0 : Int32), rv en1]) rfl ?_
      show own_S p e below T33 m 19 #[iv (5 : Int32), rv aA, iv (8 : Int32), iv (0 : Int32), rv en1] [] _
      refine XS.aload X33.here hx rfl (hb hby d1_19) rfl rfl ?_
      show own_S p e below T33 m 21 #[iv (5 : Int32), rv aA, iv (8 : Int32), iv (0 : Int32), rv en1] [(.ref en1)] _
      refine st36 _ ?_
      show own_S p e below T36 m 24 #[iv (5 : Int32), rv aA, iv (8 : Int32), iv (0 : Int32), rv en1] [(.int (1 : Int32))] _
      refine XS.iloadN X36.here hx rfl (hb hby d1_24) rfl ?_
      show own_S p e below T36 m 25 #[iv (5 : Int32), rv aA, iv (8 : Int32), iv (0 : Int32), rv en1] [(.int (5 : Int32)), (.int (1 : Int32))] _
      refine XS.icmpYes X36.here hx rfl (pc0 := 25) (pc' := 31) rfl (hb hby d1_25) rfl (feq (by decide : ¬ ((1 : Int32) = (5 : Int32)))).2 (by decide) (by decide) ?_
      show own_S p e below T36 m 31 #[iv (5 : Int32), rv aA, iv (8 : Int32), iv (0 : Int32), rv en1] [] _
      refine XS.iinc X36.here hx rfl (hb hby d1_31) rfl (l' := #[iv (5 : Int32), rv aA, iv (8 : Int32), iv (1 : Int32), rv en1]) rfl ?_
      show own_S p e below T36 m 34 #[iv (5 : Int32), rv aA, iv (8 : Int32), iv (1 : Int32), rv en1] [] _
      refine XS.goto X36.here hx rfl (pc0 := 34) (pc' := 9) rfl (hb hby d1_34) (by decide) (by decide) ?_
      show own_S p e below T36 m 9 #[iv (5 : Int32), rv aA, iv (8 : Int32), iv (1 : Int32), rv en1] [] _
      refine XS.iloadN X36.here hx rfl (hb hby d1_9) rfl ?_
      show own_S p e below T36 m 10 #[iv (5 : Int32), rv aA, iv (8 : Int32), iv (1 : Int32), rv en1] [(.int (1 : Int32))] _
      refine XS.iloadN X36.here hx rfl (hb hby d1_10) rfl ?_
      show own_S p e below T36 m 11 #[iv (5 : Int32), rv aA, iv (8 : Int32), iv (1 : Int32), rv en1] [(.int (8 : Int32)), (.int (1 : Int32))] _
      refine XS.icmpNo X36.here hx rfl (hb hby d1_11) rfl (tlt (by decide : (1 : Int32) < (8 : Int32))).2.1 ?_
      show own_S p e below T36 m 14 #[iv (5 : Int32), rv aA, iv (8 : Int32), iv (1 : Int32), rv en1] [] _
      refine XS.aloadN X36.here hx rfl (hb hby d1_14) rfl rfl ?_
      show own_S p e below T36 m 15 #[iv (5 : Int32), rv aA, iv (8 : Int32), iv (1 : Int32), rv en1] [(.ref aA)] _
      refine XS.iloadN X36.here hx rfl (hb hby d1_15) rfl ?_
      show own_S p e below T36 m 16 #[iv (5 : Int32), rv aA, iv (8 : Int32), iv (1 : Int32), rv en1] [(.int (1 : Int32)), (.ref aA)] _
      refine X36.aaload hx (j := (1 : Int32)) (v := (.ref en2)) (by rw [e36]; exact Ar37.1) (State.isArrayOf_alike hZ.alike Ar37.2.1) rfl Ar37.2.2 hin37 hat37 (g := (mkF m 16 #[iv (5 : Int32), rv aA, iv (8 : Int32), iv (1 : Int32), rv en1] [(.int (1 : Int32)), (.ref aA)])) rfl rfl (hb hby d1_16) _ ?_
      show own_S p e below T36 m 17 #[iv (5 : Int32), rv aA, iv (8 : Int32), iv (1 : Int32), rv en1] [(.ref en2)] _
      refine XS.astore X36.here hx rfl (hb hby d1_17) rfl rfl (l' := #[iv (5 : Int32), rv aA, iv (8 : Int32), iv (1 : Int32), rv en2]) rfl ?_
      show own_S p e below T36 m 19 #[iv (5 : Int32), rv aA, iv (8 : Int32), iv (1 : Int32), rv en2] [] _
      refine XS.aload X36.here hx rfl (hb hby d1_19) rfl rfl ?_
      show own_S p e below T36 m 21 #[iv (5 : Int32), rv aA, iv (8 : Int32), iv (1 : Int32), rv en2] [(.ref en2)] _
      refine st38 _ ?_
      show own_S p e below T38 m 24 #[iv (5 : Int32), rv aA, iv (8 : Int32), iv (1 : Int32), rv en2] [(.int (2 : Int32))] _
      refine XS.iloadN X38.here hx rfl (hb hby d1_24) rfl ?_
      show own_S p e below T38 m 25 #[iv (5 : Int32), rv aA, iv (8 : Int32), iv (1 : Int32), rv en2] [(.int (5 : Int32)), (.int (2 : Int32))] _
      refine XS.icmpYes X38.here hx rfl (pc0 := 25) (pc' := 31) rfl (hb hby d1_25) rfl (feq (by decide : ¬ ((2 : Int32) = (5 : Int32)))).2 (by decide) (by decide) ?_
      show own_S p e below T38 m 31 #[iv (5 : Int32), rv aA, iv (8 : Int32), iv (1 : Int32), rv en2] [] _
      refine XS.iinc X38.here hx rfl (hb hby d1_31) rfl (l' := #[iv (5 : Int32), rv aA, iv (8 : Int32), iv (2 : Int32), rv en2]) rfl ?_
      show own_S p e below T38 m 34 #[iv (5 : Int32), rv aA, iv (8 : Int32), iv (2 : Int32), rv en2] [] _
      refine XS.goto X38.here hx rfl (pc0 := 34) (pc' := 9) rfl (hb hby d1_34) (by decide) (by decide) ?_
      show own_S p e below T38 m 9 #[iv (5 : Int32), rv aA, iv (8 : Int32), iv (2 : Int32), rv en2] [] _
      refine XS.iloadN X38.here hx rfl (hb hby d1_9) rfl ?_
      show own_S p e below T38 m 10 #[iv (5 : Int32), rv aA, iv (8 : Int32), iv (2 : Int32), rv en2] [(.int (2 : Int32))] _
      refine XS.iloadN X38.here hx rfl (hb hby d1_10) rfl ?_
      show own_S p e below T38 m 11 #[iv (5 : Int32), rv aA, iv (8 : Int32), iv (2 : Int32), rv en2] [(.int (8 : Int32)), (.int (2 : Int32))] _
      refine XS.icmpNo X38.here hx rfl (hb hby d1_11) rfl (tlt (by decide : (2 : Int32) < (8 : Int32))).2.1 ?_
      show own_S p e below T38 m 14 #[iv (5 : Int32), rv aA, iv (8 : Int32), iv (2 : Int32), rv en2] [] _
      refine XS.aloadN X38.here hx rfl (hb hby d1_14) rfl rfl ?_
      show own_S p e below T38 m 15 #[iv (5 : Int32), rv aA, iv (8 : Int32), iv (2 : Int32), rv en2] [(.ref aA)] _
      refine XS.iloadN X38.here hx rfl (hb hby d1_15) rfl ?_
      show own_S p e below T38 m 16 #[iv (5 : Int32), rv aA, iv (8 : Int32), iv (2 : Int32), rv en2] [(.int (2 : Int32)), (.ref aA)] _
      refine X38.aaload hx (j := (2 : Int32)) (v := (.ref en3)) (by rw [e38]; exact Ar39.1) (State.isArrayOf_alike hZ.alike Ar39.2.1) rfl Ar39.2.2 hin39 hat39 (g := (mkF m 16 #[iv (5 : Int32), rv aA, iv (8 : Int32), iv (2 : Int32), rv en2] [(.int (2 : Int32)), (.ref aA)])) rfl rfl (hb hby d1_16) _ ?_
      show own_S p e below T38 m 17 #[iv (5 : Int32), rv aA, iv (8 : Int32), iv (2 : Int32), rv en2] [(.ref en3)] _
      refine XS.astore X38.here hx rfl (hb hby d1_17) rfl rfl (l' := #[iv (5 : Int32), rv aA, iv (8 : Int32), iv (2 : Int32), rv en3]) rfl ?_
      show own_S p e below T38 m 19 #[iv (5 : Int32), rv aA, iv (8 : Int32), iv (2 : Int32), rv en3] [] _
      refine XS.aload X38.here hx rfl (hb hby d1_19) rfl rfl ?_
      show own_S p e below T38 m 21 #[iv (5 : Int32), rv aA, iv (8 : Int32), iv (2 : Int32), rv en3] [(.ref en3)] _
      refine st40 _ ?_
      show own_S p e below T40 m 24 #[iv (5 : Int32), rv aA, iv (8 : Int32), iv (2 : Int32), rv en3] [(.int (3 : Int32))] _
      refine XS.iloadN X40.here hx rfl (hb hby d1_24) rfl ?_
      show own_S p e below T40 m 25 #[iv (5 : Int32), rv aA, iv (8 : Int32), iv (2 : Int32), rv en3] [(.int (5 : Int32)), (.int (3 : Int32))] _
      refine XS.icmpYes X40.here hx rfl (pc0 := 25) (pc' := 31) rfl (hb hby d1_25) rfl (feq (by decide : ¬ ((3 : Int32) = (5 : Int32)))).2 (by decide) (by decide) ?_
      show own_S p e below T40 m 31 #[iv (5 : Int32), rv aA, iv (8 : Int32), iv (2 : Int32), rv en3] [] _
      refine XS.iinc X40.here hx rfl (hb hby d1_31) rfl (l' := #[iv (5 : Int32), rv aA, iv (8 : Int32), iv (3 : Int32), rv en3]) rfl ?_
      show own_S p e below T40 m 34 #[iv (5 : Int32), rv aA, iv (8 : Int32), iv (3 : Int32), rv en3] [] _
      refine XS.goto X40.here hx rfl (pc0 := 34) (pc' := 9) rfl (hb hby d1_34) (by decide) (by decide) ?_
      show own_S p e below T40 m 9 #[iv (5 : Int32), rv aA, iv (8 : Int32), iv (3 : Int32), rv en3] [] _
      refine XS.iloadN X40.here hx rfl (hb hby d1_9) rfl ?_
      show own_S p e below T40 m 10 #[iv (5 : Int32), rv aA, iv (8 : Int32), iv (3 : Int32), rv en3] [(.int (3 : Int32))] _
      refine XS.iloadN X40.here hx rfl (hb hby d1_10) rfl ?_
      show own_S p e below T40 m 11 #[iv (5 : Int32), rv aA, iv (8 : Int32), iv (3 : Int32), rv en3] [(.int (8 : Int32)), (.int (3 : Int32))] _
      refine XS.icmpNo X40.here hx rfl (hb hby d1_11) rfl (tlt (by decide : (3 : Int32) < (8 : Int32))).2.1 ?_
      show own_S p e below T40 m 14 #[iv (5 : Int32), rv aA, iv (8 : Int32), iv (3 : Int32), rv en3] [] _
      refine XS.aloadN X40.here hx rfl (hb hby d1_14) rfl rfl ?_
      show own_S p e below T40 m 15 #[iv (5 : Int32), rv aA, iv (8 : Int32), iv (3 : Int32), rv en3] [(.ref aA)] _
      refine XS.iloadN X40.here hx rfl (hb hby d1_15) rfl ?_
      show own_S p e below T40 m 16 #[iv (5 : Int32), rv aA, iv (8 : Int32), iv (3 : Int32), rv en3] [(.int (3 : Int32)), (.ref aA)] _
      refine X40.aaload hx (j := (3 : Int32)) (v := (.ref en4)) (by rw [e40]; exact Ar41.1) (State.isArrayOf_alike hZ.alike Ar41.2.1) rfl Ar41.2.2 hin41 hat41 (g := (mkF m 16 #[iv (5 : Int32), rv aA, iv (8 : Int32), iv (3 : Int32), rv en3] [(.int (3 : Int32)), (.ref aA)])) rfl rfl (hb hby d1_16) _ ?_
      show own_S p e below T40 m 17 #[iv (5 : Int32), rv aA, iv (8 : Int32), iv (3 : Int32), rv en3] [(.ref en4)] _
      refine XS.astore X40.here hx rfl (hb hby d1_17) rfl rfl (l' := #[iv (5 : Int32), rv aA, iv (8 : Int32), iv (3 : Int32), rv en4]) rfl ?_
      show own_S p e below T40 m 19 #[iv (5 : Int32), rv aA, iv (8 : Int32), iv (3 : Int32), rv en4] [] _
      refine XS.aload X40.here hx rfl (hb hby d1_19) rfl rfl ?_
      show own_S p e below T40 m 21 #[iv (5 : Int32), rv aA, iv (8 : Int32), iv (3 : Int32), rv en4] [(.ref en4)] _
      refine st42 _ ?_
      show own_S p e below T42 m 24 #[iv (5 : Int32), rv aA, iv (8 : Int32), iv (3 : Int32), rv en4] [(.int (4 : Int32))] _
      refine XS.iloadN X42.here hx rfl (hb hby d1_24) rfl ?_
      show own_S p e below T42 m 25 #[iv (5 : Int32), rv aA, iv (8 : Int32), iv (3 : Int32), rv en4] [(.int (5 : Int32)), (.int (4 : Int32))] _
      refine XS.icmpYes X42.here hx rfl (pc0 := 25) (pc' := 31) rfl (hb hby d1_25) rfl (feq (by decide : ¬ ((4 : Int32) = (5 : Int32)))).2 (by decide) (by decide) ?_
      show own_S p e below T42 m 31 #[iv (5 : Int32), rv aA, iv (8 : Int32), iv (3 : Int32), rv en4] [] _
      refine XS.iinc X42.here hx rfl (hb hby d1_31) rfl (l' := #[iv (5 : Int32), rv aA, iv (8 : Int32), iv (4 : Int32), rv en4]) rfl ?_
      show own_S p e below T42 m 34 #[iv (5 : Int32), rv aA, iv (8 : Int32), iv (4 : Int32), rv en4] [] _
      refine XS.goto X42.here hx rfl (pc0 := 34) (pc' := 9) rfl (hb hby d1_34) (by decide) (by decide) ?_
      show own_S p e below T42 m 9 #[iv (5 : Int32), rv aA, iv (8 : Int32), iv (4 : Int32), rv en4] [] _
      refine XS.iloadN X42.here hx rfl (hb hby d1_9) rfl ?_
      show own_S p e below T42 m 10 #[iv (5 : Int32), rv aA, iv (8 : Int32), iv (4 : Int32), rv en4] [(.int (4 : Int32))] _
      refine XS.iloadN X42.here hx rfl (hb hby d1_10) rfl ?_
      show own_S p e below T42 m 11 #[iv (5 : Int32), rv aA, iv (8 : Int32), iv (4 : Int32), rv en4] [(.int (8 : Int32)), (.int (4 : Int32))] _
      refine XS.icmpNo X42.here hx rfl (hb hby d1_11) rfl (tlt (by decide : (4 : Int32) < (8 : Int32))).2.1 ?_
      show own_S p e below T42 m 14 #[iv (5 : Int32), rv aA, iv (8 : Int32), iv (4 : Int32), rv en4] [] _
      refine XS.aloadN X42.here hx rfl (hb hby d1_14) rfl rfl ?_
      show own_S p e below T42 m 15 #[iv (5 : Int32), rv aA, iv (8 : Int32), iv (4 : Int32), rv en4] [(.ref aA)] _
      refine XS.iloadN X42.here hx rfl (hb hby d1_15) rfl ?_
      show own_S p e below T42 m 16 #[iv (5 : Int32), rv aA, iv (8 : Int32), iv (4 : Int32), rv en4] [(.int (4 : Int32)), (.ref aA)] _
      refine X42.aaload hx (j := (4 : Int32)) (v := (.ref en5)) (by rw [e42]; exact Ar43.1) (State.isArrayOf_alike hZ.alike Ar43.2.1) rfl Ar43.2.2 hin43 hat43 (g := (mkF m 16 #[iv (5 : Int32), rv aA, iv (8 : Int32), iv (4 : Int32), rv en4] [(.int (4 : Int32)), (.ref aA)])) rfl rfl (hb hby d1_16) _ ?_
      show own_S p e below T42 m 17 #[iv (5 : Int32), rv aA, iv (8 : Int32), iv (4 : Int32), rv en4] [(.ref en5)] _
      refine XS.astore X42.here hx rfl (hb hby d1_17) rfl rfl (l' := #[iv (5 : Int32), rv aA, iv (8 : Int32), iv (4 : Int32), rv en5]) rfl ?_
      show own_S p e below T42 m 19 #[iv (5 : Int32), rv aA, iv (8 : Int32), iv (4 : Int32), rv en5] [] _
      refine XS.aload X42.here hx rfl (hb hby d1_19) rfl rfl ?_
      show own_S p e below T42 m 21 #[iv (5 : Int32), rv aA, iv (8 : Int32), iv (4 : Int32), rv en5] [(.ref en5)] _
      refine st44 _ ?_
      show own_S p e below T44 m 24 #[iv (5 : Int32), rv aA, iv (8 : Int32), iv (4 : Int32), rv en5] [(.int (5 : Int32))] _
      refine XS.iloadN X44.here hx rfl (hb hby d1_24) rfl ?_
      show own_S p e below T44 m 25 #[iv (5 : Int32), rv aA, iv (8 : Int32), iv (4 : Int32), rv en5] [(.int (5 : Int32)), (.int (5 : Int32))] _
      refine XS.icmpNo X44.here hx rfl (hb hby d1_25) rfl (teq (by decide : (5 : Int32) = (5 : Int32))).2 ?_
      show own_S p e below T44 m 28 #[iv (5 : Int32), rv aA, iv (8 : Int32), iv (4 : Int32), rv en5] [] _
      refine XS.aload X44.here hx rfl (hb hby d1_28) rfl rfl ?_
      exact k)
    obtain ⟨fs, hr, hrun, hended, hW, hsame⟩ := X44.leave (v := some (.ref en5)) (fun h => by rw [Bd.returns] at h; cases h)
    refine ⟨_, _, pre45 _ ?_, hrun, hended, _, _, rfl, ?_, ⟨_, rfl⟩, hW, hsame.mono (by decide) (by decide)⟩
    · show own_S p e below T44 m 30 #[iv (5 : Int32), rv aA, iv (8 : Int32), iv (4 : Int32), rv en5] [(.ref en5)] _
      exact retOut X44 hx (t := (.object "com/example/broker/broker/wire/Command")) Bd.returns rfl (Or.inr (Or.inr (Or.inr (Or.inr ⟨rfl, rfl, rfl⟩)))) (hb hby d1_30) hr
    · show Q1 Z (5 : Int32) en1 en2 en3 en4 en5 en6 en7 en8 aA kA h0 n0 _ T44.heap _
      rw [e44]
      exact ⟨rfl, N0, rfl⟩
  ·  -- case
    obtain ⟨T46, X46, e46, st46⟩ := getS2 X0 hx hZ hown (host := "") (Or.inl (hw _ (List.mem_of_getElem? (i := 5) rfl))) Via.refl e0 S_A (g := (mkF m 0 #[iv (6 : Int32), .unset, .unset, .unset, .unset] [])) rfl (hb hby d1_0)
    obtain ⟨cl47, Ar47, q47, S47, M47, -, -⟩ := id V_A
    obtain ⟨cl48, Ar48, q48, S48, M48, H48, G48⟩ := id V_A
    have hin48 : ¬ ((0 : Int32) < 0 ∨ cl48.slots.size ≤ ((0 : Int32)).toNatClampNeg) := inb_of S48 ⟨by decide, by decide⟩
    have hat48 : cl48.slots[((0 : Int32)).toNatClampNeg]? = some (.ref en1) := H48.at hin48 rfl
    obtain ⟨T49, X49, e49, st49⟩ := getF X46 hx hZ hown (host := "") (Or.inl (hw _ (List.mem_of_getElem? (i := 8) rfl))) Via.refl e46 F_en1 (g := (mkF m 21 #[iv (6 : Int32), rv aA, iv (8 : Int32), iv (0 : Int32), rv en1] [(.ref en1)])) rfl rfl (hb hby d1_21)
    obtain ⟨cl50, Ar50, q50, S50, M50, H50, G50⟩ := id V_A
    have hin50 : ¬ ((1 : Int32) < 0 ∨ cl50.slots.size ≤ ((1 : Int32)).toNatClampNeg) := inb_of S50 ⟨by decide, by decide⟩
    have hat50 : cl50.slots[((1 : Int32)).toNatClampNeg]? = some (.ref en2) := H50.at hin50 rfl
    obtain ⟨T51, X51, e51, st51⟩ := getF X49 hx hZ hown (host := "") (Or.inl (hw _ (List.mem_of_getElem? (i := 8) rfl))) Via.refl e49 F_en2 (g := (mkF m 21 #[iv (6 : Int32), rv aA, iv (8 : Int32), iv (1 : Int32), rv en2] [(.ref en2)])) rfl rfl (hb hby d1_21)
    obtain ⟨cl52, Ar52, q52, S52, M52, H52, G52⟩ := id V_A
    have hin52 : ¬ ((2 : Int32) < 0 ∨ cl52.slots.size ≤ ((2 : Int32)).toNatClampNeg) := inb_of S52 ⟨by decide, by decide⟩
    have hat52 : cl52.slots[((2 : Int32)).toNatClampNeg]? = some (.ref en3) := H52.at hin52 rfl
    obtain ⟨T53, X53, e53, st53⟩ := getF X51 hx hZ hown (host := "") (Or.inl (hw _ (List.mem_of_getElem? (i := 8) rfl))) Via.refl e51 F_en3 (g := (mkF m 21 #[iv (6 : Int32), rv aA, iv (8 : Int32), iv (2 : Int32), rv en3] [(.ref en3)])) rfl rfl (hb hby d1_21)
    obtain ⟨cl54, Ar54, q54, S54, M54, H54, G54⟩ := id V_A
    have hin54 : ¬ ((3 : Int32) < 0 ∨ cl54.slots.size ≤ ((3 : Int32)).toNatClampNeg) := inb_of S54 ⟨by decide, by decide⟩
    have hat54 : cl54.slots[((3 : Int32)).toNatClampNeg]? = some (.ref en4) := H54.at hin54 rfl
    obtain ⟨T55, X55, e55, st55⟩ := getF X53 hx hZ hown (host := "") (Or.inl (hw _ (List.mem_of_getElem? (i := 8) rfl))) Via.refl e53 F_en4 (g := (mkF m 21 #[iv (6 : Int32), rv aA, iv (8 : Int32), iv (3 : Int32), rv en4] [(.ref en4)])) rfl rfl (hb hby d1_21)
    obtain ⟨cl56, Ar56, q56, S56, M56, H56, G56⟩ := id V_A
    have hin56 : ¬ ((4 : Int32) < 0 ∨ cl56.slots.size ≤ ((4 : Int32)).toNatClampNeg) := inb_of S56 ⟨by decide, by decide⟩
    have hat56 : cl56.slots[((4 : Int32)).toNatClampNeg]? = some (.ref en5) := H56.at hin56 rfl
    obtain ⟨T57, X57, e57, st57⟩ := getF X55 hx hZ hown (host := "") (Or.inl (hw _ (List.mem_of_getElem? (i := 8) rfl))) Via.refl e55 F_en5 (g := (mkF m 21 #[iv (6 : Int32), rv aA, iv (8 : Int32), iv (4 : Int32), rv en5] [(.ref en5)])) rfl rfl (hb hby d1_21)
    obtain ⟨cl58, Ar58, q58, S58, M58, H58, G58⟩ := id V_A
    have hin58 : ¬ ((5 : Int32) < 0 ∨ cl58.slots.size ≤ ((5 : Int32)).toNatClampNeg) := inb_of S58 ⟨by decide, by decide⟩
    have hat58 : cl58.slots[((5 : Int32)).toNatClampNeg]? = some (.ref en6) := H58.at hin58 rfl
    obtain ⟨T59, X59, e59, st59⟩ := getF X57 hx hZ hown (host := "") (Or.inl (hw _ (List.mem_of_getElem? (i := 8) rfl))) Via.refl e57 F_en6 (g := (mkF m 21 #[iv (6 : Int32), rv aA, iv (8 : Int32), iv (5 : Int32), rv en6] [(.ref en6)])) rfl rfl (hb hby d1_21)
    have pre60 : ∀ t, own_S p e below T59 m 30 #[iv (6 : Int32), rv aA, iv (8 : Int32), iv (5 : Int32), rv en6] [(.ref en6)] t → Steps p.tables e below (s₁.setTop (entryFrame m #[(.int (6 : Int32))] 5)) t := fun t k => pre0 t (by
      show own_S p e below s₁ m 0 #[iv (6 : Int32), .unset, .unset, .unset, .unset] [] _
      refine st46 _ ?_
      show own_S p e below T46 m 3 #[iv (6 : Int32), .unset, .unset, .unset, .unset] [(.ref aA)] _
      refine XS.astoreN X46.here hx rfl (hb hby d1_3) rfl rfl (l' := #[iv (6 : Int32), rv aA, .unset, .unset, .unset]) rfl ?_
      show own_S p e below T46 m 4 #[iv (6 : Int32), rv aA, .unset, .unset, .unset] [] _
      refine XS.aloadN X46.here hx rfl (hb hby d1_4) rfl rfl ?_
      show own_S p e below T46 m 5 #[iv (6 : Int32), rv aA, .unset, .unset, .unset] [(.ref aA)] _
      refine X46.arraylength hx (by rw [e46]; exact Ar47.1) (State.isArrayOf_alike hZ.alike Ar47.2.1) (g := (mkF m 5 #[iv (6 : Int32), rv aA, .unset, .unset, .unset] [(.ref aA)])) rfl rfl (hb hby d1_5) _ ?_
      rw [len_of S47 M47]
      show own_S p e below T46 m 6 #[iv (6 : Int32), rv aA, .unset, .unset, .unset] [(.int (8 : Int32))] _
      refine XS.istoreN X46.here hx rfl (hb hby d1_6) rfl (l' := #[iv (6 : Int32), rv aA, iv (8 : Int32), .unset, .unset]) rfl ?_
      show own_S p e below T46 m 7 #[iv (6 : Int32), rv aA, iv (8 : Int32), .unset, .unset] [] _
      refine XS.iconst X46.here hx rfl (hb hby d1_7) ?_
      show own_S p e below T46 m 8 #[iv (6 : Int32), rv aA, iv (8 : Int32), .unset, .unset] [(.int (0 : Int32))] _
      refine XS.istoreN X46.here hx rfl (hb hby d1_8) rfl (l' := #[iv (6 : Int32), rv aA, iv (8 : Int32), iv (0 : Int32), .unset]) rfl ?_
      show own_S p e below T46 m 9 #[iv (6 : Int32), rv aA, iv (8 : Int32), iv (0 : Int32), .unset] [] _
      refine XS.iloadN X46.here hx rfl (hb hby d1_9) rfl ?_
      show own_S p e below T46 m 10 #[iv (6 : Int32), rv aA, iv (8 : Int32), iv (0 : Int32), .unset] [(.int (0 : Int32))] _
      refine XS.iloadN X46.here hx rfl (hb hby d1_10) rfl ?_
      show own_S p e below T46 m 11 #[iv (6 : Int32), rv aA, iv (8 : Int32), iv (0 : Int32), .unset] [(.int (8 : Int32)), (.int (0 : Int32))] _
      refine XS.icmpNo X46.here hx rfl (hb hby d1_11) rfl (tlt (by decide : (0 : Int32) < (8 : Int32))).2.1 ?_
      show own_S p e below T46 m 14 #[iv (6 : Int32), rv aA, iv (8 : Int32), iv (0 : Int32), .unset] [] _
      refine XS.aloadN X46.here hx rfl (hb hby d1_14) rfl rfl ?_
      show own_S p e below T46 m 15 #[iv (6 : Int32), rv aA, iv (8 : Int32), iv (0 : Int32), .unset] [(.ref aA)] _
      refine XS.iloadN X46.here hx rfl (hb hby d1_15) rfl ?_
      show own_S p e below T46 m 16 #[iv (6 : Int32), rv aA, iv (8 : Int32), iv (0 : Int32), .unset] [(.int (0 : Int32)), (.ref aA)] _
      refine X46.aaload hx (j := (0 : Int32)) (v := (.ref en1)) (by rw [e46]; exact Ar48.1) (State.isArrayOf_alike hZ.alike Ar48.2.1) rfl Ar48.2.2 hin48 hat48 (g := (mkF m 16 #[iv (6 : Int32), rv aA, iv (8 : Int32), iv (0 : Int32), .unset] [(.int (0 : Int32)), (.ref aA)])) rfl rfl (hb hby d1_16) _ ?_
      show own_S p e below T46 m 17 #[iv (6 : Int32), rv aA, iv (8 : Int32), iv (0 : Int32), .unset] [(.ref en1)] _
      refine XS.astore X46.here hx rfl (hb hby d1_17) rfl rfl (l' := #[iv (6 : Int32), rv aA, iv (8 : Int32), iv (0 : Int32), rv en1]) rfl ?_
      show own_S p e below T46 m 19 #[iv (6 : Int32), rv aA, iv (8 : Int32), iv (0 : Int32), rv en1] [] _
      refine XS.aload X46.here hx rfl (hb hby d1_19) rfl rfl ?_
      show own_S p e below T46 m 21 #[iv (6 : Int32), rv aA, iv (8 : Int32), iv (0 : Int32), rv en1] [(.ref en1)] _
      refine st49 _ ?_
      show own_S p e below T49 m 24 #[iv (6 : Int32), rv aA, iv (8 : Int32), iv (0 : Int32), rv en1] [(.int (1 : Int32))] _
      refine XS.iloadN X49.here hx rfl (hb hby d1_24) rfl ?_
      show own_S p e below T49 m 25 #[iv (6 : Int32), rv aA, iv (8 : Int32), iv (0 : Int32), rv en1] [(.int (6 : Int32)), (.int (1 : Int32))] _
      refine XS.icmpYes X49.here hx rfl (pc0 := 25) (pc' := 31) rfl (hb hby d1_25) rfl (feq (by decide : ¬ ((1 : Int32) = (6 : Int32)))).2 (by decide) (by decide) ?_
      show own_S p e below T49 m 31 #[iv (6 : Int32), rv aA, iv (8 : Int32), iv (0 : Int32), rv en1] [] _
      refine XS.iinc X49.here hx rfl (hb hby d1_31) rfl (l' := #[iv (6 : Int32), rv aA, iv (8 : Int32), iv (1 : Int32), rv en1]) rfl ?_
      show own_S p e below T49 m 34 #[iv (6 : Int32), rv aA, iv (8 : Int32), iv (1 : Int32), rv en1] [] _
      refine XS.goto X49.here hx rfl (pc0 := 34) (pc' := 9) rfl (hb hby d1_34) (by decide) (by decide) ?_
      show own_S p e below T49 m 9 #[iv (6 : Int32), rv aA, iv (8 : Int32), iv (1 : Int32), rv en1] [] _
      refine XS.iloadN X49.here hx rfl (hb hby d1_9) rfl ?_
      show own_S p e below T49 m 10 #[iv (6 : Int32), rv aA, iv (8 : Int32), iv (1 : Int32), rv en1] [(.int (1 : Int32))] _
      refine XS.iloadN X49.here hx rfl (hb hby d1_10) rfl ?_
      show own_S p e below T49 m 11 #[iv (6 : Int32), rv aA, iv (8 : Int32), iv (1 : Int32), rv en1] [(.int (8 : Int32)), (.int (1 : Int32))] _
      refine XS.icmpNo X49.here hx rfl (hb hby d1_11) rfl (tlt (by decide : (1 : Int32) < (8 : Int32))).2.1 ?_
      show own_S p e below T49 m 14 #[iv (6 : Int32), rv aA, iv (8 : Int32), iv (1 : Int32), rv en1] [] _
      refine XS.aloadN X49.here hx rfl (hb hby d1_14) rfl rfl ?_
      show own_S p e below T49 m 15 #[iv (6 : Int32), rv aA, iv (8 : Int32), iv (1 : Int32), rv en1] [(.ref aA)] _
      refine XS.iloadN X49.here hx rfl (hb hby d1_15) rfl ?_
      show own_S p e below T49 m 16 #[iv (6 : Int32), rv aA, iv (8 : Int32), iv (1 : Int32), rv en1] [(.int (1 : Int32)), (.ref aA)] _
      refine X49.aaload hx (j := (1 : Int32)) (v := (.ref en2)) (by rw [e49]; exact Ar50.1) (State.isArrayOf_alike hZ.alike Ar50.2.1) rfl Ar50.2.2 hin50 hat50 (g := (mkF m 16 #[iv (6 : Int32), rv aA, iv (8 : Int32), iv (1 : Int32), rv en1] [(.int (1 : Int32)), (.ref aA)])) rfl rfl (hb hby d1_16) _ ?_
      show own_S p e below T49 m 17 #[iv (6 : Int32), rv aA, iv (8 : Int32), iv (1 : Int32), rv en1] [(.ref en2)] _
      refine XS.astore X49.here hx rfl (hb hby d1_17) rfl rfl (l' := #[iv (6 : Int32), rv aA, iv (8 : Int32), iv (1 : Int32), rv en2]) rfl ?_
      show own_S p e below T49 m 19 #[iv (6 : Int32), rv aA, iv (8 : Int32), iv (1 : Int32), rv en2] [] _
      refine XS.aload X49.here hx rfl (hb hby d1_19) rfl rfl ?_
      show own_S p e below T49 m 21 #[iv (6 : Int32), rv aA, iv (8 : Int32), iv (1 : Int32), rv en2] [(.ref en2)] _
      refine st51 _ ?_
      show own_S p e below T51 m 24 #[iv (6 : Int32), rv aA, iv (8 : Int32), iv (1 : Int32), rv en2] [(.int (2 : Int32))] _
      refine XS.iloadN X51.here hx rfl (hb hby d1_24) rfl ?_
      show own_S p e below T51 m 25 #[iv (6 : Int32), rv aA, iv (8 : Int32), iv (1 : Int32), rv en2] [(.int (6 : Int32)), (.int (2 : Int32))] _
      refine XS.icmpYes X51.here hx rfl (pc0 := 25) (pc' := 31) rfl (hb hby d1_25) rfl (feq (by decide : ¬ ((2 : Int32) = (6 : Int32)))).2 (by decide) (by decide) ?_
      show own_S p e below T51 m 31 #[iv (6 : Int32), rv aA, iv (8 : Int32), iv (1 : Int32), rv en2] [] _
      refine XS.iinc X51.here hx rfl (hb hby d1_31) rfl (l' := #[iv (6 : Int32), rv aA, iv (8 : Int32), iv (2 : Int32), rv en2]) rfl ?_
      show own_S p e below T51 m 34 #[iv (6 : Int32), rv aA, iv (8 : Int32), iv (2 : Int32), rv en2] [] _
      refine XS.goto X51.here hx rfl (pc0 := 34) (pc' := 9) rfl (hb hby d1_34) (by decide) (by decide) ?_
      show own_S p e below T51 m 9 #[iv (6 : Int32), rv aA, iv (8 : Int32), iv (2 : Int32), rv en2] [] _
      refine XS.iloadN X51.here hx rfl (hb hby d1_9) rfl ?_
      show own_S p e below T51 m 10 #[iv (6 : Int32), rv aA, iv (8 : Int32), iv (2 : Int32), rv en2] [(.int (2 : Int32))] _
      refine XS.iloadN X51.here hx rfl (hb hby d1_10) rfl ?_
      show own_S p e below T51 m 11 #[iv (6 : Int32), rv aA, iv (8 : Int32), iv (2 : Int32), rv en2] [(.int (8 : Int32)), (.int (2 : Int32))] _
      refine XS.icmpNo X51.here hx rfl (hb hby d1_11) rfl (tlt (by decide : (2 : Int32) < (8 : Int32))).2.1 ?_
      show own_S p e below T51 m 14 #[iv (6 : Int32), rv aA, iv (8 : Int32), iv (2 : Int32), rv en2] [] _
      refine XS.aloadN X51.here hx rfl (hb hby d1_14) rfl rfl ?_
      show own_S p e below T51 m 15 #[iv (6 : Int32), rv aA, iv (8 : Int32), iv (2 : Int32), rv en2] [(.ref aA)] _
      refine XS.iloadN X51.here hx rfl (hb hby d1_15) rfl ?_
      show own_S p e below T51 m 16 #[iv (6 : Int32), rv aA, iv (8 : Int32), iv (2 : Int32), rv en2] [(.int (2 : Int32)), (.ref aA)] _
      refine X51.aaload hx (j := (2 : Int32)) (v := (.ref en3)) (by rw [e51]; exact Ar52.1) (State.isArrayOf_alike hZ.alike Ar52.2.1) rfl Ar52.2.2 hin52 hat52 (g := (mkF m 16 #[iv (6 : Int32), rv aA, iv (8 : Int32), iv (2 : Int32), rv en2] [(.int (2 : Int32)), (.ref aA)])) rfl rfl (hb hby d1_16) _ ?_
      show own_S p e below T51 m 17 #[iv (6 : Int32), rv aA, iv (8 : Int32), iv (2 : Int32), rv en2] [(.ref en3)] _
      refine XS.astore X51.here hx rfl (hb hby d1_17) rfl rfl (l' := #[iv (6 : Int32), rv aA, iv (8 : Int32), iv (2 : Int32), rv en3]) rfl ?_
      show own_S p e below T51 m 19 #[iv (6 : Int32), rv aA, iv (8 : Int32), iv (2 : Int32), rv en3] [] _
      refine XS.aload X51.here hx rfl (hb hby d1_19) rfl rfl ?_
      show own_S p e below T51 m 21 #[iv (6 : Int32), rv aA, iv (8 : Int32), iv (2 : Int32), rv en3] [(.ref en3)] _
      refine st53 _ ?_
      show own_S p e below T53 m 24 #[iv (6 : Int32), rv aA, iv (8 : Int32), iv (2 : Int32), rv en3] [(.int (3 : Int32))] _
      refine XS.iloadN X53.here hx rfl (hb hby d1_24) rfl ?_
      show own_S p e below T53 m 25 #[iv (6 : Int32), rv aA, iv (8 : Int32), iv (2 : Int32), rv en3] [(.int (6 : Int32)), (.int (3 : Int32))] _
      refine XS.icmpYes X53.here hx rfl (pc0 := 25) (pc' := 31) rfl (hb hby d1_25) rfl (feq (by decide : ¬ ((3 : Int32) = (6 : Int32)))).2 (by decide) (by decide) ?_
      show own_S p e below T53 m 31 #[iv (6 : Int32), rv aA, iv (8 : Int32), iv (2 : Int32), rv en3] [] _
      refine XS.iinc X53.here hx rfl (hb hby d1_31) rfl (l' := #[iv (6 : Int32), rv aA, iv (8 : Int32), iv (3 : Int32), rv en3]) rfl ?_
      show own_S p e below T53 m 34 #[iv (6 : Int32), rv aA, iv (8 : Int32), iv (3 : Int32), rv en3] [] _
      refine XS.goto X53.here hx rfl (pc0 := 34) (pc' := 9) rfl (hb hby d1_34) (by decide) (by decide) ?_
      show own_S p e below T53 m 9 #[iv (6 : Int32), rv aA, iv (8 : Int32), iv (3 : Int32), rv en3] [] _
      refine XS.iloadN X53.here hx rfl (hb hby d1_9) rfl ?_
      show own_S p e below T53 m 10 #[iv (6 : Int32), rv aA, iv (8 : Int32), iv (3 : Int32), rv en3] [(.int (3 : Int32))] _
      refine XS.iloadN X53.here hx rfl (hb hby d1_10) rfl ?_
      show own_S p e below T53 m 11 #[iv (6 : Int32), rv aA, iv (8 : Int32), iv (3 : Int32), rv en3] [(.int (8 : Int32)), (.int (3 : Int32))] _
      refine XS.icmpNo X53.here hx rfl (hb hby d1_11) rfl (tlt (by decide : (3 : Int32) < (8 : Int32))).2.1 ?_
      show own_S p e below T53 m 14 #[iv (6 : Int32), rv aA, iv (8 : Int32), iv (3 : Int32), rv en3] [] _
      refine XS.aloadN X53.here hx rfl (hb hby d1_14) rfl rfl ?_
      show own_S p e below T53 m 15 #[iv (6 : Int32), rv aA, iv (8 : Int32), iv (3 : Int32), rv en3] [(.ref aA)] _
      refine XS.iloadN X53.here hx rfl (hb hby d1_15) rfl ?_
      show own_S p e below T53 m 16 #[iv (6 : Int32), rv aA, iv (8 : Int32), iv (3 : Int32), rv en3] [(.int (3 : Int32)), (.ref aA)] _
      refine X53.aaload hx (j := (3 : Int32)) (v := (.ref en4)) (by rw [e53]; exact Ar54.1) (State.isArrayOf_alike hZ.alike Ar54.2.1) rfl Ar54.2.2 hin54 hat54 (g := (mkF m 16 #[iv (6 : Int32), rv aA, iv (8 : Int32), iv (3 : Int32), rv en3] [(.int (3 : Int32)), (.ref aA)])) rfl rfl (hb hby d1_16) _ ?_
      show own_S p e below T53 m 17 #[iv (6 : Int32), rv aA, iv (8 : Int32), iv (3 : Int32), rv en3] [(.ref en4)] _
      refine XS.astore X53.here hx rfl (hb hby d1_17) rfl rfl (l' := #[iv (6 : Int32), rv aA, iv (8 : Int32), iv (3 : Int32), rv en4]) rfl ?_
      show own_S p e below T53 m 19 #[iv (6 : Int32), rv aA, iv (8 : Int32), iv (3 : Int32), rv en4] [] _
      refine XS.aload X53.here hx rfl (hb hby d1_19) rfl rfl ?_
      show own_S p e below T53 m 21 #[iv (6 : Int32), rv aA, iv (8 : Int32), iv (3 : Int32), rv en4] [(.ref en4)] _
      refine st55 _ ?_
      show own_S p e below T55 m 24 #[iv (6 : Int32), rv aA, iv (8 : Int32), iv (3 : Int32), rv en4] [(.int (4 : Int32))] _
      refine XS.iloadN X55.here hx rfl (hb hby d1_24) rfl ?_
      show own_S p e below T55 m 25 #[iv (6 : Int32), rv aA, iv (8 : Int32), iv (3 : Int32), rv en4] [(.int (6 : Int32)), (.int (4 : Int32))] _
      refine XS.icmpYes X55.here hx rfl (pc0 := 25) (pc' := 31) rfl (hb hby d1_25) rfl (feq (by decide : ¬ ((4 : Int32) = (6 : Int32)))).2 (by decide) (by decide) ?_
      show own_S p e below T55 m 31 #[iv (6 : Int32), rv aA, iv (8 : Int32), iv (3 : Int32), rv en4] [] _
      refine XS.iinc X55.here hx rfl (hb hby d1_31) rfl (l' := #[iv (6 : Int32), rv aA, iv (8 : Int32), iv (4 : Int32), rv en4]) rfl ?_
      show own_S p e below T55 m 34 #[iv (6 : Int32), rv aA, iv (8 : Int32), iv (4 : Int32), rv en4] [] _
      refine XS.goto X55.here hx rfl (pc0 := 34) (pc' := 9) rfl (hb hby d1_34) (by decide) (by decide) ?_
      show own_S p e below T55 m 9 #[iv (6 : Int32), rv aA, iv (8 : Int32), iv (4 : Int32), rv en4] [] _
      refine XS.iloadN X55.here hx rfl (hb hby d1_9) rfl ?_
      show own_S p e below T55 m 10 #[iv (6 : Int32), rv aA, iv (8 : Int32), iv (4 : Int32), rv en4] [(.int (4 : Int32))] _
      refine XS.iloadN X55.here hx rfl (hb hby d1_10) rfl ?_
      show own_S p e below T55 m 11 #[iv (6 : Int32), rv aA, iv (8 : Int32), iv (4 : Int32), rv en4] [(.int (8 : Int32)), (.int (4 : Int32))] _
      refine XS.icmpNo X55.here hx rfl (hb hby d1_11) rfl (tlt (by decide : (4 : Int32) < (8 : Int32))).2.1 ?_
      show own_S p e below T55 m 14 #[iv (6 : Int32), rv aA, iv (8 : Int32), iv (4 : Int32), rv en4] [] _
      refine XS.aloadN X55.here hx rfl (hb hby d1_14) rfl rfl ?_
      show own_S p e below T55 m 15 #[iv (6 : Int32), rv aA, iv (8 : Int32), iv (4 : Int32), rv en4] [(.ref aA)] _
      refine XS.iloadN X55.here hx rfl (hb hby d1_15) rfl ?_
      show own_S p e below T55 m 16 #[iv (6 : Int32), rv aA, iv (8 : Int32), iv (4 : Int32), rv en4] [(.int (4 : Int32)), (.ref aA)] _
      refine X55.aaload hx (j := (4 : Int32)) (v := (.ref en5)) (by rw [e55]; exact Ar56.1) (State.isArrayOf_alike hZ.alike Ar56.2.1) rfl Ar56.2.2 hin56 hat56 (g := (mkF m 16 #[iv (6 : Int32), rv aA, iv (8 : Int32), iv (4 : Int32), rv en4] [(.int (4 : Int32)), (.ref aA)])) rfl rfl (hb hby d1_16) _ ?_
      show own_S p e below T55 m 17 #[iv (6 : Int32), rv aA, iv (8 : Int32), iv (4 : Int32), rv en4] [(.ref en5)] _
      refine XS.astore X55.here hx rfl (hb hby d1_17) rfl rfl (l' := #[iv (6 : Int32), rv aA, iv (8 : Int32), iv (4 : Int32), rv en5]) rfl ?_
      show own_S p e below T55 m 19 #[iv (6 : Int32), rv aA, iv (8 : Int32), iv (4 : Int32), rv en5] [] _
      refine XS.aload X55.here hx rfl (hb hby d1_19) rfl rfl ?_
      show own_S p e below T55 m 21 #[iv (6 : Int32), rv aA, iv (8 : Int32), iv (4 : Int32), rv en5] [(.ref en5)] _
      refine st57 _ ?_
      show own_S p e below T57 m 24 #[iv (6 : Int32), rv aA, iv (8 : Int32), iv (4 : Int32), rv en5] [(.int (5 : Int32))] _
      refine XS.iloadN X57.here hx rfl (hb hby d1_24) rfl ?_
      show own_S p e below T57 m 25 #[iv (6 : Int32), rv aA, iv (8 : Int32), iv (4 : Int32), rv en5] [(.int (6 : Int32)), (.int (5 : Int32))] _
      refine XS.icmpYes X57.here hx rfl (pc0 := 25) (pc' := 31) rfl (hb hby d1_25) rfl (feq (by decide : ¬ ((5 : Int32) = (6 : Int32)))).2 (by decide) (by decide) ?_
      show own_S p e below T57 m 31 #[iv (6 : Int32), rv aA, iv (8 : Int32), iv (4 : Int32), rv en5] [] _
      refine XS.iinc X57.here hx rfl (hb hby d1_31) rfl (l' := #[iv (6 : Int32), rv aA, iv (8 : Int32), iv (5 : Int32), rv en5]) rfl ?_
      show own_S p e below T57 m 34 #[iv (6 : Int32), rv aA, iv (8 : Int32), iv (5 : Int32), rv en5] [] _
      refine XS.goto X57.here hx rfl (pc0 := 34) (pc' := 9) rfl (hb hby d1_34) (by decide) (by decide) ?_
      show own_S p e below T57 m 9 #[iv (6 : Int32), rv aA, iv (8 : Int32), iv (5 : Int32), rv en5] [] _
      refine XS.iloadN X57.here hx rfl (hb hby d1_9) rfl ?_
      show own_S p e below T57 m 10 #[iv (6 : Int32), rv aA, iv (8 : Int32), iv (5 : Int32), rv en5] [(.int (5 : Int32))] _
      refine XS.iloadN X57.here hx rfl (hb hby d1_10) rfl ?_
      show own_S p e below T57 m 11 #[iv (6 : Int32), rv aA, iv (8 : Int32), iv (5 : Int32), rv en5] [(.int (8 : Int32)), (.int (5 : Int32))] _
      refine XS.icmpNo X57.here hx rfl (hb hby d1_11) rfl (tlt (by decide : (5 : Int32) < (8 : Int32))).2.1 ?_
      show own_S p e below T57 m 14 #[iv (6 : Int32), rv aA, iv (8 : Int32), iv (5 : Int32), rv en5] [] _
      refine XS.aloadN X57.here hx rfl (hb hby d1_14) rfl rfl ?_
      show own_S p e below T57 m 15 #[iv (6 : Int32), rv aA, iv (8 : Int32), iv (5 : Int32), rv en5] [(.ref aA)] _
      refine XS.iloadN X57.here hx rfl (hb hby d1_15) rfl ?_
      show own_S p e below T57 m 16 #[iv (6 : Int32), rv aA, iv (8 : Int32), iv (5 : Int32), rv en5] [(.int (5 : Int32)), (.ref aA)] _
      refine X57.aaload hx (j := (5 : Int32)) (v := (.ref en6)) (by rw [e57]; exact Ar58.1) (State.isArrayOf_alike hZ.alike Ar58.2.1) rfl Ar58.2.2 hin58 hat58 (g := (mkF m 16 #[iv (6 : Int32), rv aA, iv (8 : Int32), iv (5 : Int32), rv en5] [(.int (5 : Int32)), (.ref aA)])) rfl rfl (hb hby d1_16) _ ?_
      show own_S p e below T57 m 17 #[iv (6 : Int32), rv aA, iv (8 : Int32), iv (5 : Int32), rv en5] [(.ref en6)] _
      refine XS.astore X57.here hx rfl (hb hby d1_17) rfl rfl (l' := #[iv (6 : Int32), rv aA, iv (8 : Int32), iv (5 : Int32), rv en6]) rfl ?_
      show own_S p e below T57 m 19 #[iv (6 : Int32), rv aA, iv (8 : Int32), iv (5 : Int32), rv en6] [] _
      refine XS.aload X57.here hx rfl (hb hby d1_19) rfl rfl ?_
      show own_S p e below T57 m 21 #[iv (6 : Int32), rv aA, iv (8 : Int32), iv (5 : Int32), rv en6] [(.ref en6)] _
      refine st59 _ ?_
      show own_S p e below T59 m 24 #[iv (6 : Int32), rv aA, iv (8 : Int32), iv (5 : Int32), rv en6] [(.int (6 : Int32))] _
      refine XS.iloadN X59.here hx rfl (hb hby d1_24) rfl ?_
      show own_S p e below T59 m 25 #[iv (6 : Int32), rv aA, iv (8 : Int32), iv (5 : Int32), rv en6] [(.int (6 : Int32)), (.int (6 : Int32))] _
      refine XS.icmpNo X59.here hx rfl (hb hby d1_25) rfl (teq (by decide : (6 : Int32) = (6 : Int32))).2 ?_
      show own_S p e below T59 m 28 #[iv (6 : Int32), rv aA, iv (8 : Int32), iv (5 : Int32), rv en6] [] _
      refine XS.aload X59.here hx rfl (hb hby d1_28) rfl rfl ?_
      exact k)
    obtain ⟨fs, hr, hrun, hended, hW, hsame⟩ := X59.leave (v := some (.ref en6)) (fun h => by rw [Bd.returns] at h; cases h)
    refine ⟨_, _, pre60 _ ?_, hrun, hended, _, _, rfl, ?_, ⟨_, rfl⟩, hW, hsame.mono (by decide) (by decide)⟩
    · show own_S p e below T59 m 30 #[iv (6 : Int32), rv aA, iv (8 : Int32), iv (5 : Int32), rv en6] [(.ref en6)] _
      exact retOut X59 hx (t := (.object "com/example/broker/broker/wire/Command")) Bd.returns rfl (Or.inr (Or.inr (Or.inr (Or.inr ⟨rfl, rfl, rfl⟩)))) (hb hby d1_30) hr
    · show Q1 Z (6 : Int32) en1 en2 en3 en4 en5 en6 en7 en8 aA kA h0 n0 _ T59.heap _
      rw [e59]
      exact ⟨rfl, N0, rfl⟩
  ·  -- case
    obtain ⟨T61, X61, e61, st61⟩ := getS2 X0 hx hZ hown (host := "") (Or.inl (hw _ (List.mem_of_getElem? (i := 5) rfl))) Via.refl e0 S_A (g := (mkF m 0 #[iv (7 : Int32), .unset, .unset, .unset, .unset] [])) rfl (hb hby d1_0)
    obtain ⟨cl62, Ar62, q62, S62, M62, -, -⟩ := id V_A
    obtain ⟨cl63, Ar63, q63, S63, M63, H63, G63⟩ := id V_A
    have hin63 : ¬ ((0 : Int32) < 0 ∨ cl63.slots.size ≤ ((0 : Int32)).toNatClampNeg) := inb_of S63 ⟨by decide, by decide⟩
    have hat63 : cl63.slots[((0 : Int32)).toNatClampNeg]? = some (.ref en1) := H63.at hin63 rfl
    obtain ⟨T64, X64, e64, st64⟩ := getF X61 hx hZ hown (host := "") (Or.inl (hw _ (List.mem_of_getElem? (i := 8) rfl))) Via.refl e61 F_en1 (g := (mkF m 21 #[iv (7 : Int32), rv aA, iv (8 : Int32), iv (0 : Int32), rv en1] [(.ref en1)])) rfl rfl (hb hby d1_21)
    obtain ⟨cl65, Ar65, q65, S65, M65, H65, G65⟩ := id V_A
    have hin65 : ¬ ((1 : Int32) < 0 ∨ cl65.slots.size ≤ ((1 : Int32)).toNatClampNeg) := inb_of S65 ⟨by decide, by decide⟩
    have hat65 : cl65.slots[((1 : Int32)).toNatClampNeg]? = some (.ref en2) := H65.at hin65 rfl
    obtain ⟨T66, X66, e66, st66⟩ := getF X64 hx hZ hown (host := "") (Or.inl (hw _ (List.mem_of_getElem? (i := 8) rfl))) Via.refl e64 F_en2 (g := (mkF m 21 #[iv (7 : Int32), rv aA, iv (8 : Int32), iv (1 : Int32), rv en2] [(.ref en2)])) rfl rfl (hb hby d1_21)
    obtain ⟨cl67, Ar67, q67, S67, M67, H67, G67⟩ := id V_A
    have hin67 : ¬ ((2 : Int32) < 0 ∨ cl67.slots.size ≤ ((2 : Int32)).toNatClampNeg) := inb_of S67 ⟨by decide, by decide⟩
    have hat67 : cl67.slots[((2 : Int32)).toNatClampNeg]? = some (.ref en3) := H67.at hin67 rfl
    obtain ⟨T68, X68, e68, st68⟩ := getF X66 hx hZ hown (host := "") (Or.inl (hw _ (List.mem_of_getElem? (i := 8) rfl))) Via.refl e66 F_en3 (g := (mkF m 21 #[iv (7 : Int32), rv aA, iv (8 : Int32), iv (2 : Int32), rv en3] [(.ref en3)])) rfl rfl (hb hby d1_21)
    obtain ⟨cl69, Ar69, q69, S69, M69, H69, G69⟩ := id V_A
    have hin69 : ¬ ((3 : Int32) < 0 ∨ cl69.slots.size ≤ ((3 : Int32)).toNatClampNeg) := inb_of S69 ⟨by decide, by decide⟩
    have hat69 : cl69.slots[((3 : Int32)).toNatClampNeg]? = some (.ref en4) := H69.at hin69 rfl
    obtain ⟨T70, X70, e70, st70⟩ := getF X68 hx hZ hown (host := "") (Or.inl (hw _ (List.mem_of_getElem? (i := 8) rfl))) Via.refl e68 F_en4 (g := (mkF m 21 #[iv (7 : Int32), rv aA, iv (8 : Int32), iv (3 : Int32), rv en4] [(.ref en4)])) rfl rfl (hb hby d1_21)
    obtain ⟨cl71, Ar71, q71, S71, M71, H71, G71⟩ := id V_A
    have hin71 : ¬ ((4 : Int32) < 0 ∨ cl71.slots.size ≤ ((4 : Int32)).toNatClampNeg) := inb_of S71 ⟨by decide, by decide⟩
    have hat71 : cl71.slots[((4 : Int32)).toNatClampNeg]? = some (.ref en5) := H71.at hin71 rfl
    obtain ⟨T72, X72, e72, st72⟩ := getF X70 hx hZ hown (host := "") (Or.inl (hw _ (List.mem_of_getElem? (i := 8) rfl))) Via.refl e70 F_en5 (g := (mkF m 21 #[iv (7 : Int32), rv aA, iv (8 : Int32), iv (4 : Int32), rv en5] [(.ref en5)])) rfl rfl (hb hby d1_21)
    obtain ⟨cl73, Ar73, q73, S73, M73, H73, G73⟩ := id V_A
    have hin73 : ¬ ((5 : Int32) < 0 ∨ cl73.slots.size ≤ ((5 : Int32)).toNatClampNeg) := inb_of S73 ⟨by decide, by decide⟩
    have hat73 : cl73.slots[((5 : Int32)).toNatClampNeg]? = some (.ref en6) := H73.at hin73 rfl
    obtain ⟨T74, X74, e74, st74⟩ := getF X72 hx hZ hown (host := "") (Or.inl (hw _ (List.mem_of_getElem? (i := 8) rfl))) Via.refl e72 F_en6 (g := (mkF m 21 #[iv (7 : Int32), rv aA, iv (8 : Int32), iv (5 : Int32), rv en6] [(.ref en6)])) rfl rfl (hb hby d1_21)
    obtain ⟨cl75, Ar75, q75, S75, M75, H75, G75⟩ := id V_A
    have hin75 : ¬ ((6 : Int32) < 0 ∨ cl75.slots.size ≤ ((6 : Int32)).toNatClampNeg) := inb_of S75 ⟨by decide, by decide⟩
    have hat75 : cl75.slots[((6 : Int32)).toNatClampNeg]? = some (.ref en7) := H75.at hin75 rfl
    obtain ⟨T76, X76, e76, st76⟩ := getF X74 hx hZ hown (host := "") (Or.inl (hw _ (List.mem_of_getElem? (i := 8) rfl))) Via.refl e74 F_en7 (g := (mkF m 21 #[iv (7 : Int32), rv aA, iv (8 : Int32), iv (6 : Int32), rv en7] [(.ref en7)])) rfl rfl (hb hby d1_21)
    have pre77 : ∀ t, own_S p e below T76 m 30 #[iv (7 : Int32), rv aA, iv (8 : Int32), iv (6 : Int32), rv en7] [(.ref en7)] t → Steps p.tables e below (s₁.setTop (entryFrame m #[(.int (7 : Int32))] 5)) t := fun t k => pre0 t (by
      show own_S p e below s₁ m 0 #[iv (7 : Int32), .unset, .unset, .unset, .unset] [] _
      refine st61 _ ?_
      show own_S p e below T61 m 3 #[iv (7 : Int32), .unset, .unset, .unset, .unset] [(.ref aA)] _
      refine XS.astoreN X61.here hx rfl (hb hby d1_3) rfl rfl (l' := #[iv (7 : Int32), rv aA, .unset, .unset, .unset]) rfl ?_
      show own_S p e below T61 m 4 #[iv (7 : Int32), rv aA, .unset, .unset, .unset] [] _
      refine XS.aloadN X61.here hx rfl (hb hby d1_4) rfl rfl ?_
      show own_S p e below T61 m 5 #[iv (7 : Int32), rv aA, .unset, .unset, .unset] [(.ref aA)] _
      refine X61.arraylength hx (by rw [e61]; exact Ar62.1) (State.isArrayOf_alike hZ.alike Ar62.2.1) (g := (mkF m 5 #[iv (7 : Int32), rv aA, .unset, .unset, .unset] [(.ref aA)])) rfl rfl (hb hby d1_5) _ ?_
      rw [len_of S62 M62]
      show own_S p e below T61 m 6 #[iv (7 : Int32), rv aA, .unset, .unset, .unset] [(.int (8 : Int32))] _
      refine XS.istoreN X61.here hx rfl (hb hby d1_6) rfl (l' := #[iv (7 : Int32), rv aA, iv (8 : Int32), .unset, .unset]) rfl ?_
      show own_S p e below T61 m 7 #[iv (7 : Int32), rv aA, iv (8 : Int32), .unset, .unset] [] _
      refine XS.iconst X61.here hx rfl (hb hby d1_7) ?_
      show own_S p e below T61 m 8 #[iv (7 : Int32), rv aA, iv (8 : Int32), .unset, .unset] [(.int (0 : Int32))] _
      refine XS.istoreN X61.here hx rfl (hb hby d1_8) rfl (l' := #[iv (7 : Int32), rv aA, iv (8 : Int32), iv (0 : Int32), .unset]) rfl ?_
      show own_S p e below T61 m 9 #[iv (7 : Int32), rv aA, iv (8 : Int32), iv (0 : Int32), .unset] [] _
      refine XS.iloadN X61.here hx rfl (hb hby d1_9) rfl ?_
      show own_S p e below T61 m 10 #[iv (7 : Int32), rv aA, iv (8 : Int32), iv (0 : Int32), .unset] [(.int (0 : Int32))] _
      refine XS.iloadN X61.here hx rfl (hb hby d1_10) rfl ?_
      show own_S p e below T61 m 11 #[iv (7 : Int32), rv aA, iv (8 : Int32), iv (0 : Int32), .unset] [(.int (8 : Int32)), (.int (0 : Int32))] _
      refine XS.icmpNo X61.here hx rfl (hb hby d1_11) rfl (tlt (by decide : (0 : Int32) < (8 : Int32))).2.1 ?_
      show own_S p e below T61 m 14 #[iv (7 : Int32), rv aA, iv (8 : Int32), iv (0 : Int32), .unset] [] _
      refine XS.aloadN X61.here hx rfl (hb hby d1_14) rfl rfl ?_
      show own_S p e below T61 m 15 #[iv (7 : Int32), rv aA, iv (8 : Int32), iv (0 : Int32), .unset] [(.ref aA)] _
      refine XS.iloadN X61.here hx rfl (hb hby d1_15) rfl ?_
      show own_S p e below T61 m 16 #[iv (7 : Int32), rv aA, iv (8 : Int32), iv (0 : Int32), .unset] [(.int (0 : Int32)), (.ref aA)] _
      refine X61.aaload hx (j := (0 : Int32)) (v := (.ref en1)) (by rw [e61]; exact Ar63.1) (State.isArrayOf_alike hZ.alike Ar63.2.1) rfl Ar63.2.2 hin63 hat63 (g := (mkF m 16 #[iv (7 : Int32), rv aA, iv (8 : Int32), iv (0 : Int32), .unset] [(.int (0 : Int32)), (.ref aA)])) rfl rfl (hb hby d1_16) _ ?_
      show own_S p e below T61 m 17 #[iv (7 : Int32), rv aA, iv (8 : Int32), iv (0 : Int32), .unset] [(.ref en1)] _
      refine XS.astore X61.here hx rfl (hb hby d1_17) rfl rfl (l' := #[iv (7 : Int32), rv aA, iv (8 : Int32), iv (0 : Int32), rv en1]) rfl ?_
      show own_S p e below T61 m 19 #[iv (7 : Int32), rv aA, iv (8 : Int32), iv (0 : Int32), rv en1] [] _
      refine XS.aload X61.here hx rfl (hb hby d1_19) rfl rfl ?_
      show own_S p e below T61 m 21 #[iv (7 : Int32), rv aA, iv (8 : Int32), iv (0 : Int32), rv en1] [(.ref en1)] _
      refine st64 _ ?_
      show own_S p e below T64 m 24 #[iv (7 : Int32), rv aA, iv (8 : Int32), iv (0 : Int32), rv en1] [(.int (1 : Int32))] _
      refine XS.iloadN X64.here hx rfl (hb hby d1_24) rfl ?_
      show own_S p e below T64 m 25 #[iv (7 : Int32), rv aA, iv (8 : Int32), iv (0 : Int32), rv en1] [(.int (7 : Int32)), (.int (1 : Int32))] _
      refine XS.icmpYes X64.here hx rfl (pc0 := 25) (pc' := 31) rfl (hb hby d1_25) rfl (feq (by decide : ¬ ((1 : Int32) = (7 : Int32)))).2 (by decide) (by decide) ?_
      show own_S p e below T64 m 31 #[iv (7 : Int32), rv aA, iv (8 : Int32), iv (0 : Int32), rv en1] [] _
      refine XS.iinc X64.here hx rfl (hb hby d1_31) rfl (l' := #[iv (7 : Int32), rv aA, iv (8 : Int32), iv (1 : Int32), rv en1]) rfl ?_
      show own_S p e below T64 m 34 #[iv (7 : Int32), rv aA, iv (8 : Int32), iv (1 : Int32), rv en1] [] _
      refine XS.goto X64.here hx rfl (pc0 := 34) (pc' := 9) rfl (hb hby d1_34) (by decide) (by decide) ?_
      show own_S p e below T64 m 9 #[iv (7 : Int32), rv aA, iv (8 : Int32), iv (1 : Int32), rv en1] [] _
      refine XS.iloadN X64.here hx rfl (hb hby d1_9) rfl ?_
      show own_S p e below T64 m 10 #[iv (7 : Int32), rv aA, iv (8 : Int32), iv (1 : Int32), rv en1] [(.int (1 : Int32))] _
      refine XS.iloadN X64.here hx rfl (hb hby d1_10) rfl ?_
      show own_S p e below T64 m 11 #[iv (7 : Int32), rv aA, iv (8 : Int32), iv (1 : Int32), rv en1] [(.int (8 : Int32)), (.int (1 : Int32))] _
      refine XS.icmpNo X64.here hx rfl (hb hby d1_11) rfl (tlt (by decide : (1 : Int32) < (8 : Int32))).2.1 ?_
      show own_S p e below T64 m 14 #[iv (7 : Int32), rv aA, iv (8 : Int32), iv (1 : Int32), rv en1] [] _
      refine XS.aloadN X64.here hx rfl (hb hby d1_14) rfl rfl ?_
      show own_S p e below T64 m 15 #[iv (7 : Int32), rv aA, iv (8 : Int32), iv (1 : Int32), rv en1] [(.ref aA)] _
      refine XS.iloadN X64.here hx rfl (hb hby d1_15) rfl ?_
      show own_S p e below T64 m 16 #[iv (7 : Int32), rv aA, iv (8 : Int32), iv (1 : Int32), rv en1] [(.int (1 : Int32)), (.ref aA)] _
      refine X64.aaload hx (j := (1 : Int32)) (v := (.ref en2)) (by rw [e64]; exact Ar65.1) (State.isArrayOf_alike hZ.alike Ar65.2.1) rfl Ar65.2.2 hin65 hat65 (g := (mkF m 16 #[iv (7 : Int32), rv aA, iv (8 : Int32), iv (1 : Int32), rv en1] [(.int (1 : Int32)), (.ref aA)])) rfl rfl (hb hby d1_16) _ ?_
      show own_S p e below T64 m 17 #[iv (7 : Int32), rv aA, iv (8 : Int32), iv (1 : Int32), rv en1] [(.ref en2)] _
      refine XS.astore X64.here hx rfl (hb hby d1_17) rfl rfl (l' := #[iv (7 : Int32), rv aA, iv (8 : Int32), iv (1 : Int32), rv en2]) rfl ?_
      show own_S p e below T64 m 19 #[iv (7 : Int32), rv aA, iv (8 : Int32), iv (1 : Int32), rv en2] [] _
      refine XS.aload X64.here hx rfl (hb hby d1_19) rfl rfl ?_
      show own_S p e below T64 m 21 #[iv (7 : Int32), rv aA, iv (8 : Int32), iv (1 : Int32), rv en2] [(.ref en2)] _
      refine st66 _ ?_
      show own_S p e below T66 m 24 #[iv (7 : Int32), rv aA, iv (8 : Int32), iv (1 : Int32), rv en2] [(.int (2 : Int32))] _
      refine XS.iloadN X66.here hx rfl (hb hby d1_24) rfl ?_
      show own_S p e below T66 m 25 #[iv (7 : Int32), rv aA, iv (8 : Int32), iv (1 : Int32), rv en2] [(.int (7 : Int32)), (.int (2 : Int32))] _
      refine XS.icmpYes X66.here hx rfl (pc0 := 25) (pc' := 31) rfl (hb hby d1_25) rfl (feq (by decide : ¬ ((2 : Int32) = (7 : Int32)))).2 (by decide) (by decide) ?_
      show own_S p e below T66 m 31 #[iv (7 : Int32), rv aA, iv (8 : Int32), iv (1 : Int32), rv en2] [] _
      refine XS.iinc X66.here hx rfl (hb hby d1_31) rfl (l' := #[iv (7 : Int32), rv aA, iv (8 : Int32), iv (2 : Int32), rv en2]) rfl ?_
      show own_S p e below T66 m 34 #[iv (7 : Int32), rv aA, iv (8 : Int32), iv (2 : Int32), rv en2] [] _
      refine XS.goto X66.here hx rfl (pc0 := 34) (pc' := 9) rfl (hb hby d1_34) (by decide) (by decide) ?_
      show own_S p e below T66 m 9 #[iv (7 : Int32), rv aA, iv (8 : Int32), iv (2 : Int32), rv en2] [] _
      refine XS.iloadN X66.here hx rfl (hb hby d1_9) rfl ?_
      show own_S p e below T66 m 10 #[iv (7 : Int32), rv aA, iv (8 : Int32), iv (2 : Int32), rv en2] [(.int (2 : Int32))] _
      refine XS.iloadN X66.here hx rfl (hb hby d1_10) rfl ?_
      show own_S p e below T66 m 11 #[iv (7 : Int32), rv aA, iv (8 : Int32), iv (2 : Int32), rv en2] [(.int (8 : Int32)), (.int (2 : Int32))] _
      refine XS.icmpNo X66.here hx rfl (hb hby d1_11) rfl (tlt (by decide : (2 : Int32) < (8 : Int32))).2.1 ?_
      show own_S p e below T66 m 14 #[iv (7 : Int32), rv aA, iv (8 : Int32), iv (2 : Int32), rv en2] [] _
      refine XS.aloadN X66.here hx rfl (hb hby d1_14) rfl rfl ?_
      show own_S p e below T66 m 15 #[iv (7 : Int32), rv aA, iv (8 : Int32), iv (2 : Int32), rv en2] [(.ref aA)] _
      refine XS.iloadN X66.here hx rfl (hb hby d1_15) rfl ?_
      show own_S p e below T66 m 16 #[iv (7 : Int32), rv aA, iv (8 : Int32), iv (2 : Int32), rv en2] [(.int (2 : Int32)), (.ref aA)] _
      refine X66.aaload hx (j := (2 : Int32)) (v := (.ref en3)) (by rw [e66]; exact Ar67.1) (State.isArrayOf_alike hZ.alike Ar67.2.1) rfl Ar67.2.2 hin67 hat67 (g := (mkF m 16 #[iv (7 : Int32), rv aA, iv (8 : Int32), iv (2 : Int32), rv en2] [(.int (2 : Int32)), (.ref aA)])) rfl rfl (hb hby d1_16) _ ?_
      show own_S p e below T66 m 17 #[iv (7 : Int32), rv aA, iv (8 : Int32), iv (2 : Int32), rv en2] [(.ref en3)] _
      refine XS.astore X66.here hx rfl (hb hby d1_17) rfl rfl (l' := #[iv (7 : Int32), rv aA, iv (8 : Int32), iv (2 : Int32), rv en3]) rfl ?_
      show own_S p e below T66 m 19 #[iv (7 : Int32), rv aA, iv (8 : Int32), iv (2 : Int32), rv en3] [] _
      refine XS.aload X66.here hx rfl (hb hby d1_19) rfl rfl ?_
      show own_S p e below T66 m 21 #[iv (7 : Int32), rv aA, iv (8 : Int32), iv (2 : Int32), rv en3] [(.ref en3)] _
      refine st68 _ ?_
      show own_S p e below T68 m 24 #[iv (7 : Int32), rv aA, iv (8 : Int32), iv (2 : Int32), rv en3] [(.int (3 : Int32))] _
      refine XS.iloadN X68.here hx rfl (hb hby d1_24) rfl ?_
      show own_S p e below T68 m 25 #[iv (7 : Int32), rv aA, iv (8 : Int32), iv (2 : Int32), rv en3] [(.int (7 : Int32)), (.int (3 : Int32))] _
      refine XS.icmpYes X68.here hx rfl (pc0 := 25) (pc' := 31) rfl (hb hby d1_25) rfl (feq (by decide : ¬ ((3 : Int32) = (7 : Int32)))).2 (by decide) (by decide) ?_
      show own_S p e below T68 m 31 #[iv (7 : Int32), rv aA, iv (8 : Int32), iv (2 : Int32), rv en3] [] _
      refine XS.iinc X68.here hx rfl (hb hby d1_31) rfl (l' := #[iv (7 : Int32), rv aA, iv (8 : Int32), iv (3 : Int32), rv en3]) rfl ?_
      show own_S p e below T68 m 34 #[iv (7 : Int32), rv aA, iv (8 : Int32), iv (3 : Int32), rv en3] [] _
      refine XS.goto X68.here hx rfl (pc0 := 34) (pc' := 9) rfl (hb hby d1_34) (by decide) (by decide) ?_
      show own_S p e below T68 m 9 #[iv (7 : Int32), rv aA, iv (8 : Int32), iv (3 : Int32), rv en3] [] _
      refine XS.iloadN X68.here hx rfl (hb hby d1_9) rfl ?_
      show own_S p e below T68 m 10 #[iv (7 : Int32), rv aA, iv (8 : Int32), iv (3 : Int32), rv en3] [(.int (3 : Int32))] _
      refine XS.iloadN X68.here hx rfl (hb hby d1_10) rfl ?_
      show own_S p e below T68 m 11 #[iv (7 : Int32), rv aA, iv (8 : Int32), iv (3 : Int32), rv en3] [(.int (8 : Int32)), (.int (3 : Int32))] _
      refine XS.icmpNo X68.here hx rfl (hb hby d1_11) rfl (tlt (by decide : (3 : Int32) < (8 : Int32))).2.1 ?_
      show own_S p e below T68 m 14 #[iv (7 : Int32), rv aA, iv (8 : Int32), iv (3 : Int32), rv en3] [] _
      refine XS.aloadN X68.here hx rfl (hb hby d1_14) rfl rfl ?_
      show own_S p e below T68 m 15 #[iv (7 : Int32), rv aA, iv (8 : Int32), iv (3 : Int32), rv en3] [(.ref aA)] _
      refine XS.iloadN X68.here hx rfl (hb hby d1_15) rfl ?_
      show own_S p e below T68 m 16 #[iv (7 : Int32), rv aA, iv (8 : Int32), iv (3 : Int32), rv en3] [(.int (3 : Int32)), (.ref aA)] _
      refine X68.aaload hx (j := (3 : Int32)) (v := (.ref en4)) (by rw [e68]; exact Ar69.1) (State.isArrayOf_alike hZ.alike Ar69.2.1) rfl Ar69.2.2 hin69 hat69 (g := (mkF m 16 #[iv (7 : Int32), rv aA, iv (8 : Int32), iv (3 : Int32), rv en3] [(.int (3 : Int32)), (.ref aA)])) rfl rfl (hb hby d1_16) _ ?_
      show own_S p e below T68 m 17 #[iv (7 : Int32), rv aA, iv (8 : Int32), iv (3 : Int32), rv en3] [(.ref en4)] _
      refine XS.astore X68.here hx rfl (hb hby d1_17) rfl rfl (l' := #[iv (7 : Int32), rv aA, iv (8 : Int32), iv (3 : Int32), rv en4]) rfl ?_
      show own_S p e below T68 m 19 #[iv (7 : Int32), rv aA, iv (8 : Int32), iv (3 : Int32), rv en4] [] _
      refine XS.aload X68.here hx rfl (hb hby d1_19) rfl rfl ?_
      show own_S p e below T68 m 21 #[iv (7 : Int32), rv aA, iv (8 : Int32), iv (3 : Int32), rv en4] [(.ref en4)] _
      refine st70 _ ?_
      show own_S p e below T70 m 24 #[iv (7 : Int32), rv aA, iv (8 : Int32), iv (3 : Int32), rv en4] [(.int (4 : Int32))] _
      refine XS.iloadN X70.here hx rfl (hb hby d1_24) rfl ?_
      show own_S p e below T70 m 25 #[iv (7 : Int32), rv aA, iv (8 : Int32), iv (3 : Int32), rv en4] [(.int (7 : Int32)), (.int (4 : Int32))] _
      refine XS.icmpYes X70.here hx rfl (pc0 := 25) (pc' := 31) rfl (hb hby d1_25) rfl (feq (by decide : ¬ ((4 : Int32) = (7 : Int32)))).2 (by decide) (by decide) ?_
      show own_S p e below T70 m 31 #[iv (7 : Int32), rv aA, iv (8 : Int32), iv (3 : Int32), rv en4] [] _
      refine XS.iinc X70.here hx rfl (hb hby d1_31) rfl (l' := #[iv (7 : Int32), rv aA, iv (8 : Int32), iv (4 : Int32), rv en4]) rfl ?_
      show own_S p e below T70 m 34 #[iv (7 : Int32), rv aA, iv (8 : Int32), iv (4 : Int32), rv en4] [] _
      refine XS.goto X70.here hx rfl (pc0 := 34) (pc' := 9) rfl (hb hby d1_34) (by decide) (by decide) ?_
      show own_S p e below T70 m 9 #[iv (7 : Int32), rv aA, iv (8 : Int32), iv (4 : Int32), rv en4] [] _
      refine XS.iloadN X70.here hx rfl (hb hby d1_9) rfl ?_
      show own_S p e below T70 m 10 #[iv (7 : Int32), rv aA, iv (8 : Int32), iv (4 : Int32), rv en4] [(.int (4 : Int32))] _
      refine XS.iloadN X70.here hx rfl (hb hby d1_10) rfl ?_
      show own_S p e below T70 m 11 #[iv (7 : Int32), rv aA, iv (8 : Int32), iv (4 : Int32), rv en4] [(.int (8 : Int32)), (.int (4 : Int32))] _
      refine XS.icmpNo X70.here hx rfl (hb hby d1_11) rfl (tlt (by decide : (4 : Int32) < (8 : Int32))).2.1 ?_
      show own_S p e below T70 m 14 #[iv (7 : Int32), rv aA, iv (8 : Int32), iv (4 : Int32), rv en4] [] _
      refine XS.aloadN X70.here hx rfl (hb hby d1_14) rfl rfl ?_
      show own_S p e below T70 m 15 #[iv (7 : Int32), rv aA, iv (8 : Int32), iv (4 : Int32), rv en4] [(.ref aA)] _
      refine XS.iloadN X70.here hx rfl (hb hby d1_15) rfl ?_
      show own_S p e below T70 m 16 #[iv (7 : Int32), rv aA, iv (8 : Int32), iv (4 : Int32), rv en4] [(.int (4 : Int32)), (.ref aA)] _
      refine X70.aaload hx (j := (4 : Int32)) (v := (.ref en5)) (by rw [e70]; exact Ar71.1) (State.isArrayOf_alike hZ.alike Ar71.2.1) rfl Ar71.2.2 hin71 hat71 (g := (mkF m 16 #[iv (7 : Int32), rv aA, iv (8 : Int32), iv (4 : Int32), rv en4] [(.int (4 : Int32)), (.ref aA)])) rfl rfl (hb hby d1_16) _ ?_
      show own_S p e below T70 m 17 #[iv (7 : Int32), rv aA, iv (8 : Int32), iv (4 : Int32), rv en4] [(.ref en5)] _
      refine XS.astore X70.here hx rfl (hb hby d1_17) rfl rfl (l' := #[iv (7 : Int32), rv aA, iv (8 : Int32), iv (4 : Int32), rv en5]) rfl ?_
      show own_S p e below T70 m 19 #[iv (7 : Int32), rv aA, iv (8 : Int32), iv (4 : Int32), rv en5] [] _
      refine XS.aload X70.here hx rfl (hb hby d1_19) rfl rfl ?_
      show own_S p e below T70 m 21 #[iv (7 : Int32), rv aA, iv (8 : Int32), iv (4 : Int32), rv en5] [(.ref en5)] _
      refine st72 _ ?_
      show own_S p e below T72 m 24 #[iv (7 : Int32), rv aA, iv (8 : Int32), iv (4 : Int32), rv en5] [(.int (5 : Int32))] _
      refine XS.iloadN X72.here hx rfl (hb hby d1_24) rfl ?_
      show own_S p e below T72 m 25 #[iv (7 : Int32), rv aA, iv (8 : Int32), iv (4 : Int32), rv en5] [(.int (7 : Int32)), (.int (5 : Int32))] _
      refine XS.icmpYes X72.here hx rfl (pc0 := 25) (pc' := 31) rfl (hb hby d1_25) rfl (feq (by decide : ¬ ((5 : Int32) = (7 : Int32)))).2 (by decide) (by decide) ?_
      show own_S p e below T72 m 31 #[iv (7 : Int32), rv aA, iv (8 : Int32), iv (4 : Int32), rv en5] [] _
      refine XS.iinc X72.here hx rfl (hb hby d1_31) rfl (l' := #[iv (7 : Int32), rv aA, iv (8 : Int32), iv (5 : Int32), rv en5]) rfl ?_
      show own_S p e below T72 m 34 #[iv (7 : Int32), rv aA, iv (8 : Int32), iv (5 : Int32), rv en5] [] _
      refine XS.goto X72.here hx rfl (pc0 := 34) (pc' := 9) rfl (hb hby d1_34) (by decide) (by decide) ?_
      show own_S p e below T72 m 9 #[iv (7 : Int32), rv aA, iv (8 : Int32), iv (5 : Int32), rv en5] [] _
      refine XS.iloadN X72.here hx rfl (hb hby d1_9) rfl ?_
      show own_S p e below T72 m 10 #[iv (7 : Int32), rv aA, iv (8 : Int32), iv (5 : Int32), rv en5] [(.int (5 : Int32))] _
      refine XS.iloadN X72.here hx rfl (hb hby d1_10) rfl ?_
      show own_S p e below T72 m 11 #[iv (7 : Int32), rv aA, iv (8 : Int32), iv (5 : Int32), rv en5] [(.int (8 : Int32)), (.int (5 : Int32))] _
      refine XS.icmpNo X72.here hx rfl (hb hby d1_11) rfl (tlt (by decide : (5 : Int32) < (8 : Int32))).2.1 ?_
      show own_S p e below T72 m 14 #[iv (7 : Int32), rv aA, iv (8 : Int32), iv (5 : Int32), rv en5] [] _
      refine XS.aloadN X72.here hx rfl (hb hby d1_14) rfl rfl ?_
      show own_S p e below T72 m 15 #[iv (7 : Int32), rv aA, iv (8 : Int32), iv (5 : Int32), rv en5] [(.ref aA)] _
      refine XS.iloadN X72.here hx rfl (hb hby d1_15) rfl ?_
      show own_S p e below T72 m 16 #[iv (7 : Int32), rv aA, iv (8 : Int32), iv (5 : Int32), rv en5] [(.int (5 : Int32)), (.ref aA)] _
      refine X72.aaload hx (j := (5 : Int32)) (v := (.ref en6)) (by rw [e72]; exact Ar73.1) (State.isArrayOf_alike hZ.alike Ar73.2.1) rfl Ar73.2.2 hin73 hat73 (g := (mkF m 16 #[iv (7 : Int32), rv aA, iv (8 : Int32), iv (5 : Int32), rv en5] [(.int (5 : Int32)), (.ref aA)])) rfl rfl (hb hby d1_16) _ ?_
      show own_S p e below T72 m 17 #[iv (7 : Int32), rv aA, iv (8 : Int32), iv (5 : Int32), rv en5] [(.ref en6)] _
      refine XS.astore X72.here hx rfl (hb hby d1_17) rfl rfl (l' := #[iv (7 : Int32), rv aA, iv (8 : Int32), iv (5 : Int32), rv en6]) rfl ?_
      show own_S p e below T72 m 19 #[iv (7 : Int32), rv aA, iv (8 : Int32), iv (5 : Int32), rv en6] [] _
      refine XS.aload X72.here hx rfl (hb hby d1_19) rfl rfl ?_
      show own_S p e below T72 m 21 #[iv (7 : Int32), rv aA, iv (8 : Int32), iv (5 : Int32), rv en6] [(.ref en6)] _
      refine st74 _ ?_
      show own_S p e below T74 m 24 #[iv (7 : Int32), rv aA, iv (8 : Int32), iv (5 : Int32), rv en6] [(.int (6 : Int32))] _
      refine XS.iloadN X74.here hx rfl (hb hby d1_24) rfl ?_
      show own_S p e below T74 m 25 #[iv (7 : Int32), rv aA, iv (8 : Int32), iv (5 : Int32), rv en6] [(.int (7 : Int32)), (.int (6 : Int32))] _
      refine XS.icmpYes X74.here hx rfl (pc0 := 25) (pc' := 31) rfl (hb hby d1_25) rfl (feq (by decide : ¬ ((6 : Int32) = (7 : Int32)))).2 (by decide) (by decide) ?_
      show own_S p e below T74 m 31 #[iv (7 : Int32), rv aA, iv (8 : Int32), iv (5 : Int32), rv en6] [] _
      refine XS.iinc X74.here hx rfl (hb hby d1_31) rfl (l' := #[iv (7 : Int32), rv aA, iv (8 : Int32), iv (6 : Int32), rv en6]) rfl ?_
      show own_S p e below T74 m 34 #[iv (7 : Int32), rv aA, iv (8 : Int32), iv (6 : Int32), rv en6] [] _
      refine XS.goto X74.here hx rfl (pc0 := 34) (pc' := 9) rfl (hb hby d1_34) (by decide) (by decide) ?_
      show own_S p e below T74 m 9 #[iv (7 : Int32), rv aA, iv (8 : Int32), iv (6 : Int32), rv en6] [] _
      refine XS.iloadN X74.here hx rfl (hb hby d1_9) rfl ?_
      show own_S p e below T74 m 10 #[iv (7 : Int32), rv aA, iv (8 : Int32), iv (6 : Int32), rv en6] [(.int (6 : Int32))] _
      refine XS.iloadN X74.here hx rfl (hb hby d1_10) rfl ?_
      show own_S p e below T74 m 11 #[iv (7 : Int32), rv aA, iv (8 : Int32), iv (6 : Int32), rv en6] [(.int (8 : Int32)), (.int (6 : Int32))] _
      refine XS.icmpNo X74.here hx rfl (hb hby d1_11) rfl (tlt (by decide : (6 : Int32) < (8 : Int32))).2.1 ?_
      show own_S p e below T74 m 14 #[iv (7 : Int32), rv aA, iv (8 : Int32), iv (6 : Int32), rv en6] [] _
      refine XS.aloadN X74.here hx rfl (hb hby d1_14) rfl rfl ?_
      show own_S p e below T74 m 15 #[iv (7 : Int32), rv aA, iv (8 : Int32), iv (6 : Int32), rv en6] [(.ref aA)] _
      refine XS.iloadN X74.here hx rfl (hb hby d1_15) rfl ?_
      show own_S p e below T74 m 16 #[iv (7 : Int32), rv aA, iv (8 : Int32), iv (6 : Int32), rv en6] [(.int (6 : Int32)), (.ref aA)] _
      refine X74.aaload hx (j := (6 : Int32)) (v := (.ref en7)) (by rw [e74]; exact Ar75.1) (State.isArrayOf_alike hZ.alike Ar75.2.1) rfl Ar75.2.2 hin75 hat75 (g := (mkF m 16 #[iv (7 : Int32), rv aA, iv (8 : Int32), iv (6 : Int32), rv en6] [(.int (6 : Int32)), (.ref aA)])) rfl rfl (hb hby d1_16) _ ?_
      show own_S p e below T74 m 17 #[iv (7 : Int32), rv aA, iv (8 : Int32), iv (6 : Int32), rv en6] [(.ref en7)] _
      refine XS.astore X74.here hx rfl (hb hby d1_17) rfl rfl (l' := #[iv (7 : Int32), rv aA, iv (8 : Int32), iv (6 : Int32), rv en7]) rfl ?_
      show own_S p e below T74 m 19 #[iv (7 : Int32), rv aA, iv (8 : Int32), iv (6 : Int32), rv en7] [] _
      refine XS.aload X74.here hx rfl (hb hby d1_19) rfl rfl ?_
      show own_S p e below T74 m 21 #[iv (7 : Int32), rv aA, iv (8 : Int32), iv (6 : Int32), rv en7] [(.ref en7)] _
      refine st76 _ ?_
      show own_S p e below T76 m 24 #[iv (7 : Int32), rv aA, iv (8 : Int32), iv (6 : Int32), rv en7] [(.int (7 : Int32))] _
      refine XS.iloadN X76.here hx rfl (hb hby d1_24) rfl ?_
      show own_S p e below T76 m 25 #[iv (7 : Int32), rv aA, iv (8 : Int32), iv (6 : Int32), rv en7] [(.int (7 : Int32)), (.int (7 : Int32))] _
      refine XS.icmpNo X76.here hx rfl (hb hby d1_25) rfl (teq (by decide : (7 : Int32) = (7 : Int32))).2 ?_
      show own_S p e below T76 m 28 #[iv (7 : Int32), rv aA, iv (8 : Int32), iv (6 : Int32), rv en7] [] _
      refine XS.aload X76.here hx rfl (hb hby d1_28) rfl rfl ?_
      exact k)
    obtain ⟨fs, hr, hrun, hended, hW, hsame⟩ := X76.leave (v := some (.ref en7)) (fun h => by rw [Bd.returns] at h; cases h)
    refine ⟨_, _, pre77 _ ?_, hrun, hended, _, _, rfl, ?_, ⟨_, rfl⟩, hW, hsame.mono (by decide) (by decide)⟩
    · show own_S p e below T76 m 30 #[iv (7 : Int32), rv aA, iv (8 : Int32), iv (6 : Int32), rv en7] [(.ref en7)] _
      exact retOut X76 hx (t := (.object "com/example/broker/broker/wire/Command")) Bd.returns rfl (Or.inr (Or.inr (Or.inr (Or.inr ⟨rfl, rfl, rfl⟩)))) (hb hby d1_30) hr
    · show Q1 Z (7 : Int32) en1 en2 en3 en4 en5 en6 en7 en8 aA kA h0 n0 _ T76.heap _
      rw [e76]
      exact ⟨rfl, N0, rfl⟩
  ·  -- case
    obtain ⟨T78, X78, e78, st78⟩ := getS2 X0 hx hZ hown (host := "") (Or.inl (hw _ (List.mem_of_getElem? (i := 5) rfl))) Via.refl e0 S_A (g := (mkF m 0 #[iv (8 : Int32), .unset, .unset, .unset, .unset] [])) rfl (hb hby d1_0)
    obtain ⟨cl79, Ar79, q79, S79, M79, -, -⟩ := id V_A
    obtain ⟨cl80, Ar80, q80, S80, M80, H80, G80⟩ := id V_A
    have hin80 : ¬ ((0 : Int32) < 0 ∨ cl80.slots.size ≤ ((0 : Int32)).toNatClampNeg) := inb_of S80 ⟨by decide, by decide⟩
    have hat80 : cl80.slots[((0 : Int32)).toNatClampNeg]? = some (.ref en1) := H80.at hin80 rfl
    obtain ⟨T81, X81, e81, st81⟩ := getF X78 hx hZ hown (host := "") (Or.inl (hw _ (List.mem_of_getElem? (i := 8) rfl))) Via.refl e78 F_en1 (g := (mkF m 21 #[iv (8 : Int32), rv aA, iv (8 : Int32), iv (0 : Int32), rv en1] [(.ref en1)])) rfl rfl (hb hby d1_21)
    obtain ⟨cl82, Ar82, q82, S82, M82, H82, G82⟩ := id V_A
    have hin82 : ¬ ((1 : Int32) < 0 ∨ cl82.slots.size ≤ ((1 : Int32)).toNatClampNeg) := inb_of S82 ⟨by decide, by decide⟩
    have hat82 : cl82.slots[((1 : Int32)).toNatClampNeg]? = some (.ref en2) := H82.at hin82 rfl
    obtain ⟨T83, X83, e83, st83⟩ := getF X81 hx hZ hown (host := "") (Or.inl (hw _ (List.mem_of_getElem? (i := 8) rfl))) Via.refl e81 F_en2 (g := (mkF m 21 #[iv (8 : Int32), rv aA, iv (8 : Int32), iv (1 : Int32), rv en2] [(.ref en2)])) rfl rfl (hb hby d1_21)
    obtain ⟨cl84, Ar84, q84, S84, M84, H84, G84⟩ := id V_A
    have hin84 : ¬ ((2 : Int32) < 0 ∨ cl84.slots.size ≤ ((2 : Int32)).toNatClampNeg) := inb_of S84 ⟨by decide, by decide⟩
    have hat84 : cl84.slots[((2 : Int32)).toNatClampNeg]? = some (.ref en3) := H84.at hin84 rfl
    obtain ⟨T85, X85, e85, st85⟩ := getF X83 hx hZ hown (host := "") (Or.inl (hw _ (List.mem_of_getElem? (i := 8) rfl))) Via.refl e83 F_en3 (g := (mkF m 21 #[iv (8 : Int32), rv aA, iv (8 : Int32), iv (2 : Int32), rv en3] [(.ref en3)])) rfl rfl (hb hby d1_21)
    obtain ⟨cl86, Ar86, q86, S86, M86, H86, G86⟩ := id V_A
    have hin86 : ¬ ((3 : Int32) < 0 ∨ cl86.slots.size ≤ ((3 : Int32)).toNatClampNeg) := inb_of S86 ⟨by decide, by decide⟩
    have hat86 : cl86.slots[((3 : Int32)).toNatClampNeg]? = some (.ref en4) := H86.at hin86 rfl
    obtain ⟨T87, X87, e87, st87⟩ := getF X85 hx hZ hown (host := "") (Or.inl (hw _ (List.mem_of_getElem? (i := 8) rfl))) Via.refl e85 F_en4 (g := (mkF m 21 #[iv (8 : Int32), rv aA, iv (8 : Int32), iv (3 : Int32), rv en4] [(.ref en4)])) rfl rfl (hb hby d1_21)
    obtain ⟨cl88, Ar88, q88, S88, M88, H88, G88⟩ := id V_A
    have hin88 : ¬ ((4 : Int32) < 0 ∨ cl88.slots.size ≤ ((4 : Int32)).toNatClampNeg) := inb_of S88 ⟨by decide, by decide⟩
    have hat88 : cl88.slots[((4 : Int32)).toNatClampNeg]? = some (.ref en5) := H88.at hin88 rfl
    obtain ⟨T89, X89, e89, st89⟩ := getF X87 hx hZ hown (host := "") (Or.inl (hw _ (List.mem_of_getElem? (i := 8) rfl))) Via.refl e87 F_en5 (g := (mkF m 21 #[iv (8 : Int32), rv aA, iv (8 : Int32), iv (4 : Int32), rv en5] [(.ref en5)])) rfl rfl (hb hby d1_21)
    obtain ⟨cl90, Ar90, q90, S90, M90, H90, G90⟩ := id V_A
    have hin90 : ¬ ((5 : Int32) < 0 ∨ cl90.slots.size ≤ ((5 : Int32)).toNatClampNeg) := inb_of S90 ⟨by decide, by decide⟩
    have hat90 : cl90.slots[((5 : Int32)).toNatClampNeg]? = some (.ref en6) := H90.at hin90 rfl
    obtain ⟨T91, X91, e91, st91⟩ := getF X89 hx hZ hown (host := "") (Or.inl (hw _ (List.mem_of_getElem? (i := 8) rfl))) Via.refl e89 F_en6 (g := (mkF m 21 #[iv (8 : Int32), rv aA, iv (8 : Int32), iv (5 : Int32), rv en6] [(.ref en6)])) rfl rfl (hb hby d1_21)
    obtain ⟨cl92, Ar92, q92, S92, M92, H92, G92⟩ := id V_A
    have hin92 : ¬ ((6 : Int32) < 0 ∨ cl92.slots.size ≤ ((6 : Int32)).toNatClampNeg) := inb_of S92 ⟨by decide, by decide⟩
    have hat92 : cl92.slots[((6 : Int32)).toNatClampNeg]? = some (.ref en7) := H92.at hin92 rfl
    obtain ⟨T93, X93, e93, st93⟩ := getF X91 hx hZ hown (host := "") (Or.inl (hw _ (List.mem_of_getElem? (i := 8) rfl))) Via.refl e91 F_en7 (g := (mkF m 21 #[iv (8 : Int32), rv aA, iv (8 : Int32), iv (6 : Int32), rv en7] [(.ref en7)])) rfl rfl (hb hby d1_21)
    obtain ⟨cl94, Ar94, q94, S94, M94, H94, G94⟩ := id V_A
    have hin94 : ¬ ((7 : Int32) < 0 ∨ cl94.slots.size ≤ ((7 : Int32)).toNatClampNeg) := inb_of S94 ⟨by decide, by decide⟩
    have hat94 : cl94.slots[((7 : Int32)).toNatClampNeg]? = some (.ref en8) := H94.at hin94 rfl
    obtain ⟨T95, X95, e95, st95⟩ := getF X93 hx hZ hown (host := "") (Or.inl (hw _ (List.mem_of_getElem? (i := 8) rfl))) Via.refl e93 F_en8 (g := (mkF m 21 #[iv (8 : Int32), rv aA, iv (8 : Int32), iv (7 : Int32), rv en8] [(.ref en8)])) rfl rfl (hb hby d1_21)
    have pre96 : ∀ t, own_S p e below T95 m 30 #[iv (8 : Int32), rv aA, iv (8 : Int32), iv (7 : Int32), rv en8] [(.ref en8)] t → Steps p.tables e below (s₁.setTop (entryFrame m #[(.int (8 : Int32))] 5)) t := fun t k => pre0 t (by
      show own_S p e below s₁ m 0 #[iv (8 : Int32), .unset, .unset, .unset, .unset] [] _
      refine st78 _ ?_
      show own_S p e below T78 m 3 #[iv (8 : Int32), .unset, .unset, .unset, .unset] [(.ref aA)] _
      refine XS.astoreN X78.here hx rfl (hb hby d1_3) rfl rfl (l' := #[iv (8 : Int32), rv aA, .unset, .unset, .unset]) rfl ?_
      show own_S p e below T78 m 4 #[iv (8 : Int32), rv aA, .unset, .unset, .unset] [] _
      refine XS.aloadN X78.here hx rfl (hb hby d1_4) rfl rfl ?_
      show own_S p e below T78 m 5 #[iv (8 : Int32), rv aA, .unset, .unset, .unset] [(.ref aA)] _
      refine X78.arraylength hx (by rw [e78]; exact Ar79.1) (State.isArrayOf_alike hZ.alike Ar79.2.1) (g := (mkF m 5 #[iv (8 : Int32), rv aA, .unset, .unset, .unset] [(.ref aA)])) rfl rfl (hb hby d1_5) _ ?_
      rw [len_of S79 M79]
      show own_S p e below T78 m 6 #[iv (8 : Int32), rv aA, .unset, .unset, .unset] [(.int (8 : Int32))] _
      refine XS.istoreN X78.here hx rfl (hb hby d1_6) rfl (l' := #[iv (8 : Int32), rv aA, iv (8 : Int32), .unset, .unset]) rfl ?_
      show own_S p e below T78 m 7 #[iv (8 : Int32), rv aA, iv (8 : Int32), .unset, .unset] [] _
      refine XS.iconst X78.here hx rfl (hb hby d1_7) ?_
      show own_S p e below T78 m 8 #[iv (8 : Int32), rv aA, iv (8 : Int32), .unset, .unset] [(.int (0 : Int32))] _
      refine XS.istoreN X78.here hx rfl (hb hby d1_8) rfl (l' := #[iv (8 : Int32), rv aA, iv (8 : Int32), iv (0 : Int32), .unset]) rfl ?_
      show own_S p e below T78 m 9 #[iv (8 : Int32), rv aA, iv (8 : Int32), iv (0 : Int32), .unset] [] _
      refine XS.iloadN X78.here hx rfl (hb hby d1_9) rfl ?_
      show own_S p e below T78 m 10 #[iv (8 : Int32), rv aA, iv (8 : Int32), iv (0 : Int32), .unset] [(.int (0 : Int32))] _
      refine XS.iloadN X78.here hx rfl (hb hby d1_10) rfl ?_
      show own_S p e below T78 m 11 #[iv (8 : Int32), rv aA, iv (8 : Int32), iv (0 : Int32), .unset] [(.int (8 : Int32)), (.int (0 : Int32))] _
      refine XS.icmpNo X78.here hx rfl (hb hby d1_11) rfl (tlt (by decide : (0 : Int32) < (8 : Int32))).2.1 ?_
      show own_S p e below T78 m 14 #[iv (8 : Int32), rv aA, iv (8 : Int32), iv (0 : Int32), .unset] [] _
      refine XS.aloadN X78.here hx rfl (hb hby d1_14) rfl rfl ?_
      show own_S p e below T78 m 15 #[iv (8 : Int32), rv aA, iv (8 : Int32), iv (0 : Int32), .unset] [(.ref aA)] _
      refine XS.iloadN X78.here hx rfl (hb hby d1_15) rfl ?_
      show own_S p e below T78 m 16 #[iv (8 : Int32), rv aA, iv (8 : Int32), iv (0 : Int32), .unset] [(.int (0 : Int32)), (.ref aA)] _
      refine X78.aaload hx (j := (0 : Int32)) (v := (.ref en1)) (by rw [e78]; exact Ar80.1) (State.isArrayOf_alike hZ.alike Ar80.2.1) rfl Ar80.2.2 hin80 hat80 (g := (mkF m 16 #[iv (8 : Int32), rv aA, iv (8 : Int32), iv (0 : Int32), .unset] [(.int (0 : Int32)), (.ref aA)])) rfl rfl (hb hby d1_16) _ ?_
      show own_S p e below T78 m 17 #[iv (8 : Int32), rv aA, iv (8 : Int32), iv (0 : Int32), .unset] [(.ref en1)] _
      refine XS.astore X78.here hx rfl (hb hby d1_17) rfl rfl (l' := #[iv (8 : Int32), rv aA, iv (8 : Int32), iv (0 : Int32), rv en1]) rfl ?_
      show own_S p e below T78 m 19 #[iv (8 : Int32), rv aA, iv (8 : Int32), iv (0 : Int32), rv en1] [] _
      refine XS.aload X78.here hx rfl (hb hby d1_19) rfl rfl ?_
      show own_S p e below T78 m 21 #[iv (8 : Int32), rv aA, iv (8 : Int32), iv (0 : Int32), rv en1] [(.ref en1)] _
      refine st81 _ ?_
      show own_S p e below T81 m 24 #[iv (8 : Int32), rv aA, iv (8 : Int32), iv (0 : Int32), rv en1] [(.int (1 : Int32))] _
      refine XS.iloadN X81.here hx rfl (hb hby d1_24) rfl ?_
      show own_S p e below T81 m 25 #[iv (8 : Int32), rv aA, iv (8 : Int32), iv (0 : Int32), rv en1] [(.int (8 : Int32)), (.int (1 : Int32))] _
      refine XS.icmpYes X81.here hx rfl (pc0 := 25) (pc' := 31) rfl (hb hby d1_25) rfl (feq (by decide : ¬ ((1 : Int32) = (8 : Int32)))).2 (by decide) (by decide) ?_
      show own_S p e below T81 m 31 #[iv (8 : Int32), rv aA, iv (8 : Int32), iv (0 : Int32), rv en1] [] _
      refine XS.iinc X81.here hx rfl (hb hby d1_31) rfl (l' := #[iv (8 : Int32), rv aA, iv (8 : Int32), iv (1 : Int32), rv en1]) rfl ?_
      show own_S p e below T81 m 34 #[iv (8 : Int32), rv aA, iv (8 : Int32), iv (1 : Int32), rv en1] [] _
      refine XS.goto X81.here hx rfl (pc0 := 34) (pc' := 9) rfl (hb hby d1_34) (by decide) (by decide) ?_
      show own_S p e below T81 m 9 #[iv (8 : Int32), rv aA, iv (8 : Int32), iv (1 : Int32), rv en1] [] _
      refine XS.iloadN X81.here hx rfl (hb hby d1_9) rfl ?_
      show own_S p e below T81 m 10 #[iv (8 : Int32), rv aA, iv (8 : Int32), iv (1 : Int32), rv en1] [(.int (1 : Int32))] _
      refine XS.iloadN X81.here hx rfl (hb hby d1_10) rfl ?_
      show own_S p e below T81 m 11 #[iv (8 : Int32), rv aA, iv (8 : Int32), iv (1 : Int32), rv en1] [(.int (8 : Int32)), (.int (1 : Int32))] _
      refine XS.icmpNo X81.here hx rfl (hb hby d1_11) rfl (tlt (by decide : (1 : Int32) < (8 : Int32))).2.1 ?_
      show own_S p e below T81 m 14 #[iv (8 : Int32), rv aA, iv (8 : Int32), iv (1 : Int32), rv en1] [] _
      refine XS.aloadN X81.here hx rfl (hb hby d1_14) rfl rfl ?_
      show own_S p e below T81 m 15 #[iv (8 : Int32), rv aA, iv (8 : Int32), iv (1 : Int32), rv en1] [(.ref aA)] _
      refine XS.iloadN X81.here hx rfl (hb hby d1_15) rfl ?_
      show own_S p e below T81 m 16 #[iv (8 : Int32), rv aA, iv (8 : Int32), iv (1 : Int32), rv en1] [(.int (1 : Int32)), (.ref aA)] _
      refine X81.aaload hx (j := (1 : Int32)) (v := (.ref en2)) (by rw [e81]; exact Ar82.1) (State.isArrayOf_alike hZ.alike Ar82.2.1) rfl Ar82.2.2 hin82 hat82 (g := (mkF m 16 #[iv (8 : Int32), rv aA, iv (8 : Int32), iv (1 : Int32), rv en1] [(.int (1 : Int32)), (.ref aA)])) rfl rfl (hb hby d1_16) _ ?_
      show own_S p e below T81 m 17 #[iv (8 : Int32), rv aA, iv (8 : Int32), iv (1 : Int32), rv en1] [(.ref en2)] _
      refine XS.astore X81.here hx rfl (hb hby d1_17) rfl rfl (l' := #[iv (8 : Int32), rv aA, iv (8 : Int32), iv (1 : Int32), rv en2]) rfl ?_
      show own_S p e below T81 m 19 #[iv (8 : Int32), rv aA, iv (8 : Int32), iv (1 : Int32), rv en2] [] _
      refine XS.aload X81.here hx rfl (hb hby d1_19) rfl rfl ?_
      show own_S p e below T81 m 21 #[iv (8 : Int32), rv aA, iv (8 : Int32), iv (1 : Int32), rv en2] [(.ref en2)] _
      refine st83 _ ?_
      show own_S p e below T83 m 24 #[iv (8 : Int32), rv aA, iv (8 : Int32), iv (1 : Int32), rv en2] [(.int (2 : Int32))] _
      refine XS.iloadN X83.here hx rfl (hb hby d1_24) rfl ?_
      show own_S p e below T83 m 25 #[iv (8 : Int32), rv aA, iv (8 : Int32), iv (1 : Int32), rv en2] [(.int (8 : Int32)), (.int (2 : Int32))] _
      refine XS.icmpYes X83.here hx rfl (pc0 := 25) (pc' := 31) rfl (hb hby d1_25) rfl (feq (by decide : ¬ ((2 : Int32) = (8 : Int32)))).2 (by decide) (by decide) ?_
      show own_S p e below T83 m 31 #[iv (8 : Int32), rv aA, iv (8 : Int32), iv (1 : Int32), rv en2] [] _
      refine XS.iinc X83.here hx rfl (hb hby d1_31) rfl (l' := #[iv (8 : Int32), rv aA, iv (8 : Int32), iv (2 : Int32), rv en2]) rfl ?_
      show own_S p e below T83 m 34 #[iv (8 : Int32), rv aA, iv (8 : Int32), iv (2 : Int32), rv en2] [] _
      refine XS.goto X83.here hx rfl (pc0 := 34) (pc' := 9) rfl (hb hby d1_34) (by decide) (by decide) ?_
      show own_S p e below T83 m 9 #[iv (8 : Int32), rv aA, iv (8 : Int32), iv (2 : Int32), rv en2] [] _
      refine XS.iloadN X83.here hx rfl (hb hby d1_9) rfl ?_
      show own_S p e below T83 m 10 #[iv (8 : Int32), rv aA, iv (8 : Int32), iv (2 : Int32), rv en2] [(.int (2 : Int32))] _
      refine XS.iloadN X83.here hx rfl (hb hby d1_10) rfl ?_
      show own_S p e below T83 m 11 #[iv (8 : Int32), rv aA, iv (8 : Int32), iv (2 : Int32), rv en2] [(.int (8 : Int32)), (.int (2 : Int32))] _
      refine XS.icmpNo X83.here hx rfl (hb hby d1_11) rfl (tlt (by decide : (2 : Int32) < (8 : Int32))).2.1 ?_
      show own_S p e below T83 m 14 #[iv (8 : Int32), rv aA, iv (8 : Int32), iv (2 : Int32), rv en2] [] _
      refine XS.aloadN X83.here hx rfl (hb hby d1_14) rfl rfl ?_
      show own_S p e below T83 m 15 #[iv (8 : Int32), rv aA, iv (8 : Int32), iv (2 : Int32), rv en2] [(.ref aA)] _
      refine XS.iloadN X83.here hx rfl (hb hby d1_15) rfl ?_
      show own_S p e below T83 m 16 #[iv (8 : Int32), rv aA, iv (8 : Int32), iv (2 : Int32), rv en2] [(.int (2 : Int32)), (.ref aA)] _
      refine X83.aaload hx (j := (2 : Int32)) (v := (.ref en3)) (by rw [e83]; exact Ar84.1) (State.isArrayOf_alike hZ.alike Ar84.2.1) rfl Ar84.2.2 hin84 hat84 (g := (mkF m 16 #[iv (8 : Int32), rv aA, iv (8 : Int32), iv (2 : Int32), rv en2] [(.int (2 : Int32)), (.ref aA)])) rfl rfl (hb hby d1_16) _ ?_
      show own_S p e below T83 m 17 #[iv (8 : Int32), rv aA, iv (8 : Int32), iv (2 : Int32), rv en2] [(.ref en3)] _
      refine XS.astore X83.here hx rfl (hb hby d1_17) rfl rfl (l' := #[iv (8 : Int32), rv aA, iv (8 : Int32), iv (2 : Int32), rv en3]) rfl ?_
      show own_S p e below T83 m 19 #[iv (8 : Int32), rv aA, iv (8 : Int32), iv (2 : Int32), rv en3] [] _
      refine XS.aload X83.here hx rfl (hb hby d1_19) rfl rfl ?_
      show own_S p e below T83 m 21 #[iv (8 : Int32), rv aA, iv (8 : Int32), iv (2 : Int32), rv en3] [(.ref en3)] _
      refine st85 _ ?_
      show own_S p e below T85 m 24 #[iv (8 : Int32), rv aA, iv (8 : Int32), iv (2 : Int32), rv en3] [(.int (3 : Int32))] _
      refine XS.iloadN X85.here hx rfl (hb hby d1_24) rfl ?_
      show own_S p e below T85 m 25 #[iv (8 : Int32), rv aA, iv (8 : Int32), iv (2 : Int32), rv en3] [(.int (8 : Int32)), (.int (3 : Int32))] _
      refine XS.icmpYes X85.here hx rfl (pc0 := 25) (pc' := 31) rfl (hb hby d1_25) rfl (feq (by decide : ¬ ((3 : Int32) = (8 : Int32)))).2 (by decide) (by decide) ?_
      show own_S p e below T85 m 31 #[iv (8 : Int32), rv aA, iv (8 : Int32), iv (2 : Int32), rv en3] [] _
      refine XS.iinc X85.here hx rfl (hb hby d1_31) rfl (l' := #[iv (8 : Int32), rv aA, iv (8 : Int32), iv (3 : Int32), rv en3]) rfl ?_
      show own_S p e below T85 m 34 #[iv (8 : Int32), rv aA, iv (8 : Int32), iv (3 : Int32), rv en3] [] _
      refine XS.goto X85.here hx rfl (pc0 := 34) (pc' := 9) rfl (hb hby d1_34) (by decide) (by decide) ?_
      show own_S p e below T85 m 9 #[iv (8 : Int32), rv aA, iv (8 : Int32), iv (3 : Int32), rv en3] [] _
      refine XS.iloadN X85.here hx rfl (hb hby d1_9) rfl ?_
      show own_S p e below T85 m 10 #[iv (8 : Int32), rv aA, iv (8 : Int32), iv (3 : Int32), rv en3] [(.int (3 : Int32))] _
      refine XS.iloadN X85.here hx rfl (hb hby d1_10) rfl ?_
      show own_S p e below T85 m 11 #[iv (8 : Int32), rv aA, iv (8 : Int32), iv (3 : Int32), rv en3] [(.int (8 : Int32)), (.int (3 : Int32))] _
      refine XS.icmpNo X85.here hx rfl (hb hby d1_11) rfl (tlt (by decide : (3 : Int32) < (8 : Int32))).2.1 ?_
      show own_S p e below T85 m 14 #[iv (8 : Int32), rv aA, iv (8 : Int32), iv (3 : Int32), rv en3] [] _
      refine XS.aloadN X85.here hx rfl (hb hby d1_14) rfl rfl ?_
      show own_S p e below T85 m 15 #[iv (8 : Int32), rv aA, iv (8 : Int32), iv (3 : Int32), rv en3] [(.ref aA)] _
      refine XS.iloadN X85.here hx rfl (hb hby d1_15) rfl ?_
      show own_S p e below T85 m 16 #[iv (8 : Int32), rv aA, iv (8 : Int32), iv (3 : Int32), rv en3] [(.int (3 : Int32)), (.ref aA)] _
      refine X85.aaload hx (j := (3 : Int32)) (v := (.ref en4)) (by rw [e85]; exact Ar86.1) (State.isArrayOf_alike hZ.alike Ar86.2.1) rfl Ar86.2.2 hin86 hat86 (g := (mkF m 16 #[iv (8 : Int32), rv aA, iv (8 : Int32), iv (3 : Int32), rv en3] [(.int (3 : Int32)), (.ref aA)])) rfl rfl (hb hby d1_16) _ ?_
      show own_S p e below T85 m 17 #[iv (8 : Int32), rv aA, iv (8 : Int32), iv (3 : Int32), rv en3] [(.ref en4)] _
      refine XS.astore X85.here hx rfl (hb hby d1_17) rfl rfl (l' := #[iv (8 : Int32), rv aA, iv (8 : Int32), iv (3 : Int32), rv en4]) rfl ?_
      show own_S p e below T85 m 19 #[iv (8 : Int32), rv aA, iv (8 : Int32), iv (3 : Int32), rv en4] [] _
      refine XS.aload X85.here hx rfl (hb hby d1_19) rfl rfl ?_
      show own_S p e below T85 m 21 #[iv (8 : Int32), rv aA, iv (8 : Int32), iv (3 : Int32), rv en4] [(.ref en4)] _
      refine st87 _ ?_
      show own_S p e below T87 m 24 #[iv (8 : Int32), rv aA, iv (8 : Int32), iv (3 : Int32), rv en4] [(.int (4 : Int32))] _
      refine XS.iloadN X87.here hx rfl (hb hby d1_24) rfl ?_
      show own_S p e below T87 m 25 #[iv (8 : Int32), rv aA, iv (8 : Int32), iv (3 : Int32), rv en4] [(.int (8 : Int32)), (.int (4 : Int32))] _
      refine XS.icmpYes X87.here hx rfl (pc0 := 25) (pc' := 31) rfl (hb hby d1_25) rfl (feq (by decide : ¬ ((4 : Int32) = (8 : Int32)))).2 (by decide) (by decide) ?_
      show own_S p e below T87 m 31 #[iv (8 : Int32), rv aA, iv (8 : Int32), iv (3 : Int32), rv en4] [] _
      refine XS.iinc X87.here hx rfl (hb hby d1_31) rfl (l' := #[iv (8 : Int32), rv aA, iv (8 : Int32), iv (4 : Int32), rv en4]) rfl ?_
      show own_S p e below T87 m 34 #[iv (8 : Int32), rv aA, iv (8 : Int32), iv (4 : Int32), rv en4] [] _
      refine XS.goto X87.here hx rfl (pc0 := 34) (pc' := 9) rfl (hb hby d1_34) (by decide) (by decide) ?_
      show own_S p e below T87 m 9 #[iv (8 : Int32), rv aA, iv (8 : Int32), iv (4 : Int32), rv en4] [] _
      refine XS.iloadN X87.here hx rfl (hb hby d1_9) rfl ?_
      show own_S p e below T87 m 10 #[iv (8 : Int32), rv aA, iv (8 : Int32), iv (4 : Int32), rv en4] [(.int (4 : Int32))] _
      refine XS.iloadN X87.here hx rfl (hb hby d1_10) rfl ?_
      show own_S p e below T87 m 11 #[iv (8 : Int32), rv aA, iv (8 : Int32), iv (4 : Int32), rv en4] [(.int (8 : Int32)), (.int (4 : Int32))] _
      refine XS.icmpNo X87.here hx rfl (hb hby d1_11) rfl (tlt (by decide : (4 : Int32) < (8 : Int32))).2.1 ?_
      show own_S p e below T87 m 14 #[iv (8 : Int32), rv aA, iv (8 : Int32), iv (4 : Int32), rv en4] [] _
      refine XS.aloadN X87.here hx rfl (hb hby d1_14) rfl rfl ?_
      show own_S p e below T87 m 15 #[iv (8 : Int32), rv aA, iv (8 : Int32), iv (4 : Int32), rv en4] [(.ref aA)] _
      refine XS.iloadN X87.here hx rfl (hb hby d1_15) rfl ?_
      show own_S p e below T87 m 16 #[iv (8 : Int32), rv aA, iv (8 : Int32), iv (4 : Int32), rv en4] [(.int (4 : Int32)), (.ref aA)] _
      refine X87.aaload hx (j := (4 : Int32)) (v := (.ref en5)) (by rw [e87]; exact Ar88.1) (State.isArrayOf_alike hZ.alike Ar88.2.1) rfl Ar88.2.2 hin88 hat88 (g := (mkF m 16 #[iv (8 : Int32), rv aA, iv (8 : Int32), iv (4 : Int32), rv en4] [(.int (4 : Int32)), (.ref aA)])) rfl rfl (hb hby d1_16) _ ?_
      show own_S p e below T87 m 17 #[iv (8 : Int32), rv aA, iv (8 : Int32), iv (4 : Int32), rv en4] [(.ref en5)] _
      refine XS.astore X87.here hx rfl (hb hby d1_17) rfl rfl (l' := #[iv (8 : Int32), rv aA, iv (8 : Int32), iv (4 : Int32), rv en5]) rfl ?_
      show own_S p e below T87 m 19 #[iv (8 : Int32), rv aA, iv (8 : Int32), iv (4 : Int32), rv en5] [] _
      refine XS.aload X87.here hx rfl (hb hby d1_19) rfl rfl ?_
      show own_S p e below T87 m 21 #[iv (8 : Int32), rv aA, iv (8 : Int32), iv (4 : Int32), rv en5] [(.ref en5)] _
      refine st89 _ ?_
      show own_S p e below T89 m 24 #[iv (8 : Int32), rv aA, iv (8 : Int32), iv (4 : Int32), rv en5] [(.int (5 : Int32))] _
      refine XS.iloadN X89.here hx rfl (hb hby d1_24) rfl ?_
      show own_S p e below T89 m 25 #[iv (8 : Int32), rv aA, iv (8 : Int32), iv (4 : Int32), rv en5] [(.int (8 : Int32)), (.int (5 : Int32))] _
      refine XS.icmpYes X89.here hx rfl (pc0 := 25) (pc' := 31) rfl (hb hby d1_25) rfl (feq (by decide : ¬ ((5 : Int32) = (8 : Int32)))).2 (by decide) (by decide) ?_
      show own_S p e below T89 m 31 #[iv (8 : Int32), rv aA, iv (8 : Int32), iv (4 : Int32), rv en5] [] _
      refine XS.iinc X89.here hx rfl (hb hby d1_31) rfl (l' := #[iv (8 : Int32), rv aA, iv (8 : Int32), iv (5 : Int32), rv en5]) rfl ?_
      show own_S p e below T89 m 34 #[iv (8 : Int32), rv aA, iv (8 : Int32), iv (5 : Int32), rv en5] [] _
      refine XS.goto X89.here hx rfl (pc0 := 34) (pc' := 9) rfl (hb hby d1_34) (by decide) (by decide) ?_
      show own_S p e below T89 m 9 #[iv (8 : Int32), rv aA, iv (8 : Int32), iv (5 : Int32), rv en5] [] _
      refine XS.iloadN X89.here hx rfl (hb hby d1_9) rfl ?_
      show own_S p e below T89 m 10 #[iv (8 : Int32), rv aA, iv (8 : Int32), iv (5 : Int32), rv en5] [(.int (5 : Int32))] _
      refine XS.iloadN X89.here hx rfl (hb hby d1_10) rfl ?_
      show own_S p e below T89 m 11 #[iv (8 : Int32), rv aA, iv (8 : Int32), iv (5 : Int32), rv en5] [(.int (8 : Int32)), (.int (5 : Int32))] _
      refine XS.icmpNo X89.here hx rfl (hb hby d1_11) rfl (tlt (by decide : (5 : Int32) < (8 : Int32))).2.1 ?_
      show own_S p e below T89 m 14 #[iv (8 : Int32), rv aA, iv (8 : Int32), iv (5 : Int32), rv en5] [] _
      refine XS.aloadN X89.here hx rfl (hb hby d1_14) rfl rfl ?_
      show own_S p e below T89 m 15 #[iv (8 : Int32), rv aA, iv (8 : Int32), iv (5 : Int32), rv en5] [(.ref aA)] _
      refine XS.iloadN X89.here hx rfl (hb hby d1_15) rfl ?_
      show own_S p e below T89 m 16 #[iv (8 : Int32), rv aA, iv (8 : Int32), iv (5 : Int32), rv en5] [(.int (5 : Int32)), (.ref aA)] _
      refine X89.aaload hx (j := (5 : Int32)) (v := (.ref en6)) (by rw [e89]; exact Ar90.1) (State.isArrayOf_alike hZ.alike Ar90.2.1) rfl Ar90.2.2 hin90 hat90 (g := (mkF m 16 #[iv (8 : Int32), rv aA, iv (8 : Int32), iv (5 : Int32), rv en5] [(.int (5 : Int32)), (.ref aA)])) rfl rfl (hb hby d1_16) _ ?_
      show own_S p e below T89 m 17 #[iv (8 : Int32), rv aA, iv (8 : Int32), iv (5 : Int32), rv en5] [(.ref en6)] _
      refine XS.astore X89.here hx rfl (hb hby d1_17) rfl rfl (l' := #[iv (8 : Int32), rv aA, iv (8 : Int32), iv (5 : Int32), rv en6]) rfl ?_
      show own_S p e below T89 m 19 #[iv (8 : Int32), rv aA, iv (8 : Int32), iv (5 : Int32), rv en6] [] _
      refine XS.aload X89.here hx rfl (hb hby d1_19) rfl rfl ?_
      show own_S p e below T89 m 21 #[iv (8 : Int32), rv aA, iv (8 : Int32), iv (5 : Int32), rv en6] [(.ref en6)] _
      refine st91 _ ?_
      show own_S p e below T91 m 24 #[iv (8 : Int32), rv aA, iv (8 : Int32), iv (5 : Int32), rv en6] [(.int (6 : Int32))] _
      refine XS.iloadN X91.here hx rfl (hb hby d1_24) rfl ?_
      show own_S p e below T91 m 25 #[iv (8 : Int32), rv aA, iv (8 : Int32), iv (5 : Int32), rv en6] [(.int (8 : Int32)), (.int (6 : Int32))] _
      refine XS.icmpYes X91.here hx rfl (pc0 := 25) (pc' := 31) rfl (hb hby d1_25) rfl (feq (by decide : ¬ ((6 : Int32) = (8 : Int32)))).2 (by decide) (by decide) ?_
      show own_S p e below T91 m 31 #[iv (8 : Int32), rv aA, iv (8 : Int32), iv (5 : Int32), rv en6] [] _
      refine XS.iinc X91.here hx rfl (hb hby d1_31) rfl (l' := #[iv (8 : Int32), rv aA, iv (8 : Int32), iv (6 : Int32), rv en6]) rfl ?_
      show own_S p e below T91 m 34 #[iv (8 : Int32), rv aA, iv (8 : Int32), iv (6 : Int32), rv en6] [] _
      refine XS.goto X91.here hx rfl (pc0 := 34) (pc' := 9) rfl (hb hby d1_34) (by decide) (by decide) ?_
      show own_S p e below T91 m 9 #[iv (8 : Int32), rv aA, iv (8 : Int32), iv (6 : Int32), rv en6] [] _
      refine XS.iloadN X91.here hx rfl (hb hby d1_9) rfl ?_
      show own_S p e below T91 m 10 #[iv (8 : Int32), rv aA, iv (8 : Int32), iv (6 : Int32), rv en6] [(.int (6 : Int32))] _
      refine XS.iloadN X91.here hx rfl (hb hby d1_10) rfl ?_
      show own_S p e below T91 m 11 #[iv (8 : Int32), rv aA, iv (8 : Int32), iv (6 : Int32), rv en6] [(.int (8 : Int32)), (.int (6 : Int32))] _
      refine XS.icmpNo X91.here hx rfl (hb hby d1_11) rfl (tlt (by decide : (6 : Int32) < (8 : Int32))).2.1 ?_
      show own_S p e below T91 m 14 #[iv (8 : Int32), rv aA, iv (8 : Int32), iv (6 : Int32), rv en6] [] _
      refine XS.aloadN X91.here hx rfl (hb hby d1_14) rfl rfl ?_
      show own_S p e below T91 m 15 #[iv (8 : Int32), rv aA, iv (8 : Int32), iv (6 : Int32), rv en6] [(.ref aA)] _
      refine XS.iloadN X91.here hx rfl (hb hby d1_15) rfl ?_
      show own_S p e below T91 m 16 #[iv (8 : Int32), rv aA, iv (8 : Int32), iv (6 : Int32), rv en6] [(.int (6 : Int32)), (.ref aA)] _
      refine X91.aaload hx (j := (6 : Int32)) (v := (.ref en7)) (by rw [e91]; exact Ar92.1) (State.isArrayOf_alike hZ.alike Ar92.2.1) rfl Ar92.2.2 hin92 hat92 (g := (mkF m 16 #[iv (8 : Int32), rv aA, iv (8 : Int32), iv (6 : Int32), rv en6] [(.int (6 : Int32)), (.ref aA)])) rfl rfl (hb hby d1_16) _ ?_
      show own_S p e below T91 m 17 #[iv (8 : Int32), rv aA, iv (8 : Int32), iv (6 : Int32), rv en6] [(.ref en7)] _
      refine XS.astore X91.here hx rfl (hb hby d1_17) rfl rfl (l' := #[iv (8 : Int32), rv aA, iv (8 : Int32), iv (6 : Int32), rv en7]) rfl ?_
      show own_S p e below T91 m 19 #[iv (8 : Int32), rv aA, iv (8 : Int32), iv (6 : Int32), rv en7] [] _
      refine XS.aload X91.here hx rfl (hb hby d1_19) rfl rfl ?_
      show own_S p e below T91 m 21 #[iv (8 : Int32), rv aA, iv (8 : Int32), iv (6 : Int32), rv en7] [(.ref en7)] _
      refine st93 _ ?_
      show own_S p e below T93 m 24 #[iv (8 : Int32), rv aA, iv (8 : Int32), iv (6 : Int32), rv en7] [(.int (7 : Int32))] _
      refine XS.iloadN X93.here hx rfl (hb hby d1_24) rfl ?_
      show own_S p e below T93 m 25 #[iv (8 : Int32), rv aA, iv (8 : Int32), iv (6 : Int32), rv en7] [(.int (8 : Int32)), (.int (7 : Int32))] _
      refine XS.icmpYes X93.here hx rfl (pc0 := 25) (pc' := 31) rfl (hb hby d1_25) rfl (feq (by decide : ¬ ((7 : Int32) = (8 : Int32)))).2 (by decide) (by decide) ?_
      show own_S p e below T93 m 31 #[iv (8 : Int32), rv aA, iv (8 : Int32), iv (6 : Int32), rv en7] [] _
      refine XS.iinc X93.here hx rfl (hb hby d1_31) rfl (l' := #[iv (8 : Int32), rv aA, iv (8 : Int32), iv (7 : Int32), rv en7]) rfl ?_
      show own_S p e below T93 m 34 #[iv (8 : Int32), rv aA, iv (8 : Int32), iv (7 : Int32), rv en7] [] _
      refine XS.goto X93.here hx rfl (pc0 := 34) (pc' := 9) rfl (hb hby d1_34) (by decide) (by decide) ?_
      show own_S p e below T93 m 9 #[iv (8 : Int32), rv aA, iv (8 : Int32), iv (7 : Int32), rv en7] [] _
      refine XS.iloadN X93.here hx rfl (hb hby d1_9) rfl ?_
      show own_S p e below T93 m 10 #[iv (8 : Int32), rv aA, iv (8 : Int32), iv (7 : Int32), rv en7] [(.int (7 : Int32))] _
      refine XS.iloadN X93.here hx rfl (hb hby d1_10) rfl ?_
      show own_S p e below T93 m 11 #[iv (8 : Int32), rv aA, iv (8 : Int32), iv (7 : Int32), rv en7] [(.int (8 : Int32)), (.int (7 : Int32))] _
      refine XS.icmpNo X93.here hx rfl (hb hby d1_11) rfl (tlt (by decide : (7 : Int32) < (8 : Int32))).2.1 ?_
      show own_S p e below T93 m 14 #[iv (8 : Int32), rv aA, iv (8 : Int32), iv (7 : Int32), rv en7] [] _
      refine XS.aloadN X93.here hx rfl (hb hby d1_14) rfl rfl ?_
      show own_S p e below T93 m 15 #[iv (8 : Int32), rv aA, iv (8 : Int32), iv (7 : Int32), rv en7] [(.ref aA)] _
      refine XS.iloadN X93.here hx rfl (hb hby d1_15) rfl ?_
      show own_S p e below T93 m 16 #[iv (8 : Int32), rv aA, iv (8 : Int32), iv (7 : Int32), rv en7] [(.int (7 : Int32)), (.ref aA)] _
      refine X93.aaload hx (j := (7 : Int32)) (v := (.ref en8)) (by rw [e93]; exact Ar94.1) (State.isArrayOf_alike hZ.alike Ar94.2.1) rfl Ar94.2.2 hin94 hat94 (g := (mkF m 16 #[iv (8 : Int32), rv aA, iv (8 : Int32), iv (7 : Int32), rv en7] [(.int (7 : Int32)), (.ref aA)])) rfl rfl (hb hby d1_16) _ ?_
      show own_S p e below T93 m 17 #[iv (8 : Int32), rv aA, iv (8 : Int32), iv (7 : Int32), rv en7] [(.ref en8)] _
      refine XS.astore X93.here hx rfl (hb hby d1_17) rfl rfl (l' := #[iv (8 : Int32), rv aA, iv (8 : Int32), iv (7 : Int32), rv en8]) rfl ?_
      show own_S p e below T93 m 19 #[iv (8 : Int32), rv aA, iv (8 : Int32), iv (7 : Int32), rv en8] [] _
      refine XS.aload X93.here hx rfl (hb hby d1_19) rfl rfl ?_
      show own_S p e below T93 m 21 #[iv (8 : Int32), rv aA, iv (8 : Int32), iv (7 : Int32), rv en8] [(.ref en8)] _
      refine st95 _ ?_
      show own_S p e below T95 m 24 #[iv (8 : Int32), rv aA, iv (8 : Int32), iv (7 : Int32), rv en8] [(.int (8 : Int32))] _
      refine XS.iloadN X95.here hx rfl (hb hby d1_24) rfl ?_
      show own_S p e below T95 m 25 #[iv (8 : Int32), rv aA, iv (8 : Int32), iv (7 : Int32), rv en8] [(.int (8 : Int32)), (.int (8 : Int32))] _
      refine XS.icmpNo X95.here hx rfl (hb hby d1_25) rfl (teq (by decide : (8 : Int32) = (8 : Int32))).2 ?_
      show own_S p e below T95 m 28 #[iv (8 : Int32), rv aA, iv (8 : Int32), iv (7 : Int32), rv en8] [] _
      refine XS.aload X95.here hx rfl (hb hby d1_28) rfl rfl ?_
      exact k)
    obtain ⟨fs, hr, hrun, hended, hW, hsame⟩ := X95.leave (v := some (.ref en8)) (fun h => by rw [Bd.returns] at h; cases h)
    refine ⟨_, _, pre96 _ ?_, hrun, hended, _, _, rfl, ?_, ⟨_, rfl⟩, hW, hsame.mono (by decide) (by decide)⟩
    · show own_S p e below T95 m 30 #[iv (8 : Int32), rv aA, iv (8 : Int32), iv (7 : Int32), rv en8] [(.ref en8)] _
      exact retOut X95 hx (t := (.object "com/example/broker/broker/wire/Command")) Bd.returns rfl (Or.inr (Or.inr (Or.inr (Or.inr ⟨rfl, rfl, rfl⟩)))) (hb hby d1_30) hr
    · show Q1 Z (8 : Int32) en1 en2 en3 en4 en5 en6 en7 en8 aA kA h0 n0 _ T95.heap _
      rw [e95]
      exact ⟨rfl, N0, rfl⟩
  ·  -- case
    obtain ⟨q1, q2, q3, q4, q5, q6, q7, q8⟩ := own_outs hout
    obtain ⟨T97, X97, e97, st97⟩ := getS2 X0 hx hZ hown (host := "") (Or.inl (hw _ (List.mem_of_getElem? (i := 5) rfl))) Via.refl e0 S_A (g := (mkF m 0 #[iv p1, .unset, .unset, .unset, .unset] [])) rfl (hb hby d1_0)
    obtain ⟨cl98, Ar98, q98, S98, M98, -, -⟩ := id V_A
    obtain ⟨cl99, Ar99, q99, S99, M99, H99, G99⟩ := id V_A
    have hin99 : ¬ ((0 : Int32) < 0 ∨ cl99.slots.size ≤ ((0 : Int32)).toNatClampNeg) := inb_of S99 ⟨by decide, by decide⟩
    have hat99 : cl99.slots[((0 : Int32)).toNatClampNeg]? = some (.ref en1) := H99.at hin99 rfl
    obtain ⟨T100, X100, e100, st100⟩ := getF X97 hx hZ hown (host := "") (Or.inl (hw _ (List.mem_of_getElem? (i := 8) rfl))) Via.refl e97 F_en1 (g := (mkF m 21 #[iv p1, rv aA, iv (8 : Int32), iv (0 : Int32), rv en1] [(.ref en1)])) rfl rfl (hb hby d1_21)
    obtain ⟨cl101, Ar101, q101, S101, M101, H101, G101⟩ := id V_A
    have hin101 : ¬ ((1 : Int32) < 0 ∨ cl101.slots.size ≤ ((1 : Int32)).toNatClampNeg) := inb_of S101 ⟨by decide, by decide⟩
    have hat101 : cl101.slots[((1 : Int32)).toNatClampNeg]? = some (.ref en2) := H101.at hin101 rfl
    obtain ⟨T102, X102, e102, st102⟩ := getF X100 hx hZ hown (host := "") (Or.inl (hw _ (List.mem_of_getElem? (i := 8) rfl))) Via.refl e100 F_en2 (g := (mkF m 21 #[iv p1, rv aA, iv (8 : Int32), iv (1 : Int32), rv en2] [(.ref en2)])) rfl rfl (hb hby d1_21)
    obtain ⟨cl103, Ar103, q103, S103, M103, H103, G103⟩ := id V_A
    have hin103 : ¬ ((2 : Int32) < 0 ∨ cl103.slots.size ≤ ((2 : Int32)).toNatClampNeg) := inb_of S103 ⟨by decide, by decide⟩
    have hat103 : cl103.slots[((2 : Int32)).toNatClampNeg]? = some (.ref en3) := H103.at hin103 rfl
    obtain ⟨T104, X104, e104, st104⟩ := getF X102 hx hZ hown (host := "") (Or.inl (hw _ (List.mem_of_getElem? (i := 8) rfl))) Via.refl e102 F_en3 (g := (mkF m 21 #[iv p1, rv aA, iv (8 : Int32), iv (2 : Int32), rv en3] [(.ref en3)])) rfl rfl (hb hby d1_21)
    obtain ⟨cl105, Ar105, q105, S105, M105, H105, G105⟩ := id V_A
    have hin105 : ¬ ((3 : Int32) < 0 ∨ cl105.slots.size ≤ ((3 : Int32)).toNatClampNeg) := inb_of S105 ⟨by decide, by decide⟩
    have hat105 : cl105.slots[((3 : Int32)).toNatClampNeg]? = some (.ref en4) := H105.at hin105 rfl
    obtain ⟨T106, X106, e106, st106⟩ := getF X104 hx hZ hown (host := "") (Or.inl (hw _ (List.mem_of_getElem? (i := 8) rfl))) Via.refl e104 F_en4 (g := (mkF m 21 #[iv p1, rv aA, iv (8 : Int32), iv (3 : Int32), rv en4] [(.ref en4)])) rfl rfl (hb hby d1_21)
    obtain ⟨cl107, Ar107, q107, S107, M107, H107, G107⟩ := id V_A
    have hin107 : ¬ ((4 : Int32) < 0 ∨ cl107.slots.size ≤ ((4 : Int32)).toNatClampNeg) := inb_of S107 ⟨by decide, by decide⟩
    have hat107 : cl107.slots[((4 : Int32)).toNatClampNeg]? = some (.ref en5) := H107.at hin107 rfl
    obtain ⟨T108, X108, e108, st108⟩ := getF X106 hx hZ hown (host := "") (Or.inl (hw _ (List.mem_of_getElem? (i := 8) rfl))) Via.refl e106 F_en5 (g := (mkF m 21 #[iv p1, rv aA, iv (8 : Int32), iv (4 : Int32), rv en5] [(.ref en5)])) rfl rfl (hb hby d1_21)
    obtain ⟨cl109, Ar109, q109, S109, M109, H109, G109⟩ := id V_A
    have hin109 : ¬ ((5 : Int32) < 0 ∨ cl109.slots.size ≤ ((5 : Int32)).toNatClampNeg) := inb_of S109 ⟨by decide, by decide⟩
    have hat109 : cl109.slots[((5 : Int32)).toNatClampNeg]? = some (.ref en6) := H109.at hin109 rfl
    obtain ⟨T110, X110, e110, st110⟩ := getF X108 hx hZ hown (host := "") (Or.inl (hw _ (List.mem_of_getElem? (i := 8) rfl))) Via.refl e108 F_en6 (g := (mkF m 21 #[iv p1, rv aA, iv (8 : Int32), iv (5 : Int32), rv en6] [(.ref en6)])) rfl rfl (hb hby d1_21)
    obtain ⟨cl111, Ar111, q111, S111, M111, H111, G111⟩ := id V_A
    have hin111 : ¬ ((6 : Int32) < 0 ∨ cl111.slots.size ≤ ((6 : Int32)).toNatClampNeg) := inb_of S111 ⟨by decide, by decide⟩
    have hat111 : cl111.slots[((6 : Int32)).toNatClampNeg]? = some (.ref en7) := H111.at hin111 rfl
    obtain ⟨T112, X112, e112, st112⟩ := getF X110 hx hZ hown (host := "") (Or.inl (hw _ (List.mem_of_getElem? (i := 8) rfl))) Via.refl e110 F_en7 (g := (mkF m 21 #[iv p1, rv aA, iv (8 : Int32), iv (6 : Int32), rv en7] [(.ref en7)])) rfl rfl (hb hby d1_21)
    obtain ⟨cl113, Ar113, q113, S113, M113, H113, G113⟩ := id V_A
    have hin113 : ¬ ((7 : Int32) < 0 ∨ cl113.slots.size ≤ ((7 : Int32)).toNatClampNeg) := inb_of S113 ⟨by decide, by decide⟩
    have hat113 : cl113.slots[((7 : Int32)).toNatClampNeg]? = some (.ref en8) := H113.at hin113 rfl
    obtain ⟨T114, X114, e114, st114⟩ := getF X112 hx hZ hown (host := "") (Or.inl (hw _ (List.mem_of_getElem? (i := 8) rfl))) Via.refl e112 F_en8 (g := (mkF m 21 #[iv p1, rv aA, iv (8 : Int32), iv (7 : Int32), rv en8] [(.ref en8)])) rfl rfl (hb hby d1_21)
    have pre115 : ∀ t, own_S p e below T114 m 38 #[iv p1, rv aA, iv (8 : Int32), iv (8 : Int32), rv en8] [.null] t → Steps p.tables e below (s₁.setTop (entryFrame m #[(.int p1)] 5)) t := fun t k => pre0 t (by
      show own_S p e below s₁ m 0 #[iv p1, .unset, .unset, .unset, .unset] [] _
      refine st97 _ ?_
      show own_S p e below T97 m 3 #[iv p1, .unset, .unset, .unset, .unset] [(.ref aA)] _
      refine XS.astoreN X97.here hx rfl (hb hby d1_3) rfl rfl (l' := #[iv p1, rv aA, .unset, .unset, .unset]) rfl ?_
      show own_S p e below T97 m 4 #[iv p1, rv aA, .unset, .unset, .unset] [] _
      refine XS.aloadN X97.here hx rfl (hb hby d1_4) rfl rfl ?_
      show own_S p e below T97 m 5 #[iv p1, rv aA, .unset, .unset, .unset] [(.ref aA)] _
      refine X97.arraylength hx (by rw [e97]; exact Ar98.1) (State.isArrayOf_alike hZ.alike Ar98.2.1) (g := (mkF m 5 #[iv p1, rv aA, .unset, .unset, .unset] [(.ref aA)])) rfl rfl (hb hby d1_5) _ ?_
      rw [len_of S98 M98]
      show own_S p e below T97 m 6 #[iv p1, rv aA, .unset, .unset, .unset] [(.int (8 : Int32))] _
      refine XS.istoreN X97.here hx rfl (hb hby d1_6) rfl (l' := #[iv p1, rv aA, iv (8 : Int32), .unset, .unset]) rfl ?_
      show own_S p e below T97 m 7 #[iv p1, rv aA, iv (8 : Int32), .unset, .unset] [] _
      refine XS.iconst X97.here hx rfl (hb hby d1_7) ?_
      show own_S p e below T97 m 8 #[iv p1, rv aA, iv (8 : Int32), .unset, .unset] [(.int (0 : Int32))] _
      refine XS.istoreN X97.here hx rfl (hb hby d1_8) rfl (l' := #[iv p1, rv aA, iv (8 : Int32), iv (0 : Int32), .unset]) rfl ?_
      show own_S p e below T97 m 9 #[iv p1, rv aA, iv (8 : Int32), iv (0 : Int32), .unset] [] _
      refine XS.iloadN X97.here hx rfl (hb hby d1_9) rfl ?_
      show own_S p e below T97 m 10 #[iv p1, rv aA, iv (8 : Int32), iv (0 : Int32), .unset] [(.int (0 : Int32))] _
      refine XS.iloadN X97.here hx rfl (hb hby d1_10) rfl ?_
      show own_S p e below T97 m 11 #[iv p1, rv aA, iv (8 : Int32), iv (0 : Int32), .unset] [(.int (8 : Int32)), (.int (0 : Int32))] _
      refine XS.icmpNo X97.here hx rfl (hb hby d1_11) rfl (tlt (by decide : (0 : Int32) < (8 : Int32))).2.1 ?_
      show own_S p e below T97 m 14 #[iv p1, rv aA, iv (8 : Int32), iv (0 : Int32), .unset] [] _
      refine XS.aloadN X97.here hx rfl (hb hby d1_14) rfl rfl ?_
      show own_S p e below T97 m 15 #[iv p1, rv aA, iv (8 : Int32), iv (0 : Int32), .unset] [(.ref aA)] _
      refine XS.iloadN X97.here hx rfl (hb hby d1_15) rfl ?_
      show own_S p e below T97 m 16 #[iv p1, rv aA, iv (8 : Int32), iv (0 : Int32), .unset] [(.int (0 : Int32)), (.ref aA)] _
      refine X97.aaload hx (j := (0 : Int32)) (v := (.ref en1)) (by rw [e97]; exact Ar99.1) (State.isArrayOf_alike hZ.alike Ar99.2.1) rfl Ar99.2.2 hin99 hat99 (g := (mkF m 16 #[iv p1, rv aA, iv (8 : Int32), iv (0 : Int32), .unset] [(.int (0 : Int32)), (.ref aA)])) rfl rfl (hb hby d1_16) _ ?_
      show own_S p e below T97 m 17 #[iv p1, rv aA, iv (8 : Int32), iv (0 : Int32), .unset] [(.ref en1)] _
      refine XS.astore X97.here hx rfl (hb hby d1_17) rfl rfl (l' := #[iv p1, rv aA, iv (8 : Int32), iv (0 : Int32), rv en1]) rfl ?_
      show own_S p e below T97 m 19 #[iv p1, rv aA, iv (8 : Int32), iv (0 : Int32), rv en1] [] _
      refine XS.aload X97.here hx rfl (hb hby d1_19) rfl rfl ?_
      show own_S p e below T97 m 21 #[iv p1, rv aA, iv (8 : Int32), iv (0 : Int32), rv en1] [(.ref en1)] _
      refine st100 _ ?_
      show own_S p e below T100 m 24 #[iv p1, rv aA, iv (8 : Int32), iv (0 : Int32), rv en1] [(.int (1 : Int32))] _
      refine XS.iloadN X100.here hx rfl (hb hby d1_24) rfl ?_
      show own_S p e below T100 m 25 #[iv p1, rv aA, iv (8 : Int32), iv (0 : Int32), rv en1] [(.int p1), (.int (1 : Int32))] _
      refine XS.icmpYes X100.here hx rfl (pc0 := 25) (pc' := 31) rfl (hb hby d1_25) rfl (feq (Ne.symm q1)).2 (by decide) (by decide) ?_
      show own_S p e below T100 m 31 #[iv p1, rv aA, iv (8 : Int32), iv (0 : Int32), rv en1] [] _
      refine XS.iinc X100.here hx rfl (hb hby d1_31) rfl (l' := #[iv p1, rv aA, iv (8 : Int32), iv (1 : Int32), rv en1]) rfl ?_
      show own_S p e below T100 m 34 #[iv p1, rv aA, iv (8 : Int32), iv (1 : Int32), rv en1] [] _
      refine XS.goto X100.here hx rfl (pc0 := 34) (pc' := 9) rfl (hb hby d1_34) (by decide) (by decide) ?_
      show own_S p e below T100 m 9 #[iv p1, rv aA, iv (8 : Int32), iv (1 : Int32), rv en1] [] _
      refine XS.iloadN X100.here hx rfl (hb hby d1_9) rfl ?_
      show own_S p e below T100 m 10 #[iv p1, rv aA, iv (8 : Int32), iv (1 : Int32), rv en1] [(.int (1 : Int32))] _
      refine XS.iloadN X100.here hx rfl (hb hby d1_10) rfl ?_
      show own_S p e below T100 m 11 #[iv p1, rv aA, iv (8 : Int32), iv (1 : Int32), rv en1] [(.int (8 : Int32)), (.int (1 : Int32))] _
      refine XS.icmpNo X100.here hx rfl (hb hby d1_11) rfl (tlt (by decide : (1 : Int32) < (8 : Int32))).2.1 ?_
      show own_S p e below T100 m 14 #[iv p1, rv aA, iv (8 : Int32), iv (1 : Int32), rv en1] [] _
      refine XS.aloadN X100.here hx rfl (hb hby d1_14) rfl rfl ?_
      show own_S p e below T100 m 15 #[iv p1, rv aA, iv (8 : Int32), iv (1 : Int32), rv en1] [(.ref aA)] _
      refine XS.iloadN X100.here hx rfl (hb hby d1_15) rfl ?_
      show own_S p e below T100 m 16 #[iv p1, rv aA, iv (8 : Int32), iv (1 : Int32), rv en1] [(.int (1 : Int32)), (.ref aA)] _
      refine X100.aaload hx (j := (1 : Int32)) (v := (.ref en2)) (by rw [e100]; exact Ar101.1) (State.isArrayOf_alike hZ.alike Ar101.2.1) rfl Ar101.2.2 hin101 hat101 (g := (mkF m 16 #[iv p1, rv aA, iv (8 : Int32), iv (1 : Int32), rv en1] [(.int (1 : Int32)), (.ref aA)])) rfl rfl (hb hby d1_16) _ ?_
      show own_S p e below T100 m 17 #[iv p1, rv aA, iv (8 : Int32), iv (1 : Int32), rv en1] [(.ref en2)] _
      refine XS.astore X100.here hx rfl (hb hby d1_17) rfl rfl (l' := #[iv p1, rv aA, iv (8 : Int32), iv (1 : Int32), rv en2]) rfl ?_
      show own_S p e below T100 m 19 #[iv p1, rv aA, iv (8 : Int32), iv (1 : Int32), rv en2] [] _
      refine XS.aload X100.here hx rfl (hb hby d1_19) rfl rfl ?_
      show own_S p e below T100 m 21 #[iv p1, rv aA, iv (8 : Int32), iv (1 : Int32), rv en2] [(.ref en2)] _
      refine st102 _ ?_
      show own_S p e below T102 m 24 #[iv p1, rv aA, iv (8 : Int32), iv (1 : Int32), rv en2] [(.int (2 : Int32))] _
      refine XS.iloadN X102.here hx rfl (hb hby d1_24) rfl ?_
      show own_S p e below T102 m 25 #[iv p1, rv aA, iv (8 : Int32), iv (1 : Int32), rv en2] [(.int p1), (.int (2 : Int32))] _
      refine XS.icmpYes X102.here hx rfl (pc0 := 25) (pc' := 31) rfl (hb hby d1_25) rfl (feq (Ne.symm q2)).2 (by decide) (by decide) ?_
      show own_S p e below T102 m 31 #[iv p1, rv aA, iv (8 : Int32), iv (1 : Int32), rv en2] [] _
      refine XS.iinc X102.here hx rfl (hb hby d1_31) rfl (l' := #[iv p1, rv aA, iv (8 : Int32), iv (2 : Int32), rv en2]) rfl ?_
      show own_S p e below T102 m 34 #[iv p1, rv aA, iv (8 : Int32), iv (2 : Int32), rv en2] [] _
      refine XS.goto X102.here hx rfl (pc0 := 34) (pc' := 9) rfl (hb hby d1_34) (by decide) (by decide) ?_
      show own_S p e below T102 m 9 #[iv p1, rv aA, iv (8 : Int32), iv (2 : Int32), rv en2] [] _
      refine XS.iloadN X102.here hx rfl (hb hby d1_9) rfl ?_
      show own_S p e below T102 m 10 #[iv p1, rv aA, iv (8 : Int32), iv (2 : Int32), rv en2] [(.int (2 : Int32))] _
      refine XS.iloadN X102.here hx rfl (hb hby d1_10) rfl ?_
      show own_S p e below T102 m 11 #[iv p1, rv aA, iv (8 : Int32), iv (2 : Int32), rv en2] [(.int (8 : Int32)), (.int (2 : Int32))] _
      refine XS.icmpNo X102.here hx rfl (hb hby d1_11) rfl (tlt (by decide : (2 : Int32) < (8 : Int32))).2.1 ?_
      show own_S p e below T102 m 14 #[iv p1, rv aA, iv (8 : Int32), iv (2 : Int32), rv en2] [] _
      refine XS.aloadN X102.here hx rfl (hb hby d1_14) rfl rfl ?_
      show own_S p e below T102 m 15 #[iv p1, rv aA, iv (8 : Int32), iv (2 : Int32), rv en2] [(.ref aA)] _
      refine XS.iloadN X102.here hx rfl (hb hby d1_15) rfl ?_
      show own_S p e below T102 m 16 #[iv p1, rv aA, iv (8 : Int32), iv (2 : Int32), rv en2] [(.int (2 : Int32)), (.ref aA)] _
      refine X102.aaload hx (j := (2 : Int32)) (v := (.ref en3)) (by rw [e102]; exact Ar103.1) (State.isArrayOf_alike hZ.alike Ar103.2.1) rfl Ar103.2.2 hin103 hat103 (g := (mkF m 16 #[iv p1, rv aA, iv (8 : Int32), iv (2 : Int32), rv en2] [(.int (2 : Int32)), (.ref aA)])) rfl rfl (hb hby d1_16) _ ?_
      show own_S p e below T102 m 17 #[iv p1, rv aA, iv (8 : Int32), iv (2 : Int32), rv en2] [(.ref en3)] _
      refine XS.astore X102.here hx rfl (hb hby d1_17) rfl rfl (l' := #[iv p1, rv aA, iv (8 : Int32), iv (2 : Int32), rv en3]) rfl ?_
      show own_S p e below T102 m 19 #[iv p1, rv aA, iv (8 : Int32), iv (2 : Int32), rv en3] [] _
      refine XS.aload X102.here hx rfl (hb hby d1_19) rfl rfl ?_
      show own_S p e below T102 m 21 #[iv p1, rv aA, iv (8 : Int32), iv (2 : Int32), rv en3] [(.ref en3)] _
      refine st104 _ ?_
      show own_S p e below T104 m 24 #[iv p1, rv aA, iv (8 : Int32), iv (2 : Int32), rv en3] [(.int (3 : Int32))] _
      refine XS.iloadN X104.here hx rfl (hb hby d1_24) rfl ?_
      show own_S p e below T104 m 25 #[iv p1, rv aA, iv (8 : Int32), iv (2 : Int32), rv en3] [(.int p1), (.int (3 : Int32))] _
      refine XS.icmpYes X104.here hx rfl (pc0 := 25) (pc' := 31) rfl (hb hby d1_25) rfl (feq (Ne.symm q3)).2 (by decide) (by decide) ?_
      show own_S p e below T104 m 31 #[iv p1, rv aA, iv (8 : Int32), iv (2 : Int32), rv en3] [] _
      refine XS.iinc X104.here hx rfl (hb hby d1_31) rfl (l' := #[iv p1, rv aA, iv (8 : Int32), iv (3 : Int32), rv en3]) rfl ?_
      show own_S p e below T104 m 34 #[iv p1, rv aA, iv (8 : Int32), iv (3 : Int32), rv en3] [] _
      refine XS.goto X104.here hx rfl (pc0 := 34) (pc' := 9) rfl (hb hby d1_34) (by decide) (by decide) ?_
      show own_S p e below T104 m 9 #[iv p1, rv aA, iv (8 : Int32), iv (3 : Int32), rv en3] [] _
      refine XS.iloadN X104.here hx rfl (hb hby d1_9) rfl ?_
      show own_S p e below T104 m 10 #[iv p1, rv aA, iv (8 : Int32), iv (3 : Int32), rv en3] [(.int (3 : Int32))] _
      refine XS.iloadN X104.here hx rfl (hb hby d1_10) rfl ?_
      show own_S p e below T104 m 11 #[iv p1, rv aA, iv (8 : Int32), iv (3 : Int32), rv en3] [(.int (8 : Int32)), (.int (3 : Int32))] _
      refine XS.icmpNo X104.here hx rfl (hb hby d1_11) rfl (tlt (by decide : (3 : Int32) < (8 : Int32))).2.1 ?_
      show own_S p e below T104 m 14 #[iv p1, rv aA, iv (8 : Int32), iv (3 : Int32), rv en3] [] _
      refine XS.aloadN X104.here hx rfl (hb hby d1_14) rfl rfl ?_
      show own_S p e below T104 m 15 #[iv p1, rv aA, iv (8 : Int32), iv (3 : Int32), rv en3] [(.ref aA)] _
      refine XS.iloadN X104.here hx rfl (hb hby d1_15) rfl ?_
      show own_S p e below T104 m 16 #[iv p1, rv aA, iv (8 : Int32), iv (3 : Int32), rv en3] [(.int (3 : Int32)), (.ref aA)] _
      refine X104.aaload hx (j := (3 : Int32)) (v := (.ref en4)) (by rw [e104]; exact Ar105.1) (State.isArrayOf_alike hZ.alike Ar105.2.1) rfl Ar105.2.2 hin105 hat105 (g := (mkF m 16 #[iv p1, rv aA, iv (8 : Int32), iv (3 : Int32), rv en3] [(.int (3 : Int32)), (.ref aA)])) rfl rfl (hb hby d1_16) _ ?_
      show own_S p e below T104 m 17 #[iv p1, rv aA, iv (8 : Int32), iv (3 : Int32), rv en3] [(.ref en4)] _
      refine XS.astore X104.here hx rfl (hb hby d1_17) rfl rfl (l' := #[iv p1, rv aA, iv (8 : Int32), iv (3 : Int32), rv en4]) rfl ?_
      show own_S p e below T104 m 19 #[iv p1, rv aA, iv (8 : Int32), iv (3 : Int32), rv en4] [] _
      refine XS.aload X104.here hx rfl (hb hby d1_19) rfl rfl ?_
      show own_S p e below T104 m 21 #[iv p1, rv aA, iv (8 : Int32), iv (3 : Int32), rv en4] [(.ref en4)] _
      refine st106 _ ?_
      show own_S p e below T106 m 24 #[iv p1, rv aA, iv (8 : Int32), iv (3 : Int32), rv en4] [(.int (4 : Int32))] _
      refine XS.iloadN X106.here hx rfl (hb hby d1_24) rfl ?_
      show own_S p e below T106 m 25 #[iv p1, rv aA, iv (8 : Int32), iv (3 : Int32), rv en4] [(.int p1), (.int (4 : Int32))] _
      refine XS.icmpYes X106.here hx rfl (pc0 := 25) (pc' := 31) rfl (hb hby d1_25) rfl (feq (Ne.symm q4)).2 (by decide) (by decide) ?_
      show own_S p e below T106 m 31 #[iv p1, rv aA, iv (8 : Int32), iv (3 : Int32), rv en4] [] _
      refine XS.iinc X106.here hx rfl (hb hby d1_31) rfl (l' := #[iv p1, rv aA, iv (8 : Int32), iv (4 : Int32), rv en4]) rfl ?_
      show own_S p e below T106 m 34 #[iv p1, rv aA, iv (8 : Int32), iv (4 : Int32), rv en4] [] _
      refine XS.goto X106.here hx rfl (pc0 := 34) (pc' := 9) rfl (hb hby d1_34) (by decide) (by decide) ?_
      show own_S p e below T106 m 9 #[iv p1, rv aA, iv (8 : Int32), iv (4 : Int32), rv en4] [] _
      refine XS.iloadN X106.here hx rfl (hb hby d1_9) rfl ?_
      show own_S p e below T106 m 10 #[iv p1, rv aA, iv (8 : Int32), iv (4 : Int32), rv en4] [(.int (4 : Int32))] _
      refine XS.iloadN X106.here hx rfl (hb hby d1_10) rfl ?_
      show own_S p e below T106 m 11 #[iv p1, rv aA, iv (8 : Int32), iv (4 : Int32), rv en4] [(.int (8 : Int32)), (.int (4 : Int32))] _
      refine XS.icmpNo X106.here hx rfl (hb hby d1_11) rfl (tlt (by decide : (4 : Int32) < (8 : Int32))).2.1 ?_
      show own_S p e below T106 m 14 #[iv p1, rv aA, iv (8 : Int32), iv (4 : Int32), rv en4] [] _
      refine XS.aloadN X106.here hx rfl (hb hby d1_14) rfl rfl ?_
      show own_S p e below T106 m 15 #[iv p1, rv aA, iv (8 : Int32), iv (4 : Int32), rv en4] [(.ref aA)] _
      refine XS.iloadN X106.here hx rfl (hb hby d1_15) rfl ?_
      show own_S p e below T106 m 16 #[iv p1, rv aA, iv (8 : Int32), iv (4 : Int32), rv en4] [(.int (4 : Int32)), (.ref aA)] _
      refine X106.aaload hx (j := (4 : Int32)) (v := (.ref en5)) (by rw [e106]; exact Ar107.1) (State.isArrayOf_alike hZ.alike Ar107.2.1) rfl Ar107.2.2 hin107 hat107 (g := (mkF m 16 #[iv p1, rv aA, iv (8 : Int32), iv (4 : Int32), rv en4] [(.int (4 : Int32)), (.ref aA)])) rfl rfl (hb hby d1_16) _ ?_
      show own_S p e below T106 m 17 #[iv p1, rv aA, iv (8 : Int32), iv (4 : Int32), rv en4] [(.ref en5)] _
      refine XS.astore X106.here hx rfl (hb hby d1_17) rfl rfl (l' := #[iv p1, rv aA, iv (8 : Int32), iv (4 : Int32), rv en5]) rfl ?_
      show own_S p e below T106 m 19 #[iv p1, rv aA, iv (8 : Int32), iv (4 : Int32), rv en5] [] _
      refine XS.aload X106.here hx rfl (hb hby d1_19) rfl rfl ?_
      show own_S p e below T106 m 21 #[iv p1, rv aA, iv (8 : Int32), iv (4 : Int32), rv en5] [(.ref en5)] _
      refine st108 _ ?_
      show own_S p e below T108 m 24 #[iv p1, rv aA, iv (8 : Int32), iv (4 : Int32), rv en5] [(.int (5 : Int32))] _
      refine XS.iloadN X108.here hx rfl (hb hby d1_24) rfl ?_
      show own_S p e below T108 m 25 #[iv p1, rv aA, iv (8 : Int32), iv (4 : Int32), rv en5] [(.int p1), (.int (5 : Int32))] _
      refine XS.icmpYes X108.here hx rfl (pc0 := 25) (pc' := 31) rfl (hb hby d1_25) rfl (feq (Ne.symm q5)).2 (by decide) (by decide) ?_
      show own_S p e below T108 m 31 #[iv p1, rv aA, iv (8 : Int32), iv (4 : Int32), rv en5] [] _
      refine XS.iinc X108.here hx rfl (hb hby d1_31) rfl (l' := #[iv p1, rv aA, iv (8 : Int32), iv (5 : Int32), rv en5]) rfl ?_
      show own_S p e below T108 m 34 #[iv p1, rv aA, iv (8 : Int32), iv (5 : Int32), rv en5] [] _
      refine XS.goto X108.here hx rfl (pc0 := 34) (pc' := 9) rfl (hb hby d1_34) (by decide) (by decide) ?_
      show own_S p e below T108 m 9 #[iv p1, rv aA, iv (8 : Int32), iv (5 : Int32), rv en5] [] _
      refine XS.iloadN X108.here hx rfl (hb hby d1_9) rfl ?_
      show own_S p e below T108 m 10 #[iv p1, rv aA, iv (8 : Int32), iv (5 : Int32), rv en5] [(.int (5 : Int32))] _
      refine XS.iloadN X108.here hx rfl (hb hby d1_10) rfl ?_
      show own_S p e below T108 m 11 #[iv p1, rv aA, iv (8 : Int32), iv (5 : Int32), rv en5] [(.int (8 : Int32)), (.int (5 : Int32))] _
      refine XS.icmpNo X108.here hx rfl (hb hby d1_11) rfl (tlt (by decide : (5 : Int32) < (8 : Int32))).2.1 ?_
      show own_S p e below T108 m 14 #[iv p1, rv aA, iv (8 : Int32), iv (5 : Int32), rv en5] [] _
      refine XS.aloadN X108.here hx rfl (hb hby d1_14) rfl rfl ?_
      show own_S p e below T108 m 15 #[iv p1, rv aA, iv (8 : Int32), iv (5 : Int32), rv en5] [(.ref aA)] _
      refine XS.iloadN X108.here hx rfl (hb hby d1_15) rfl ?_
      show own_S p e below T108 m 16 #[iv p1, rv aA, iv (8 : Int32), iv (5 : Int32), rv en5] [(.int (5 : Int32)), (.ref aA)] _
      refine X108.aaload hx (j := (5 : Int32)) (v := (.ref en6)) (by rw [e108]; exact Ar109.1) (State.isArrayOf_alike hZ.alike Ar109.2.1) rfl Ar109.2.2 hin109 hat109 (g := (mkF m 16 #[iv p1, rv aA, iv (8 : Int32), iv (5 : Int32), rv en5] [(.int (5 : Int32)), (.ref aA)])) rfl rfl (hb hby d1_16) _ ?_
      show own_S p e below T108 m 17 #[iv p1, rv aA, iv (8 : Int32), iv (5 : Int32), rv en5] [(.ref en6)] _
      refine XS.astore X108.here hx rfl (hb hby d1_17) rfl rfl (l' := #[iv p1, rv aA, iv (8 : Int32), iv (5 : Int32), rv en6]) rfl ?_
      show own_S p e below T108 m 19 #[iv p1, rv aA, iv (8 : Int32), iv (5 : Int32), rv en6] [] _
      refine XS.aload X108.here hx rfl (hb hby d1_19) rfl rfl ?_
      show own_S p e below T108 m 21 #[iv p1, rv aA, iv (8 : Int32), iv (5 : Int32), rv en6] [(.ref en6)] _
      refine st110 _ ?_
      show own_S p e below T110 m 24 #[iv p1, rv aA, iv (8 : Int32), iv (5 : Int32), rv en6] [(.int (6 : Int32))] _
      refine XS.iloadN X110.here hx rfl (hb hby d1_24) rfl ?_
      show own_S p e below T110 m 25 #[iv p1, rv aA, iv (8 : Int32), iv (5 : Int32), rv en6] [(.int p1), (.int (6 : Int32))] _
      refine XS.icmpYes X110.here hx rfl (pc0 := 25) (pc' := 31) rfl (hb hby d1_25) rfl (feq (Ne.symm q6)).2 (by decide) (by decide) ?_
      show own_S p e below T110 m 31 #[iv p1, rv aA, iv (8 : Int32), iv (5 : Int32), rv en6] [] _
      refine XS.iinc X110.here hx rfl (hb hby d1_31) rfl (l' := #[iv p1, rv aA, iv (8 : Int32), iv (6 : Int32), rv en6]) rfl ?_
      show own_S p e below T110 m 34 #[iv p1, rv aA, iv (8 : Int32), iv (6 : Int32), rv en6] [] _
      refine XS.goto X110.here hx rfl (pc0 := 34) (pc' := 9) rfl (hb hby d1_34) (by decide) (by decide) ?_
      show own_S p e below T110 m 9 #[iv p1, rv aA, iv (8 : Int32), iv (6 : Int32), rv en6] [] _
      refine XS.iloadN X110.here hx rfl (hb hby d1_9) rfl ?_
      show own_S p e below T110 m 10 #[iv p1, rv aA, iv (8 : Int32), iv (6 : Int32), rv en6] [(.int (6 : Int32))] _
      refine XS.iloadN X110.here hx rfl (hb hby d1_10) rfl ?_
      show own_S p e below T110 m 11 #[iv p1, rv aA, iv (8 : Int32), iv (6 : Int32), rv en6] [(.int (8 : Int32)), (.int (6 : Int32))] _
      refine XS.icmpNo X110.here hx rfl (hb hby d1_11) rfl (tlt (by decide : (6 : Int32) < (8 : Int32))).2.1 ?_
      show own_S p e below T110 m 14 #[iv p1, rv aA, iv (8 : Int32), iv (6 : Int32), rv en6] [] _
      refine XS.aloadN X110.here hx rfl (hb hby d1_14) rfl rfl ?_
      show own_S p e below T110 m 15 #[iv p1, rv aA, iv (8 : Int32), iv (6 : Int32), rv en6] [(.ref aA)] _
      refine XS.iloadN X110.here hx rfl (hb hby d1_15) rfl ?_
      show own_S p e below T110 m 16 #[iv p1, rv aA, iv (8 : Int32), iv (6 : Int32), rv en6] [(.int (6 : Int32)), (.ref aA)] _
      refine X110.aaload hx (j := (6 : Int32)) (v := (.ref en7)) (by rw [e110]; exact Ar111.1) (State.isArrayOf_alike hZ.alike Ar111.2.1) rfl Ar111.2.2 hin111 hat111 (g := (mkF m 16 #[iv p1, rv aA, iv (8 : Int32), iv (6 : Int32), rv en6] [(.int (6 : Int32)), (.ref aA)])) rfl rfl (hb hby d1_16) _ ?_
      show own_S p e below T110 m 17 #[iv p1, rv aA, iv (8 : Int32), iv (6 : Int32), rv en6] [(.ref en7)] _
      refine XS.astore X110.here hx rfl (hb hby d1_17) rfl rfl (l' := #[iv p1, rv aA, iv (8 : Int32), iv (6 : Int32), rv en7]) rfl ?_
      show own_S p e below T110 m 19 #[iv p1, rv aA, iv (8 : Int32), iv (6 : Int32), rv en7] [] _
      refine XS.aload X110.here hx rfl (hb hby d1_19) rfl rfl ?_
      show own_S p e below T110 m 21 #[iv p1, rv aA, iv (8 : Int32), iv (6 : Int32), rv en7] [(.ref en7)] _
      refine st112 _ ?_
      show own_S p e below T112 m 24 #[iv p1, rv aA, iv (8 : Int32), iv (6 : Int32), rv en7] [(.int (7 : Int32))] _
      refine XS.iloadN X112.here hx rfl (hb hby d1_24) rfl ?_
      show own_S p e below T112 m 25 #[iv p1, rv aA, iv (8 : Int32), iv (6 : Int32), rv en7] [(.int p1), (.int (7 : Int32))] _
      refine XS.icmpYes X112.here hx rfl (pc0 := 25) (pc' := 31) rfl (hb hby d1_25) rfl (feq (Ne.symm q7)).2 (by decide) (by decide) ?_
      show own_S p e below T112 m 31 #[iv p1, rv aA, iv (8 : Int32), iv (6 : Int32), rv en7] [] _
      refine XS.iinc X112.here hx rfl (hb hby d1_31) rfl (l' := #[iv p1, rv aA, iv (8 : Int32), iv (7 : Int32), rv en7]) rfl ?_
      show own_S p e below T112 m 34 #[iv p1, rv aA, iv (8 : Int32), iv (7 : Int32), rv en7] [] _
      refine XS.goto X112.here hx rfl (pc0 := 34) (pc' := 9) rfl (hb hby d1_34) (by decide) (by decide) ?_
      show own_S p e below T112 m 9 #[iv p1, rv aA, iv (8 : Int32), iv (7 : Int32), rv en7] [] _
      refine XS.iloadN X112.here hx rfl (hb hby d1_9) rfl ?_
      show own_S p e below T112 m 10 #[iv p1, rv aA, iv (8 : Int32), iv (7 : Int32), rv en7] [(.int (7 : Int32))] _
      refine XS.iloadN X112.here hx rfl (hb hby d1_10) rfl ?_
      show own_S p e below T112 m 11 #[iv p1, rv aA, iv (8 : Int32), iv (7 : Int32), rv en7] [(.int (8 : Int32)), (.int (7 : Int32))] _
      refine XS.icmpNo X112.here hx rfl (hb hby d1_11) rfl (tlt (by decide : (7 : Int32) < (8 : Int32))).2.1 ?_
      show own_S p e below T112 m 14 #[iv p1, rv aA, iv (8 : Int32), iv (7 : Int32), rv en7] [] _
      refine XS.aloadN X112.here hx rfl (hb hby d1_14) rfl rfl ?_
      show own_S p e below T112 m 15 #[iv p1, rv aA, iv (8 : Int32), iv (7 : Int32), rv en7] [(.ref aA)] _
      refine XS.iloadN X112.here hx rfl (hb hby d1_15) rfl ?_
      show own_S p e below T112 m 16 #[iv p1, rv aA, iv (8 : Int32), iv (7 : Int32), rv en7] [(.int (7 : Int32)), (.ref aA)] _
      refine X112.aaload hx (j := (7 : Int32)) (v := (.ref en8)) (by rw [e112]; exact Ar113.1) (State.isArrayOf_alike hZ.alike Ar113.2.1) rfl Ar113.2.2 hin113 hat113 (g := (mkF m 16 #[iv p1, rv aA, iv (8 : Int32), iv (7 : Int32), rv en7] [(.int (7 : Int32)), (.ref aA)])) rfl rfl (hb hby d1_16) _ ?_
      show own_S p e below T112 m 17 #[iv p1, rv aA, iv (8 : Int32), iv (7 : Int32), rv en7] [(.ref en8)] _
      refine XS.astore X112.here hx rfl (hb hby d1_17) rfl rfl (l' := #[iv p1, rv aA, iv (8 : Int32), iv (7 : Int32), rv en8]) rfl ?_
      show own_S p e below T112 m 19 #[iv p1, rv aA, iv (8 : Int32), iv (7 : Int32), rv en8] [] _
      refine XS.aload X112.here hx rfl (hb hby d1_19) rfl rfl ?_
      show own_S p e below T112 m 21 #[iv p1, rv aA, iv (8 : Int32), iv (7 : Int32), rv en8] [(.ref en8)] _
      refine st114 _ ?_
      show own_S p e below T114 m 24 #[iv p1, rv aA, iv (8 : Int32), iv (7 : Int32), rv en8] [(.int (8 : Int32))] _
      refine XS.iloadN X114.here hx rfl (hb hby d1_24) rfl ?_
      show own_S p e below T114 m 25 #[iv p1, rv aA, iv (8 : Int32), iv (7 : Int32), rv en8] [(.int p1), (.int (8 : Int32))] _
      refine XS.icmpYes X114.here hx rfl (pc0 := 25) (pc' := 31) rfl (hb hby d1_25) rfl (feq (Ne.symm q8)).2 (by decide) (by decide) ?_
      show own_S p e below T114 m 31 #[iv p1, rv aA, iv (8 : Int32), iv (7 : Int32), rv en8] [] _
      refine XS.iinc X114.here hx rfl (hb hby d1_31) rfl (l' := #[iv p1, rv aA, iv (8 : Int32), iv (8 : Int32), rv en8]) rfl ?_
      show own_S p e below T114 m 34 #[iv p1, rv aA, iv (8 : Int32), iv (8 : Int32), rv en8] [] _
      refine XS.goto X114.here hx rfl (pc0 := 34) (pc' := 9) rfl (hb hby d1_34) (by decide) (by decide) ?_
      show own_S p e below T114 m 9 #[iv p1, rv aA, iv (8 : Int32), iv (8 : Int32), rv en8] [] _
      refine XS.iloadN X114.here hx rfl (hb hby d1_9) rfl ?_
      show own_S p e below T114 m 10 #[iv p1, rv aA, iv (8 : Int32), iv (8 : Int32), rv en8] [(.int (8 : Int32))] _
      refine XS.iloadN X114.here hx rfl (hb hby d1_10) rfl ?_
      show own_S p e below T114 m 11 #[iv p1, rv aA, iv (8 : Int32), iv (8 : Int32), rv en8] [(.int (8 : Int32)), (.int (8 : Int32))] _
      refine XS.icmpYes X114.here hx rfl (pc0 := 11) (pc' := 37) rfl (hb hby d1_11) rfl (flt (by decide : ¬ ((8 : Int32) < (8 : Int32)))).2.1 (by decide) (by decide) ?_
      show own_S p e below T114 m 37 #[iv p1, rv aA, iv (8 : Int32), iv (8 : Int32), rv en8] [] _
      refine XS.aconstNull X114.here hx rfl (hb hby d1_37) ?_
      exact k)
    obtain ⟨fs, hr, hrun, hended, hW, hsame⟩ := X114.leave (v := some .null) (fun h => by rw [Bd.returns] at h; cases h)
    refine ⟨_, _, pre115 _ ?_, hrun, hended, _, _, rfl, ?_, ⟨_, rfl⟩, hW, hsame.mono (by decide) (by decide)⟩
    · show own_S p e below T114 m 38 #[iv p1, rv aA, iv (8 : Int32), iv (8 : Int32), rv en8] [.null] _
      exact retOut X114 hx (t := (.object "com/example/broker/broker/wire/Command")) Bd.returns rfl (Or.inr (Or.inr (Or.inr (Or.inr ⟨rfl, rfl, rfl⟩)))) (hb hby d1_38) hr
    · show Q1 Z p1 en1 en2 en3 en4 en5 en6 en7 en8 aA kA h0 n0 _ T114.heap _
      rw [e114]
      exact ⟨by rw [own_null hout], N0, rfl⟩
theorem pn_1 : plainName "com/example/broker/broker/wire/CommandOfPinLaw" = true := by first | (simp [plainName, overriddenIn]; done) | decide +kernel
theorem ef_2 (m : MethodId) (p1 : Int32) : entryFrame m #[(.int p1)] 1 = mkF m 0 #[iv p1] [] := by first | (simp [entryFrame, mkF, argsToLocals, Value.category]; done) | rfl
def Q2 (Z : State) (p1 : Int32) (en1 : Addr) (en2 : Addr) (en3 : Addr) (en4 : Addr) (en5 : Addr) (en6 : Addr) (en7 : Addr) (en8 : Addr) (aA : Addr) (kA : ClassId) (h0 : Heap) (n0 : Nat) (v : Option Value) (h : Heap) (L : List Loc) : Prop := v = some (own_ref p1 en1 en2 en3 en4 en5 en6 en7 en8) ∧ Fr n0 L ∧ h = h0
theorem d2_0 : decode method_2_code 0 = .ok (.iload_n 0, 1) := by decide +kernel
theorem d2_1 : decode method_2_code 1 = .ok (.iconst 1, 1) := by decide +kernel
theorem d2_2 : decode method_2_code 2 = .ok (.if_icmp .ne 7, 3) := by decide +kernel
theorem d2_5 : decode method_2_code 5 = .ok (.getstatic 7, 3) := by decide +kernel
theorem d2_8 : decode method_2_code 8 = .ok (.areturn, 1) := by decide +kernel
theorem d2_9 : decode method_2_code 9 = .ok (.iload_n 0, 1) := by decide +kernel
theorem d2_10 : decode method_2_code 10 = .ok (.iconst 2, 1) := by decide +kernel
theorem d2_11 : decode method_2_code 11 = .ok (.if_icmp .ne 7, 3) := by decide +kernel
theorem d2_14 : decode method_2_code 14 = .ok (.getstatic 13, 3) := by decide +kernel
theorem d2_17 : decode method_2_code 17 = .ok (.areturn, 1) := by decide +kernel
theorem d2_18 : decode method_2_code 18 = .ok (.iload_n 0, 1) := by decide +kernel
theorem d2_19 : decode method_2_code 19 = .ok (.iconst 3, 1) := by decide +kernel
theorem d2_20 : decode method_2_code 20 = .ok (.if_icmp .ne 7, 3) := by decide +kernel
theorem d2_23 : decode method_2_code 23 = .ok (.getstatic 16, 3) := by decide +kernel
theorem d2_26 : decode method_2_code 26 = .ok (.areturn, 1) := by decide +kernel
theorem d2_27 : decode method_2_code 27 = .ok (.iload_n 0, 1) := by decide +kernel
theorem d2_28 : decode method_2_code 28 = .ok (.iconst 4, 1) := by decide +kernel
theorem d2_29 : decode method_2_code 29 = .ok (.if_icmp .ne 7, 3) := by decide +kernel
theorem d2_32 : decode method_2_code 32 = .ok (.getstatic 19, 3) := by decide +kernel
theorem d2_35 : decode method_2_code 35 = .ok (.areturn, 1) := by decide +kernel
theorem d2_36 : decode method_2_code 36 = .ok (.iload_n 0, 1) := by decide +kernel
theorem d2_37 : decode method_2_code 37 = .ok (.iconst 5, 1) := by decide +kernel
theorem d2_38 : decode method_2_code 38 = .ok (.if_icmp .ne 7, 3) := by decide +kernel
theorem d2_41 : decode method_2_code 41 = .ok (.getstatic 22, 3) := by decide +kernel
theorem d2_44 : decode method_2_code 44 = .ok (.areturn, 1) := by decide +kernel
theorem d2_45 : decode method_2_code 45 = .ok (.iload_n 0, 1) := by decide +kernel
theorem d2_46 : decode method_2_code 46 = .ok (.bipush 6, 2) := by decide +kernel
theorem d2_48 : decode method_2_code 48 = .ok (.if_icmp .ne 7, 3) := by decide +kernel
theorem d2_51 : decode method_2_code 51 = .ok (.getstatic 25, 3) := by decide +kernel
theorem d2_54 : decode method_2_code 54 = .ok (.areturn, 1) := by decide +kernel
theorem d2_55 : decode method_2_code 55 = .ok (.iload_n 0, 1) := by decide +kernel
theorem d2_56 : decode method_2_code 56 = .ok (.bipush 7, 2) := by decide +kernel
theorem d2_58 : decode method_2_code 58 = .ok (.if_icmp .ne 7, 3) := by decide +kernel
theorem d2_61 : decode method_2_code 61 = .ok (.getstatic 28, 3) := by decide +kernel
theorem d2_64 : decode method_2_code 64 = .ok (.areturn, 1) := by decide +kernel
theorem d2_65 : decode method_2_code 65 = .ok (.iload_n 0, 1) := by decide +kernel
theorem d2_66 : decode method_2_code 66 = .ok (.bipush 8, 2) := by decide +kernel
theorem d2_68 : decode method_2_code 68 = .ok (.if_icmp .ne 7, 3) := by decide +kernel
theorem d2_71 : decode method_2_code 71 = .ok (.getstatic 31, 3) := by decide +kernel
theorem d2_74 : decode method_2_code 74 = .ok (.areturn, 1) := by decide +kernel
theorem d2_75 : decode method_2_code 75 = .ok (.aconst_null, 1) := by decide +kernel
theorem d2_76 : decode method_2_code 76 = .ok (.areturn, 1) := by decide +kernel
set_option maxRecDepth 65536 in
set_option maxHeartbeats 40000000 in
theorem rm2 (l : Launch) (Z : State) (a0 : Array Value) (hw : ∀ d ∈ tables_1, d.before a0 Z = true) (ws : List Jvm.Cond) (p1 : Int32) (en1 : Addr) (en2 : Addr) (en3 : Addr) (en4 : Addr) (en5 : Addr) (en6 : Addr) (en7 : Addr) (en8 : Addr) (aA : Addr) (kA : ClassId) (h0 : Heap) (n0 : Nat) (Z0 : n0 ≤ h0.size) (S_en1 : Sta Z h0 "com/example/broker/broker/wire/Command" "SEND" "Lcom/example/broker/broker/wire/Command;" (.ref en1)) (S_en2 : Sta Z h0 "com/example/broker/broker/wire/Command" "READ" "Lcom/example/broker/broker/wire/Command;" (.ref en2)) (S_en3 : Sta Z h0 "com/example/broker/broker/wire/Command" "SUBSCRIBE" "Lcom/example/broker/broker/wire/Command;" (.ref en3)) (S_en4 : Sta Z h0 "com/example/broker/broker/wire/Command" "DELIVER" "Lcom/example/broker/broker/wire/Command;" (.ref en4)) (S_en5 : Sta Z h0 "com/example/broker/broker/wire/Command" "ACK" "Lcom/example/broker/broker/wire/Command;" (.ref en5)) (S_en6 : Sta Z h0 "com/example/broker/broker/wire/Command" "UNSUBSCRIBE" "Lcom/example/broker/broker/wire/Command;" (.ref en6)) (S_en7 : Sta Z h0 "com/example/broker/broker/wire/Command" "STATS" "Lcom/example/broker/broker/wire/Command;" (.ref en7)) (S_en8 : Sta Z h0 "com/example/broker/broker/wire/Command" "ACK_EACH" "Lcom/example/broker/broker/wire/Command;" (.ref en8)) (S_A : Sta Z h0 "com/example/broker/broker/wire/Command" "ALL" "[Lcom/example/broker/broker/wire/Command;" (.ref aA)) (V_A : Arv Z h0 aA kA (.object "com/example/broker/broker/wire/Command") (8 : Int32) [(.ref en1), (.ref en2), (.ref en3), (.ref en4), (.ref en5), (.ref en6), (.ref en7), (.ref en8)] .null) (F_en1 : Fld Z h0 en1 "com/example/broker/broker/wire/Command" "code" "I" (.int (1 : Int32))) (F_en2 : Fld Z h0 en2 "com/example/broker/broker/wire/Command" "code" "I" (.int (2 : Int32))) (F_en3 : Fld Z h0 en3 "com/example/broker/broker/wire/Command" "code" "I" (.int (3 : Int32))) (F_en4 : Fld Z h0 en4 "com/example/broker/broker/wire/Command" "code" "I" (.int (4 : Int32))) (F_en5 : Fld Z h0 en5 "com/example/broker/broker/wire/Command" "code" "I" (.int (5 : Int32))) (F_en6 : Fld Z h0 en6 "com/example/broker/broker/wire/Command" "code" "I" (.int (6 : Int32))) (F_en7 : Fld Z h0 en7 "com/example/broker/broker/wire/Command" "code" "I" (.int (7 : Int32))) (F_en8 : Fld Z h0 en8 "com/example/broker/broker/wire/Command" "code" "I" (.int (8 : Int32))) (E_en1 : Exa Z h0 en1 "com/example/broker/broker/wire/Command") (E_en2 : Exa Z h0 en2 "com/example/broker/broker/wire/Command") (E_en3 : Exa Z h0 en3 "com/example/broker/broker/wire/Command") (E_en4 : Exa Z h0 en4 "com/example/broker/broker/wire/Command") (E_en5 : Exa Z h0 en5 "com/example/broker/broker/wire/Command") (E_en6 : Exa Z h0 en6 "com/example/broker/broker/wire/Command") (E_en7 : Exa Z h0 en7 "com/example/broker/broker/wire/Command") (E_en8 : Exa Z h0 en8 "com/example/broker/broker/wire/Command") :
    MetFree l (⟨"com/example/broker/broker/wire/CommandOfPinLaw", "expected", "(I)Lcom/example/broker/broker/wire/Command;"⟩ : MethodName) (head1 (Jvm.Cond.code (⟨"com/example/broker/broker/wire/CommandOfPinLaw", "expected", "(I)Lcom/example/broker/broker/wire/Command;"⟩ : MethodName) method_2_code 1 (some (.object "com/example/broker/broker/wire/Command")) :: ws) ({ frames := 0, cells := 0, slots := 0, locals := 0 } : Room)) (fun a U => a = #[(.int p1)] ∧ Z.Warmed39 U.vm ∧ U.heap = h0) (fun _ _ _ _ _ => True) (fun _ U o U' => ∃ v L, o = .returned v ∧ Q2 Z p1 en1 en2 en3 en4 en5 en6 en7 en8 aA kA h0 n0 v U'.heap L ∧ FrameEnd U o U' L ({ frames := 0, cells := 0, slots := 0, locals := 0 } : Room).cells ({ frames := 0, cells := 0, slots := 0, locals := 0 } : Room).slots) := by
  refine MetFree.of_bodySF (plainFor_of_name pn_1) hisR ?_
  intro p e s m args below meth c s₁ Bd hml0 hP hK
  obtain ⟨rfl, hZ, hh⟩ := hP
  have hx := Bd.exec
  have hby := Bd.bytes
  have hml : c.maxLocals = 1 := hml0
  have hown : s.vm.findClass "com/example/broker/broker/wire/CommandOfPinLaw" = some m.cls := findClass_of_methodNamed Bd.named
  have hnm := (name_of_methodNamed Bd.named Bd.method).1
  have X0 : Stand p l e ({ frames := 0, cells := 0, slots := 0, locals := 0 } : Room) s m #[(.int p1)] below meth c s₁ [] 0 0 := Stand.of_body Bd
  have e0 : s₁.heap = h0 := by rw [← hh, Bd.state]; rfl
  have N0 := Fr.nil n0
  have pre0 : ∀ t, Steps p.tables e below (s₁.setTop (mkF m 0 #[iv p1] [])) t → Steps p.tables e below (s₁.setTop (entryFrame m #[(.int p1)] 1)) t := fun t k => castTop (ef_2 m p1) k
  have hsp := own_split p1
  rcases hsp with rfl | rfl | rfl | rfl | rfl | rfl | rfl | rfl | hout
  ·  -- case
    obtain ⟨T1, X1, e1, st1⟩ := getS2 X0 hx hZ hown (host := "") (Or.inl (hw _ (List.mem_of_getElem? (i := 27) rfl))) Via.refl e0 S_en1 (g := (mkF m 5 #[iv (1 : Int32)] [])) rfl (hb hby d2_5)
    have pre2 : ∀ t, own_S p e below T1 m 8 #[iv (1 : Int32)] [(.ref en1)] t → Steps p.tables e below (s₁.setTop (entryFrame m #[(.int (1 : Int32))] 1)) t := fun t k => pre0 t (by
      show own_S p e below s₁ m 0 #[iv (1 : Int32)] [] _
      refine XS.iloadN X0.here hx rfl (hb hby d2_0) rfl ?_
      show own_S p e below s₁ m 1 #[iv (1 : Int32)] [(.int (1 : Int32))] _
      refine XS.iconst X0.here hx rfl (hb hby d2_1) ?_
      show own_S p e below s₁ m 2 #[iv (1 : Int32)] [(.int (1 : Int32)), (.int (1 : Int32))] _
      refine XS.icmpNo X0.here hx rfl (hb hby d2_2) rfl (teq (by decide : (1 : Int32) = (1 : Int32))).2 ?_
      show own_S p e below s₁ m 5 #[iv (1 : Int32)] [] _
      refine st1 _ ?_
      exact k)
    obtain ⟨fs, hr, hrun, hended, hW, hsame⟩ := X1.leave (v := some (.ref en1)) (fun h => by rw [Bd.returns] at h; cases h)
    refine ⟨_, _, pre2 _ ?_, hrun, hended, _, _, rfl, ?_, ⟨_, rfl⟩, hW, hsame.mono (by decide) (by decide)⟩
    · show own_S p e below T1 m 8 #[iv (1 : Int32)] [(.ref en1)] _
      exact retOut X1 hx (t := (.object "com/example/broker/broker/wire/Command")) Bd.returns rfl (Or.inr (Or.inr (Or.inr (Or.inr ⟨rfl, rfl, rfl⟩)))) (hb hby d2_8) hr
    · show Q2 Z (1 : Int32) en1 en2 en3 en4 en5 en6 en7 en8 aA kA h0 n0 _ T1.heap _
      rw [e1]
      exact ⟨rfl, N0, rfl⟩
  ·  -- case
    obtain ⟨T3, X3, e3, st3⟩ := getS2 X0 hx hZ hown (host := "") (Or.inl (hw _ (List.mem_of_getElem? (i := 33) rfl))) Via.refl e0 S_en2 (g := (mkF m 14 #[iv (2 : Int32)] [])) rfl (hb hby d2_14)
    have pre4 : ∀ t, own_S p e below T3 m 17 #[iv (2 : Int32)] [(.ref en2)] t → Steps p.tables e below (s₁.setTop (entryFrame m #[(.int (2 : Int32))] 1)) t := fun t k => pre0 t (by
      show own_S p e below s₁ m 0 #[iv (2 : Int32)] [] _
      refine XS.iloadN X0.here hx rfl (hb hby d2_0) rfl ?_
      show own_S p e below s₁ m 1 #[iv (2 : Int32)] [(.int (2 : Int32))] _
      refine XS.iconst X0.here hx rfl (hb hby d2_1) ?_
      show own_S p e below s₁ m 2 #[iv (2 : Int32)] [(.int (1 : Int32)), (.int (2 : Int32))] _
      refine XS.icmpYes X0.here hx rfl (pc0 := 2) (pc' := 9) rfl (hb hby d2_2) rfl (feq (by decide : ¬ ((2 : Int32) = (1 : Int32)))).2 (by decide) (by decide) ?_
      show own_S p e below s₁ m 9 #[iv (2 : Int32)] [] _
      refine XS.iloadN X0.here hx rfl (hb hby d2_9) rfl ?_
      show own_S p e below s₁ m 10 #[iv (2 : Int32)] [(.int (2 : Int32))] _
      refine XS.iconst X0.here hx rfl (hb hby d2_10) ?_
      show own_S p e below s₁ m 11 #[iv (2 : Int32)] [(.int (2 : Int32)), (.int (2 : Int32))] _
      refine XS.icmpNo X0.here hx rfl (hb hby d2_11) rfl (teq (by decide : (2 : Int32) = (2 : Int32))).2 ?_
      show own_S p e below s₁ m 14 #[iv (2 : Int32)] [] _
      refine st3 _ ?_
      exact k)
    obtain ⟨fs, hr, hrun, hended, hW, hsame⟩ := X3.leave (v := some (.ref en2)) (fun h => by rw [Bd.returns] at h; cases h)
    refine ⟨_, _, pre4 _ ?_, hrun, hended, _, _, rfl, ?_, ⟨_, rfl⟩, hW, hsame.mono (by decide) (by decide)⟩
    · show own_S p e below T3 m 17 #[iv (2 : Int32)] [(.ref en2)] _
      exact retOut X3 hx (t := (.object "com/example/broker/broker/wire/Command")) Bd.returns rfl (Or.inr (Or.inr (Or.inr (Or.inr ⟨rfl, rfl, rfl⟩)))) (hb hby d2_17) hr
    · show Q2 Z (2 : Int32) en1 en2 en3 en4 en5 en6 en7 en8 aA kA h0 n0 _ T3.heap _
      rw [e3]
      exact ⟨rfl, N0, rfl⟩
  ·  -- case
    obtain ⟨T5, X5, e5, st5⟩ := getS2 X0 hx hZ hown (host := "") (Or.inl (hw _ (List.mem_of_getElem? (i := 30) rfl))) Via.refl e0 S_en3 (g := (mkF m 23 #[iv (3 : Int32)] [])) rfl (hb hby d2_23)
    have pre6 : ∀ t, own_S p e below T5 m 26 #[iv (3 : Int32)] [(.ref en3)] t → Steps p.tables e below (s₁.setTop (entryFrame m #[(.int (3 : Int32))] 1)) t := fun t k => pre0 t (by
      show own_S p e below s₁ m 0 #[iv (3 : Int32)] [] _
      refine XS.iloadN X0.here hx rfl (hb hby d2_0) rfl ?_
      show own_S p e below s₁ m 1 #[iv (3 : Int32)] [(.int (3 : Int32))] _
      refine XS.iconst X0.here hx rfl (hb hby d2_1) ?_
      show own_S p e below s₁ m 2 #[iv (3 : Int32)] [(.int (1 : Int32)), (.int (3 : Int32))] _
      refine XS.icmpYes X0.here hx rfl (pc0 := 2) (pc' := 9) rfl (hb hby d2_2) rfl (feq (by decide : ¬ ((3 : Int32) = (1 : Int32)))).2 (by decide) (by decide) ?_
      show own_S p e below s₁ m 9 #[iv (3 : Int32)] [] _
      refine XS.iloadN X0.here hx rfl (hb hby d2_9) rfl ?_
      show own_S p e below s₁ m 10 #[iv (3 : Int32)] [(.int (3 : Int32))] _
      refine XS.iconst X0.here hx rfl (hb hby d2_10) ?_
      show own_S p e below s₁ m 11 #[iv (3 : Int32)] [(.int (2 : Int32)), (.int (3 : Int32))] _
      refine XS.icmpYes X0.here hx rfl (pc0 := 11) (pc' := 18) rfl (hb hby d2_11) rfl (feq (by decide : ¬ ((3 : Int32) = (2 : Int32)))).2 (by decide) (by decide) ?_
      show own_S p e below s₁ m 18 #[iv (3 : Int32)] [] _
      refine XS.iloadN X0.here hx rfl (hb hby d2_18) rfl ?_
      show own_S p e below s₁ m 19 #[iv (3 : Int32)] [(.int (3 : Int32))] _
      refine XS.iconst X0.here hx rfl (hb hby d2_19) ?_
      show own_S p e below s₁ m 20 #[iv (3 : Int32)] [(.int (3 : Int32)), (.int (3 : Int32))] _
      refine XS.icmpNo X0.here hx rfl (hb hby d2_20) rfl (teq (by decide : (3 : Int32) = (3 : Int32))).2 ?_
      show own_S p e below s₁ m 23 #[iv (3 : Int32)] [] _
      refine st5 _ ?_
      exact k)
    obtain ⟨fs, hr, hrun, hended, hW, hsame⟩ := X5.leave (v := some (.ref en3)) (fun h => by rw [Bd.returns] at h; cases h)
    refine ⟨_, _, pre6 _ ?_, hrun, hended, _, _, rfl, ?_, ⟨_, rfl⟩, hW, hsame.mono (by decide) (by decide)⟩
    · show own_S p e below T5 m 26 #[iv (3 : Int32)] [(.ref en3)] _
      exact retOut X5 hx (t := (.object "com/example/broker/broker/wire/Command")) Bd.returns rfl (Or.inr (Or.inr (Or.inr (Or.inr ⟨rfl, rfl, rfl⟩)))) (hb hby d2_26) hr
    · show Q2 Z (3 : Int32) en1 en2 en3 en4 en5 en6 en7 en8 aA kA h0 n0 _ T5.heap _
      rw [e5]
      exact ⟨rfl, N0, rfl⟩
  ·  -- case
    obtain ⟨T7, X7, e7, st7⟩ := getS2 X0 hx hZ hown (host := "") (Or.inl (hw _ (List.mem_of_getElem? (i := 28) rfl))) Via.refl e0 S_en4 (g := (mkF m 32 #[iv (4 : Int32)] [])) rfl (hb hby d2_32)
    have pre8 : ∀ t, own_S p e below T7 m 35 #[iv (4 : Int32)] [(.ref en4)] t → Steps p.tables e below (s₁.setTop (entryFrame m #[(.int (4 : Int32))] 1)) t := fun t k => pre0 t (by
      show own_S p e below s₁ m 0 #[iv (4 : Int32)] [] _
      refine XS.iloadN X0.here hx rfl (hb hby d2_0) rfl ?_
      show own_S p e below s₁ m 1 #[iv (4 : Int32)] [(.int (4 : Int32))] _
      refine XS.iconst X0.here hx rfl (hb hby d2_1) ?_
      show own_S p e below s₁ m 2 #[iv (4 : Int32)] [(.int (1 : Int32)), (.int (4 : Int32))] _
      refine XS.icmpYes X0.here hx rfl (pc0 := 2) (pc' := 9) rfl (hb hby d2_2) rfl (feq (by decide : ¬ ((4 : Int32) = (1 : Int32)))).2 (by decide) (by decide) ?_
      show own_S p e below s₁ m 9 #[iv (4 : Int32)] [] _
      refine XS.iloadN X0.here hx rfl (hb hby d2_9) rfl ?_
      show own_S p e below s₁ m 10 #[iv (4 : Int32)] [(.int (4 : Int32))] _
      refine XS.iconst X0.here hx rfl (hb hby d2_10) ?_
      show own_S p e below s₁ m 11 #[iv (4 : Int32)] [(.int (2 : Int32)), (.int (4 : Int32))] _
      refine XS.icmpYes X0.here hx rfl (pc0 := 11) (pc' := 18) rfl (hb hby d2_11) rfl (feq (by decide : ¬ ((4 : Int32) = (2 : Int32)))).2 (by decide) (by decide) ?_
      show own_S p e below s₁ m 18 #[iv (4 : Int32)] [] _
      refine XS.iloadN X0.here hx rfl (hb hby d2_18) rfl ?_
      show own_S p e below s₁ m 19 #[iv (4 : Int32)] [(.int (4 : Int32))] _
      refine XS.iconst X0.here hx rfl (hb hby d2_19) ?_
      show own_S p e below s₁ m 20 #[iv (4 : Int32)] [(.int (3 : Int32)), (.int (4 : Int32))] _
      refine XS.icmpYes X0.here hx rfl (pc0 := 20) (pc' := 27) rfl (hb hby d2_20) rfl (feq (by decide : ¬ ((4 : Int32) = (3 : Int32)))).2 (by decide) (by decide) ?_
      show own_S p e below s₁ m 27 #[iv (4 : Int32)] [] _
      refine XS.iloadN X0.here hx rfl (hb hby d2_27) rfl ?_
      show own_S p e below s₁ m 28 #[iv (4 : Int32)] [(.int (4 : Int32))] _
      refine XS.iconst X0.here hx rfl (hb hby d2_28) ?_
      show own_S p e below s₁ m 29 #[iv (4 : Int32)] [(.int (4 : Int32)), (.int (4 : Int32))] _
      refine XS.icmpNo X0.here hx rfl (hb hby d2_29) rfl (teq (by decide : (4 : Int32) = (4 : Int32))).2 ?_
      show own_S p e below s₁ m 32 #[iv (4 : Int32)] [] _
      refine st7 _ ?_
      exact k)
    obtain ⟨fs, hr, hrun, hended, hW, hsame⟩ := X7.leave (v := some (.ref en4)) (fun h => by rw [Bd.returns] at h; cases h)
    refine ⟨_, _, pre8 _ ?_, hrun, hended, _, _, rfl, ?_, ⟨_, rfl⟩, hW, hsame.mono (by decide) (by decide)⟩
    · show own_S p e below T7 m 35 #[iv (4 : Int32)] [(.ref en4)] _
      exact retOut X7 hx (t := (.object "com/example/broker/broker/wire/Command")) Bd.returns rfl (Or.inr (Or.inr (Or.inr (Or.inr ⟨rfl, rfl, rfl⟩)))) (hb hby d2_35) hr
    · show Q2 Z (4 : Int32) en1 en2 en3 en4 en5 en6 en7 en8 aA kA h0 n0 _ T7.heap _
      rw [e7]
      exact ⟨rfl, N0, rfl⟩
  ·  -- case
    obtain ⟨T9, X9, e9, st9⟩ := getS2 X0 hx hZ hown (host := "") (Or.inl (hw _ (List.mem_of_getElem? (i := 31) rfl))) Via.refl e0 S_en5 (g := (mkF m 41 #[iv (5 : Int32)] [])) rfl (hb hby d2_41)
    have pre10 : ∀ t, own_S p e below T9 m 44 #[iv (5 : Int32)] [(.ref en5)] t → Steps p.tables e below (s₁.setTop (entryFrame m #[(.int (5 : Int32))] 1)) t := fun t k => pre0 t (by
      show own_S p e below s₁ m 0 #[iv (5 : Int32)] [] _
      refine XS.iloadN X0.here hx rfl (hb hby d2_0) rfl ?_
      show own_S p e below s₁ m 1 #[iv (5 : Int32)] [(.int (5 : Int32))] _
      refine XS.iconst X0.here hx rfl (hb hby d2_1) ?_
      show own_S p e below s₁ m 2 #[iv (5 : Int32)] [(.int (1 : Int32)), (.int (5 : Int32))] _
      refine XS.icmpYes X0.here hx rfl (pc0 := 2) (pc' := 9) rfl (hb hby d2_2) rfl (feq (by decide : ¬ ((5 : Int32) = (1 : Int32)))).2 (by decide) (by decide) ?_
      show own_S p e below s₁ m 9 #[iv (5 : Int32)] [] _
      refine XS.iloadN X0.here hx rfl (hb hby d2_9) rfl ?_
      show own_S p e below s₁ m 10 #[iv (5 : Int32)] [(.int (5 : Int32))] _
      refine XS.iconst X0.here hx rfl (hb hby d2_10) ?_
      show own_S p e below s₁ m 11 #[iv (5 : Int32)] [(.int (2 : Int32)), (.int (5 : Int32))] _
      refine XS.icmpYes X0.here hx rfl (pc0 := 11) (pc' := 18) rfl (hb hby d2_11) rfl (feq (by decide : ¬ ((5 : Int32) = (2 : Int32)))).2 (by decide) (by decide) ?_
      show own_S p e below s₁ m 18 #[iv (5 : Int32)] [] _
      refine XS.iloadN X0.here hx rfl (hb hby d2_18) rfl ?_
      show own_S p e below s₁ m 19 #[iv (5 : Int32)] [(.int (5 : Int32))] _
      refine XS.iconst X0.here hx rfl (hb hby d2_19) ?_
      show own_S p e below s₁ m 20 #[iv (5 : Int32)] [(.int (3 : Int32)), (.int (5 : Int32))] _
      refine XS.icmpYes X0.here hx rfl (pc0 := 20) (pc' := 27) rfl (hb hby d2_20) rfl (feq (by decide : ¬ ((5 : Int32) = (3 : Int32)))).2 (by decide) (by decide) ?_
      show own_S p e below s₁ m 27 #[iv (5 : Int32)] [] _
      refine XS.iloadN X0.here hx rfl (hb hby d2_27) rfl ?_
      show own_S p e below s₁ m 28 #[iv (5 : Int32)] [(.int (5 : Int32))] _
      refine XS.iconst X0.here hx rfl (hb hby d2_28) ?_
      show own_S p e below s₁ m 29 #[iv (5 : Int32)] [(.int (4 : Int32)), (.int (5 : Int32))] _
      refine XS.icmpYes X0.here hx rfl (pc0 := 29) (pc' := 36) rfl (hb hby d2_29) rfl (feq (by decide : ¬ ((5 : Int32) = (4 : Int32)))).2 (by decide) (by decide) ?_
      show own_S p e below s₁ m 36 #[iv (5 : Int32)] [] _
      refine XS.iloadN X0.here hx rfl (hb hby d2_36) rfl ?_
      show own_S p e below s₁ m 37 #[iv (5 : Int32)] [(.int (5 : Int32))] _
      refine XS.iconst X0.here hx rfl (hb hby d2_37) ?_
      show own_S p e below s₁ m 38 #[iv (5 : Int32)] [(.int (5 : Int32)), (.int (5 : Int32))] _
      refine XS.icmpNo X0.here hx rfl (hb hby d2_38) rfl (teq (by decide : (5 : Int32) = (5 : Int32))).2 ?_
      show own_S p e below s₁ m 41 #[iv (5 : Int32)] [] _
      refine st9 _ ?_
      exact k)
    obtain ⟨fs, hr, hrun, hended, hW, hsame⟩ := X9.leave (v := some (.ref en5)) (fun h => by rw [Bd.returns] at h; cases h)
    refine ⟨_, _, pre10 _ ?_, hrun, hended, _, _, rfl, ?_, ⟨_, rfl⟩, hW, hsame.mono (by decide) (by decide)⟩
    · show own_S p e below T9 m 44 #[iv (5 : Int32)] [(.ref en5)] _
      exact retOut X9 hx (t := (.object "com/example/broker/broker/wire/Command")) Bd.returns rfl (Or.inr (Or.inr (Or.inr (Or.inr ⟨rfl, rfl, rfl⟩)))) (hb hby d2_44) hr
    · show Q2 Z (5 : Int32) en1 en2 en3 en4 en5 en6 en7 en8 aA kA h0 n0 _ T9.heap _
      rw [e9]
      exact ⟨rfl, N0, rfl⟩
  ·  -- case
    obtain ⟨T11, X11, e11, st11⟩ := getS2 X0 hx hZ hown (host := "") (Or.inl (hw _ (List.mem_of_getElem? (i := 21) rfl))) Via.refl e0 S_en6 (g := (mkF m 51 #[iv (6 : Int32)] [])) rfl (hb hby d2_51)
    have pre12 : ∀ t, own_S p e below T11 m 54 #[iv (6 : Int32)] [(.ref en6)] t → Steps p.tables e below (s₁.setTop (entryFrame m #[(.int (6 : Int32))] 1)) t := fun t k => pre0 t (by
      show own_S p e below s₁ m 0 #[iv (6 : Int32)] [] _
      refine XS.iloadN X0.here hx rfl (hb hby d2_0) rfl ?_
      show own_S p e below s₁ m 1 #[iv (6 : Int32)] [(.int (6 : Int32))] _
      refine XS.iconst X0.here hx rfl (hb hby d2_1) ?_
      show own_S p e below s₁ m 2 #[iv (6 : Int32)] [(.int (1 : Int32)), (.int (6 : Int32))] _
      refine XS.icmpYes X0.here hx rfl (pc0 := 2) (pc' := 9) rfl (hb hby d2_2) rfl (feq (by decide : ¬ ((6 : Int32) = (1 : Int32)))).2 (by decide) (by decide) ?_
      show own_S p e below s₁ m 9 #[iv (6 : Int32)] [] _
      refine XS.iloadN X0.here hx rfl (hb hby d2_9) rfl ?_
      show own_S p e below s₁ m 10 #[iv (6 : Int32)] [(.int (6 : Int32))] _
      refine XS.iconst X0.here hx rfl (hb hby d2_10) ?_
      show own_S p e below s₁ m 11 #[iv (6 : Int32)] [(.int (2 : Int32)), (.int (6 : Int32))] _
      refine XS.icmpYes X0.here hx rfl (pc0 := 11) (pc' := 18) rfl (hb hby d2_11) rfl (feq (by decide : ¬ ((6 : Int32) = (2 : Int32)))).2 (by decide) (by decide) ?_
      show own_S p e below s₁ m 18 #[iv (6 : Int32)] [] _
      refine XS.iloadN X0.here hx rfl (hb hby d2_18) rfl ?_
      show own_S p e below s₁ m 19 #[iv (6 : Int32)] [(.int (6 : Int32))] _
      refine XS.iconst X0.here hx rfl (hb hby d2_19) ?_
      show own_S p e below s₁ m 20 #[iv (6 : Int32)] [(.int (3 : Int32)), (.int (6 : Int32))] _
      refine XS.icmpYes X0.here hx rfl (pc0 := 20) (pc' := 27) rfl (hb hby d2_20) rfl (feq (by decide : ¬ ((6 : Int32) = (3 : Int32)))).2 (by decide) (by decide) ?_
      show own_S p e below s₁ m 27 #[iv (6 : Int32)] [] _
      refine XS.iloadN X0.here hx rfl (hb hby d2_27) rfl ?_
      show own_S p e below s₁ m 28 #[iv (6 : Int32)] [(.int (6 : Int32))] _
      refine XS.iconst X0.here hx rfl (hb hby d2_28) ?_
      show own_S p e below s₁ m 29 #[iv (6 : Int32)] [(.int (4 : Int32)), (.int (6 : Int32))] _
      refine XS.icmpYes X0.here hx rfl (pc0 := 29) (pc' := 36) rfl (hb hby d2_29) rfl (feq (by decide : ¬ ((6 : Int32) = (4 : Int32)))).2 (by decide) (by decide) ?_
      show own_S p e below s₁ m 36 #[iv (6 : Int32)] [] _
      refine XS.iloadN X0.here hx rfl (hb hby d2_36) rfl ?_
      show own_S p e below s₁ m 37 #[iv (6 : Int32)] [(.int (6 : Int32))] _
      refine XS.iconst X0.here hx rfl (hb hby d2_37) ?_
      show own_S p e below s₁ m 38 #[iv (6 : Int32)] [(.int (5 : Int32)), (.int (6 : Int32))] _
      refine XS.icmpYes X0.here hx rfl (pc0 := 38) (pc' := 45) rfl (hb hby d2_38) rfl (feq (by decide : ¬ ((6 : Int32) = (5 : Int32)))).2 (by decide) (by decide) ?_
      show own_S p e below s₁ m 45 #[iv (6 : Int32)] [] _
      refine XS.iloadN X0.here hx rfl (hb hby d2_45) rfl ?_
      show own_S p e below s₁ m 46 #[iv (6 : Int32)] [(.int (6 : Int32))] _
      refine XS.bipush X0.here hx rfl (hb hby d2_46) ?_
      show own_S p e below s₁ m 48 #[iv (6 : Int32)] [(.int (6 : Int32)), (.int (6 : Int32))] _
      refine XS.icmpNo X0.here hx rfl (hb hby d2_48) rfl (teq (by decide : (6 : Int32) = (6 : Int32))).2 ?_
      show own_S p e below s₁ m 51 #[iv (6 : Int32)] [] _
      refine st11 _ ?_
      exact k)
    obtain ⟨fs, hr, hrun, hended, hW, hsame⟩ := X11.leave (v := some (.ref en6)) (fun h => by rw [Bd.returns] at h; cases h)
    refine ⟨_, _, pre12 _ ?_, hrun, hended, _, _, rfl, ?_, ⟨_, rfl⟩, hW, hsame.mono (by decide) (by decide)⟩
    · show own_S p e below T11 m 54 #[iv (6 : Int32)] [(.ref en6)] _
      exact retOut X11 hx (t := (.object "com/example/broker/broker/wire/Command")) Bd.returns rfl (Or.inr (Or.inr (Or.inr (Or.inr ⟨rfl, rfl, rfl⟩)))) (hb hby d2_54) hr
    · show Q2 Z (6 : Int32) en1 en2 en3 en4 en5 en6 en7 en8 aA kA h0 n0 _ T11.heap _
      rw [e11]
      exact ⟨rfl, N0, rfl⟩
  ·  -- case
    obtain ⟨T13, X13, e13, st13⟩ := getS2 X0 hx hZ hown (host := "") (Or.inl (hw _ (List.mem_of_getElem? (i := 29) rfl))) Via.refl e0 S_en7 (g := (mkF m 61 #[iv (7 : Int32)] [])) rfl (hb hby d2_61)
    have pre14 : ∀ t, own_S p e below T13 m 64 #[iv (7 : Int32)] [(.ref en7)] t → Steps p.tables e below (s₁.setTop (entryFrame m #[(.int (7 : Int32))] 1)) t := fun t k => pre0 t (by
      show own_S p e below s₁ m 0 #[iv (7 : Int32)] [] _
      refine XS.iloadN X0.here hx rfl (hb hby d2_0) rfl ?_
      show own_S p e below s₁ m 1 #[iv (7 : Int32)] [(.int (7 : Int32))] _
      refine XS.iconst X0.here hx rfl (hb hby d2_1) ?_
      show own_S p e below s₁ m 2 #[iv (7 : Int32)] [(.int (1 : Int32)), (.int (7 : Int32))] _
      refine XS.icmpYes X0.here hx rfl (pc0 := 2) (pc' := 9) rfl (hb hby d2_2) rfl (feq (by decide : ¬ ((7 : Int32) = (1 : Int32)))).2 (by decide) (by decide) ?_
      show own_S p e below s₁ m 9 #[iv (7 : Int32)] [] _
      refine XS.iloadN X0.here hx rfl (hb hby d2_9) rfl ?_
      show own_S p e below s₁ m 10 #[iv (7 : Int32)] [(.int (7 : Int32))] _
      refine XS.iconst X0.here hx rfl (hb hby d2_10) ?_
      show own_S p e below s₁ m 11 #[iv (7 : Int32)] [(.int (2 : Int32)), (.int (7 : Int32))] _
      refine XS.icmpYes X0.here hx rfl (pc0 := 11) (pc' := 18) rfl (hb hby d2_11) rfl (feq (by decide : ¬ ((7 : Int32) = (2 : Int32)))).2 (by decide) (by decide) ?_
      show own_S p e below s₁ m 18 #[iv (7 : Int32)] [] _
      refine XS.iloadN X0.here hx rfl (hb hby d2_18) rfl ?_
      show own_S p e below s₁ m 19 #[iv (7 : Int32)] [(.int (7 : Int32))] _
      refine XS.iconst X0.here hx rfl (hb hby d2_19) ?_
      show own_S p e below s₁ m 20 #[iv (7 : Int32)] [(.int (3 : Int32)), (.int (7 : Int32))] _
      refine XS.icmpYes X0.here hx rfl (pc0 := 20) (pc' := 27) rfl (hb hby d2_20) rfl (feq (by decide : ¬ ((7 : Int32) = (3 : Int32)))).2 (by decide) (by decide) ?_
      show own_S p e below s₁ m 27 #[iv (7 : Int32)] [] _
      refine XS.iloadN X0.here hx rfl (hb hby d2_27) rfl ?_
      show own_S p e below s₁ m 28 #[iv (7 : Int32)] [(.int (7 : Int32))] _
      refine XS.iconst X0.here hx rfl (hb hby d2_28) ?_
      show own_S p e below s₁ m 29 #[iv (7 : Int32)] [(.int (4 : Int32)), (.int (7 : Int32))] _
      refine XS.icmpYes X0.here hx rfl (pc0 := 29) (pc' := 36) rfl (hb hby d2_29) rfl (feq (by decide : ¬ ((7 : Int32) = (4 : Int32)))).2 (by decide) (by decide) ?_
      show own_S p e below s₁ m 36 #[iv (7 : Int32)] [] _
      refine XS.iloadN X0.here hx rfl (hb hby d2_36) rfl ?_
      show own_S p e below s₁ m 37 #[iv (7 : Int32)] [(.int (7 : Int32))] _
      refine XS.iconst X0.here hx rfl (hb hby d2_37) ?_
      show own_S p e below s₁ m 38 #[iv (7 : Int32)] [(.int (5 : Int32)), (.int (7 : Int32))] _
      refine XS.icmpYes X0.here hx rfl (pc0 := 38) (pc' := 45) rfl (hb hby d2_38) rfl (feq (by decide : ¬ ((7 : Int32) = (5 : Int32)))).2 (by decide) (by decide) ?_
      show own_S p e below s₁ m 45 #[iv (7 : Int32)] [] _
      refine XS.iloadN X0.here hx rfl (hb hby d2_45) rfl ?_
      show own_S p e below s₁ m 46 #[iv (7 : Int32)] [(.int (7 : Int32))] _
      refine XS.bipush X0.here hx rfl (hb hby d2_46) ?_
      show own_S p e below s₁ m 48 #[iv (7 : Int32)] [(.int (6 : Int32)), (.int (7 : Int32))] _
      refine XS.icmpYes X0.here hx rfl (pc0 := 48) (pc' := 55) rfl (hb hby d2_48) rfl (feq (by decide : ¬ ((7 : Int32) = (6 : Int32)))).2 (by decide) (by decide) ?_
      show own_S p e below s₁ m 55 #[iv (7 : Int32)] [] _
      refine XS.iloadN X0.here hx rfl (hb hby d2_55) rfl ?_
      show own_S p e below s₁ m 56 #[iv (7 : Int32)] [(.int (7 : Int32))] _
      refine XS.bipush X0.here hx rfl (hb hby d2_56) ?_
      show own_S p e below s₁ m 58 #[iv (7 : Int32)] [(.int (7 : Int32)), (.int (7 : Int32))] _
      refine XS.icmpNo X0.here hx rfl (hb hby d2_58) rfl (teq (by decide : (7 : Int32) = (7 : Int32))).2 ?_
      show own_S p e below s₁ m 61 #[iv (7 : Int32)] [] _
      refine st13 _ ?_
      exact k)
    obtain ⟨fs, hr, hrun, hended, hW, hsame⟩ := X13.leave (v := some (.ref en7)) (fun h => by rw [Bd.returns] at h; cases h)
    refine ⟨_, _, pre14 _ ?_, hrun, hended, _, _, rfl, ?_, ⟨_, rfl⟩, hW, hsame.mono (by decide) (by decide)⟩
    · show own_S p e below T13 m 64 #[iv (7 : Int32)] [(.ref en7)] _
      exact retOut X13 hx (t := (.object "com/example/broker/broker/wire/Command")) Bd.returns rfl (Or.inr (Or.inr (Or.inr (Or.inr ⟨rfl, rfl, rfl⟩)))) (hb hby d2_64) hr
    · show Q2 Z (7 : Int32) en1 en2 en3 en4 en5 en6 en7 en8 aA kA h0 n0 _ T13.heap _
      rw [e13]
      exact ⟨rfl, N0, rfl⟩
  ·  -- case
    obtain ⟨T15, X15, e15, st15⟩ := getS2 X0 hx hZ hown (host := "") (Or.inl (hw _ (List.mem_of_getElem? (i := 32) rfl))) Via.refl e0 S_en8 (g := (mkF m 71 #[iv (8 : Int32)] [])) rfl (hb hby d2_71)
    have pre16 : ∀ t, own_S p e below T15 m 74 #[iv (8 : Int32)] [(.ref en8)] t → Steps p.tables e below (s₁.setTop (entryFrame m #[(.int (8 : Int32))] 1)) t := fun t k => pre0 t (by
      show own_S p e below s₁ m 0 #[iv (8 : Int32)] [] _
      refine XS.iloadN X0.here hx rfl (hb hby d2_0) rfl ?_
      show own_S p e below s₁ m 1 #[iv (8 : Int32)] [(.int (8 : Int32))] _
      refine XS.iconst X0.here hx rfl (hb hby d2_1) ?_
      show own_S p e below s₁ m 2 #[iv (8 : Int32)] [(.int (1 : Int32)), (.int (8 : Int32))] _
      refine XS.icmpYes X0.here hx rfl (pc0 := 2) (pc' := 9) rfl (hb hby d2_2) rfl (feq (by decide : ¬ ((8 : Int32) = (1 : Int32)))).2 (by decide) (by decide) ?_
      show own_S p e below s₁ m 9 #[iv (8 : Int32)] [] _
      refine XS.iloadN X0.here hx rfl (hb hby d2_9) rfl ?_
      show own_S p e below s₁ m 10 #[iv (8 : Int32)] [(.int (8 : Int32))] _
      refine XS.iconst X0.here hx rfl (hb hby d2_10) ?_
      show own_S p e below s₁ m 11 #[iv (8 : Int32)] [(.int (2 : Int32)), (.int (8 : Int32))] _
      refine XS.icmpYes X0.here hx rfl (pc0 := 11) (pc' := 18) rfl (hb hby d2_11) rfl (feq (by decide : ¬ ((8 : Int32) = (2 : Int32)))).2 (by decide) (by decide) ?_
      show own_S p e below s₁ m 18 #[iv (8 : Int32)] [] _
      refine XS.iloadN X0.here hx rfl (hb hby d2_18) rfl ?_
      show own_S p e below s₁ m 19 #[iv (8 : Int32)] [(.int (8 : Int32))] _
      refine XS.iconst X0.here hx rfl (hb hby d2_19) ?_
      show own_S p e below s₁ m 20 #[iv (8 : Int32)] [(.int (3 : Int32)), (.int (8 : Int32))] _
      refine XS.icmpYes X0.here hx rfl (pc0 := 20) (pc' := 27) rfl (hb hby d2_20) rfl (feq (by decide : ¬ ((8 : Int32) = (3 : Int32)))).2 (by decide) (by decide) ?_
      show own_S p e below s₁ m 27 #[iv (8 : Int32)] [] _
      refine XS.iloadN X0.here hx rfl (hb hby d2_27) rfl ?_
      show own_S p e below s₁ m 28 #[iv (8 : Int32)] [(.int (8 : Int32))] _
      refine XS.iconst X0.here hx rfl (hb hby d2_28) ?_
      show own_S p e below s₁ m 29 #[iv (8 : Int32)] [(.int (4 : Int32)), (.int (8 : Int32))] _
      refine XS.icmpYes X0.here hx rfl (pc0 := 29) (pc' := 36) rfl (hb hby d2_29) rfl (feq (by decide : ¬ ((8 : Int32) = (4 : Int32)))).2 (by decide) (by decide) ?_
      show own_S p e below s₁ m 36 #[iv (8 : Int32)] [] _
      refine XS.iloadN X0.here hx rfl (hb hby d2_36) rfl ?_
      show own_S p e below s₁ m 37 #[iv (8 : Int32)] [(.int (8 : Int32))] _
      refine XS.iconst X0.here hx rfl (hb hby d2_37) ?_
      show own_S p e below s₁ m 38 #[iv (8 : Int32)] [(.int (5 : Int32)), (.int (8 : Int32))] _
      refine XS.icmpYes X0.here hx rfl (pc0 := 38) (pc' := 45) rfl (hb hby d2_38) rfl (feq (by decide : ¬ ((8 : Int32) = (5 : Int32)))).2 (by decide) (by decide) ?_
      show own_S p e below s₁ m 45 #[iv (8 : Int32)] [] _
      refine XS.iloadN X0.here hx rfl (hb hby d2_45) rfl ?_
      show own_S p e below s₁ m 46 #[iv (8 : Int32)] [(.int (8 : Int32))] _
      refine XS.bipush X0.here hx rfl (hb hby d2_46) ?_
      show own_S p e below s₁ m 48 #[iv (8 : Int32)] [(.int (6 : Int32)), (.int (8 : Int32))] _
      refine XS.icmpYes X0.here hx rfl (pc0 := 48) (pc' := 55) rfl (hb hby d2_48) rfl (feq (by decide : ¬ ((8 : Int32) = (6 : Int32)))).2 (by decide) (by decide) ?_
      show own_S p e below s₁ m 55 #[iv (8 : Int32)] [] _
      refine XS.iloadN X0.here hx rfl (hb hby d2_55) rfl ?_
      show own_S p e below s₁ m 56 #[iv (8 : Int32)] [(.int (8 : Int32))] _
      refine XS.bipush X0.here hx rfl (hb hby d2_56) ?_
      show own_S p e below s₁ m 58 #[iv (8 : Int32)] [(.int (7 : Int32)), (.int (8 : Int32))] _
      refine XS.icmpYes X0.here hx rfl (pc0 := 58) (pc' := 65) rfl (hb hby d2_58) rfl (feq (by decide : ¬ ((8 : Int32) = (7 : Int32)))).2 (by decide) (by decide) ?_
      show own_S p e below s₁ m 65 #[iv (8 : Int32)] [] _
      refine XS.iloadN X0.here hx rfl (hb hby d2_65) rfl ?_
      show own_S p e below s₁ m 66 #[iv (8 : Int32)] [(.int (8 : Int32))] _
      refine XS.bipush X0.here hx rfl (hb hby d2_66) ?_
      show own_S p e below s₁ m 68 #[iv (8 : Int32)] [(.int (8 : Int32)), (.int (8 : Int32))] _
      refine XS.icmpNo X0.here hx rfl (hb hby d2_68) rfl (teq (by decide : (8 : Int32) = (8 : Int32))).2 ?_
      show own_S p e below s₁ m 71 #[iv (8 : Int32)] [] _
      refine st15 _ ?_
      exact k)
    obtain ⟨fs, hr, hrun, hended, hW, hsame⟩ := X15.leave (v := some (.ref en8)) (fun h => by rw [Bd.returns] at h; cases h)
    refine ⟨_, _, pre16 _ ?_, hrun, hended, _, _, rfl, ?_, ⟨_, rfl⟩, hW, hsame.mono (by decide) (by decide)⟩
    · show own_S p e below T15 m 74 #[iv (8 : Int32)] [(.ref en8)] _
      exact retOut X15 hx (t := (.object "com/example/broker/broker/wire/Command")) Bd.returns rfl (Or.inr (Or.inr (Or.inr (Or.inr ⟨rfl, rfl, rfl⟩)))) (hb hby d2_74) hr
    · show Q2 Z (8 : Int32) en1 en2 en3 en4 en5 en6 en7 en8 aA kA h0 n0 _ T15.heap _
      rw [e15]
      exact ⟨rfl, N0, rfl⟩
  ·  -- case
    obtain ⟨q1, q2, q3, q4, q5, q6, q7, q8⟩ := own_outs hout
    have pre17 : ∀ t, own_S p e below s₁ m 76 #[iv p1] [.null] t → Steps p.tables e below (s₁.setTop (entryFrame m #[(.int p1)] 1)) t := fun t k => pre0 t (by
      show own_S p e below s₁ m 0 #[iv p1] [] _
      refine XS.iloadN X0.here hx rfl (hb hby d2_0) rfl ?_
      show own_S p e below s₁ m 1 #[iv p1] [(.int p1)] _
      refine XS.iconst X0.here hx rfl (hb hby d2_1) ?_
      show own_S p e below s₁ m 2 #[iv p1] [(.int (1 : Int32)), (.int p1)] _
      refine XS.icmpYes X0.here hx rfl (pc0 := 2) (pc' := 9) rfl (hb hby d2_2) rfl (feq q1).2 (by decide) (by decide) ?_
      show own_S p e below s₁ m 9 #[iv p1] [] _
      refine XS.iloadN X0.here hx rfl (hb hby d2_9) rfl ?_
      show own_S p e below s₁ m 10 #[iv p1] [(.int p1)] _
      refine XS.iconst X0.here hx rfl (hb hby d2_10) ?_
      show own_S p e below s₁ m 11 #[iv p1] [(.int (2 : Int32)), (.int p1)] _
      refine XS.icmpYes X0.here hx rfl (pc0 := 11) (pc' := 18) rfl (hb hby d2_11) rfl (feq q2).2 (by decide) (by decide) ?_
      show own_S p e below s₁ m 18 #[iv p1] [] _
      refine XS.iloadN X0.here hx rfl (hb hby d2_18) rfl ?_
      show own_S p e below s₁ m 19 #[iv p1] [(.int p1)] _
      refine XS.iconst X0.here hx rfl (hb hby d2_19) ?_
      show own_S p e below s₁ m 20 #[iv p1] [(.int (3 : Int32)), (.int p1)] _
      refine XS.icmpYes X0.here hx rfl (pc0 := 20) (pc' := 27) rfl (hb hby d2_20) rfl (feq q3).2 (by decide) (by decide) ?_
      show own_S p e below s₁ m 27 #[iv p1] [] _
      refine XS.iloadN X0.here hx rfl (hb hby d2_27) rfl ?_
      show own_S p e below s₁ m 28 #[iv p1] [(.int p1)] _
      refine XS.iconst X0.here hx rfl (hb hby d2_28) ?_
      show own_S p e below s₁ m 29 #[iv p1] [(.int (4 : Int32)), (.int p1)] _
      refine XS.icmpYes X0.here hx rfl (pc0 := 29) (pc' := 36) rfl (hb hby d2_29) rfl (feq q4).2 (by decide) (by decide) ?_
      show own_S p e below s₁ m 36 #[iv p1] [] _
      refine XS.iloadN X0.here hx rfl (hb hby d2_36) rfl ?_
      show own_S p e below s₁ m 37 #[iv p1] [(.int p1)] _
      refine XS.iconst X0.here hx rfl (hb hby d2_37) ?_
      show own_S p e below s₁ m 38 #[iv p1] [(.int (5 : Int32)), (.int p1)] _
      refine XS.icmpYes X0.here hx rfl (pc0 := 38) (pc' := 45) rfl (hb hby d2_38) rfl (feq q5).2 (by decide) (by decide) ?_
      show own_S p e below s₁ m 45 #[iv p1] [] _
      refine XS.iloadN X0.here hx rfl (hb hby d2_45) rfl ?_
      show own_S p e below s₁ m 46 #[iv p1] [(.int p1)] _
      refine XS.bipush X0.here hx rfl (hb hby d2_46) ?_
      show own_S p e below s₁ m 48 #[iv p1] [(.int (6 : Int32)), (.int p1)] _
      refine XS.icmpYes X0.here hx rfl (pc0 := 48) (pc' := 55) rfl (hb hby d2_48) rfl (feq q6).2 (by decide) (by decide) ?_
      show own_S p e below s₁ m 55 #[iv p1] [] _
      refine XS.iloadN X0.here hx rfl (hb hby d2_55) rfl ?_
      show own_S p e below s₁ m 56 #[iv p1] [(.int p1)] _
      refine XS.bipush X0.here hx rfl (hb hby d2_56) ?_
      show own_S p e below s₁ m 58 #[iv p1] [(.int (7 : Int32)), (.int p1)] _
      refine XS.icmpYes X0.here hx rfl (pc0 := 58) (pc' := 65) rfl (hb hby d2_58) rfl (feq q7).2 (by decide) (by decide) ?_
      show own_S p e below s₁ m 65 #[iv p1] [] _
      refine XS.iloadN X0.here hx rfl (hb hby d2_65) rfl ?_
      show own_S p e below s₁ m 66 #[iv p1] [(.int p1)] _
      refine XS.bipush X0.here hx rfl (hb hby d2_66) ?_
      show own_S p e below s₁ m 68 #[iv p1] [(.int (8 : Int32)), (.int p1)] _
      refine XS.icmpYes X0.here hx rfl (pc0 := 68) (pc' := 75) rfl (hb hby d2_68) rfl (feq q8).2 (by decide) (by decide) ?_
      show own_S p e below s₁ m 75 #[iv p1] [] _
      refine XS.aconstNull X0.here hx rfl (hb hby d2_75) ?_
      exact k)
    obtain ⟨fs, hr, hrun, hended, hW, hsame⟩ := X0.leave (v := some .null) (fun h => by rw [Bd.returns] at h; cases h)
    refine ⟨_, _, pre17 _ ?_, hrun, hended, _, _, rfl, ?_, ⟨_, rfl⟩, hW, hsame.mono (by decide) (by decide)⟩
    · show own_S p e below s₁ m 76 #[iv p1] [.null] _
      exact retOut X0 hx (t := (.object "com/example/broker/broker/wire/Command")) Bd.returns rfl (Or.inr (Or.inr (Or.inr (Or.inr ⟨rfl, rfl, rfl⟩)))) (hb hby d2_76) hr
    · show Q2 Z p1 en1 en2 en3 en4 en5 en6 en7 en8 aA kA h0 n0 _ s₁.heap _
      rw [e0]
      exact ⟨by rw [own_null hout], N0, rfl⟩
theorem ef_3 (m : MethodId) (a1 : Addr) : entryFrame m #[(.ref a1)] 1 = mkF m 0 #[rv a1] [] := by first | (simp [entryFrame, mkF, argsToLocals, Value.category]; done) | rfl
def Q3 (Z : State) (a1 : Addr) (p2 : Int32) (h0 : Heap) (n0 : Nat) (v : Option Value) (h : Heap) (L : List Loc) : Prop := v = some (.int p2) ∧ Fr n0 L ∧ h = h0
theorem d3_0 : decode prog_24_method_4_code 0 = .ok (.aload_n 0, 1) := by decide +kernel
theorem d3_1 : decode prog_24_method_4_code 1 = .ok (.getfield 47, 3) := by decide +kernel
theorem d3_4 : decode prog_24_method_4_code 4 = .ok (.ireturn, 1) := by decide +kernel
set_option maxRecDepth 65536 in
set_option maxHeartbeats 40000000 in
theorem rm3 (l : Launch) (Z : State) (a0 : Array Value) (hw : ∀ d ∈ tables_1, d.before a0 Z = true) (ws : List Jvm.Cond) (a1 : Addr) (p2 : Int32) (h0 : Heap) (n0 : Nat) (Z0 : n0 ≤ h0.size) (F_a1 : Fld Z h0 a1 "com/example/broker/broker/wire/Command" "code" "I" (.int p2)) :
    MetFree l (⟨"com/example/broker/broker/wire/Command", "code", "()I"⟩ : MethodName) (head1 (Jvm.Cond.code (⟨"com/example/broker/broker/wire/Command", "code", "()I"⟩ : MethodName) prog_24_method_4_code 1 (some .int) :: ws) ({ frames := 0, cells := 0, slots := 0, locals := 0 } : Room)) (fun a U => a = #[(.ref a1)] ∧ Z.Warmed39 U.vm ∧ U.heap = h0) (fun _ _ _ _ _ => True) (fun _ U o U' => ∃ v L, o = .returned v ∧ Q3 Z a1 p2 h0 n0 v U'.heap L ∧ FrameEnd U o U' L ({ frames := 0, cells := 0, slots := 0, locals := 0 } : Room).cells ({ frames := 0, cells := 0, slots := 0, locals := 0 } : Room).slots) := by
  refine MetFree.of_bodySF (plainFor_of_name pn_0) hisR ?_
  intro p e s m args below meth c s₁ Bd hml0 hP hK
  obtain ⟨rfl, hZ, hh⟩ := hP
  have hx := Bd.exec
  have hby := Bd.bytes
  have hml : c.maxLocals = 1 := hml0
  have hown : s.vm.findClass "com/example/broker/broker/wire/Command" = some m.cls := findClass_of_methodNamed Bd.named
  have hnm := (name_of_methodNamed Bd.named Bd.method).1
  have X0 : Stand p l e ({ frames := 0, cells := 0, slots := 0, locals := 0 } : Room) s m #[(.ref a1)] below meth c s₁ [] 0 0 := Stand.of_body Bd
  have e0 : s₁.heap = h0 := by rw [← hh, Bd.state]; rfl
  have N0 := Fr.nil n0
  have pre0 : ∀ t, Steps p.tables e below (s₁.setTop (mkF m 0 #[rv a1] [])) t → Steps p.tables e below (s₁.setTop (entryFrame m #[(.ref a1)] 1)) t := fun t k => castTop (ef_3 m a1) k
  obtain ⟨T1, X1, e1, st1⟩ := getF X0 hx hZ hown (host := "") (Or.inl (hw _ (List.mem_of_getElem? (i := 8) rfl))) Via.refl e0 F_a1 (g := (mkF m 1 #[rv a1] [(.ref a1)])) rfl rfl (hb hby d3_1)
  have pre2 : ∀ t, own_S p e below T1 m 4 #[rv a1] [(.int p2)] t → Steps p.tables e below (s₁.setTop (entryFrame m #[(.ref a1)] 1)) t := fun t k => pre0 t (by
    show own_S p e below s₁ m 0 #[rv a1] [] _
    refine XS.aloadN X0.here hx rfl (hb hby d3_0) rfl rfl ?_
    show own_S p e below s₁ m 1 #[rv a1] [(.ref a1)] _
    refine st1 _ ?_
    exact k)
  obtain ⟨fs, hr, hrun, hended, hW, hsame⟩ := X1.leave (v := some (.int p2)) (fun h => by rw [Bd.returns] at h; cases h)
  refine ⟨_, _, pre2 _ ?_, hrun, hended, _, _, rfl, ?_, ⟨_, rfl⟩, hW, hsame.mono (by decide) (by decide)⟩
  · show own_S p e below T1 m 4 #[rv a1] [(.int p2)] _
    exact retI X1 hx Bd.returns (hb hby d3_4) hr
  · show Q3 Z a1 p2 h0 n0 _ T1.heap _
    rw [e1]
    exact ⟨rfl, N0, rfl⟩
theorem ef_0 (m : MethodId) (p1 : Int32) (p2 : Int32) : entryFrame m #[(.int p1), (.int p2)] maxLocals = mkF m 0 #[iv p1, iv p2, .unset, .unset, .unset] [] := by first | (simp [entryFrame, mkF, argsToLocals, Value.category, maxLocals]; done) | rfl
def Q0 (Z : State) (p1 : Int32) (p2 : Int32) (en1 : Addr) (en2 : Addr) (en3 : Addr) (en4 : Addr) (en5 : Addr) (en6 : Addr) (en7 : Addr) (en8 : Addr) (aA : Addr) (kA : ClassId) (h0 : Heap) (n0 : Nat) (v : Option Value) (h : Heap) (L : List Loc) : Prop := v = some (.int 1) ∧ Fr n0 L
theorem pd_0 : parseMethodDescriptor "(I)Lcom/example/broker/broker/wire/Command;" = some ⟨[.int], some (.object "com/example/broker/broker/wire/Command")⟩ := by decide +kernel
theorem pd_1 : parseMethodDescriptor "()I" = some ⟨[], some .int⟩ := by decide +kernel
set_option maxRecDepth 65536 in
set_option maxHeartbeats 40000000 in
theorem rm0 (l : Launch) (Z : State) (a0 : Array Value) (hw : ∀ d ∈ tables_1, d.before a0 Z = true) (ws : List Jvm.Cond) (p1 : Int32) (p2 : Int32) (en1 : Addr) (en2 : Addr) (en3 : Addr) (en4 : Addr) (en5 : Addr) (en6 : Addr) (en7 : Addr) (en8 : Addr) (aA : Addr) (kA : ClassId) (h0 : Heap) (n0 : Nat) (Z0 : n0 ≤ h0.size) (S_en1 : Sta Z h0 "com/example/broker/broker/wire/Command" "SEND" "Lcom/example/broker/broker/wire/Command;" (.ref en1)) (S_en2 : Sta Z h0 "com/example/broker/broker/wire/Command" "READ" "Lcom/example/broker/broker/wire/Command;" (.ref en2)) (S_en3 : Sta Z h0 "com/example/broker/broker/wire/Command" "SUBSCRIBE" "Lcom/example/broker/broker/wire/Command;" (.ref en3)) (S_en4 : Sta Z h0 "com/example/broker/broker/wire/Command" "DELIVER" "Lcom/example/broker/broker/wire/Command;" (.ref en4)) (S_en5 : Sta Z h0 "com/example/broker/broker/wire/Command" "ACK" "Lcom/example/broker/broker/wire/Command;" (.ref en5)) (S_en6 : Sta Z h0 "com/example/broker/broker/wire/Command" "UNSUBSCRIBE" "Lcom/example/broker/broker/wire/Command;" (.ref en6)) (S_en7 : Sta Z h0 "com/example/broker/broker/wire/Command" "STATS" "Lcom/example/broker/broker/wire/Command;" (.ref en7)) (S_en8 : Sta Z h0 "com/example/broker/broker/wire/Command" "ACK_EACH" "Lcom/example/broker/broker/wire/Command;" (.ref en8)) (S_A : Sta Z h0 "com/example/broker/broker/wire/Command" "ALL" "[Lcom/example/broker/broker/wire/Command;" (.ref aA)) (V_A : Arv Z h0 aA kA (.object "com/example/broker/broker/wire/Command") (8 : Int32) [(.ref en1), (.ref en2), (.ref en3), (.ref en4), (.ref en5), (.ref en6), (.ref en7), (.ref en8)] .null) (F_en1 : Fld Z h0 en1 "com/example/broker/broker/wire/Command" "code" "I" (.int (1 : Int32))) (F_en2 : Fld Z h0 en2 "com/example/broker/broker/wire/Command" "code" "I" (.int (2 : Int32))) (F_en3 : Fld Z h0 en3 "com/example/broker/broker/wire/Command" "code" "I" (.int (3 : Int32))) (F_en4 : Fld Z h0 en4 "com/example/broker/broker/wire/Command" "code" "I" (.int (4 : Int32))) (F_en5 : Fld Z h0 en5 "com/example/broker/broker/wire/Command" "code" "I" (.int (5 : Int32))) (F_en6 : Fld Z h0 en6 "com/example/broker/broker/wire/Command" "code" "I" (.int (6 : Int32))) (F_en7 : Fld Z h0 en7 "com/example/broker/broker/wire/Command" "code" "I" (.int (7 : Int32))) (F_en8 : Fld Z h0 en8 "com/example/broker/broker/wire/Command" "code" "I" (.int (8 : Int32))) (E_en1 : Exa Z h0 en1 "com/example/broker/broker/wire/Command") (E_en2 : Exa Z h0 en2 "com/example/broker/broker/wire/Command") (E_en3 : Exa Z h0 en3 "com/example/broker/broker/wire/Command") (E_en4 : Exa Z h0 en4 "com/example/broker/broker/wire/Command") (E_en5 : Exa Z h0 en5 "com/example/broker/broker/wire/Command") (E_en6 : Exa Z h0 en6 "com/example/broker/broker/wire/Command") (E_en7 : Exa Z h0 en7 "com/example/broker/broker/wire/Command") (E_en8 : Exa Z h0 en8 "com/example/broker/broker/wire/Command") :
    MetFree l x (head1 (Jvm.Cond.code x code maxLocals ret :: ws) room_1) (fun a U => a = #[(.int p1), (.int p2)] ∧ Z.Warmed39 U.vm ∧ U.heap = h0) (fun _ _ _ _ _ => True) (fun _ U o U' => ∃ v L, o = .returned v ∧ Q0 Z p1 p2 en1 en2 en3 en4 en5 en6 en7 en8 aA kA h0 n0 v U'.heap L ∧ FrameEnd U o U' L room_1.cells room_1.slots) := by
  refine MetFree.of_bodySF (plainFor_of_name pn_1) hisR ?_
  intro p e s m args below meth c s₁ Bd hml0 hP hK
  obtain ⟨rfl, hZ, hh⟩ := hP
  have hx := Bd.exec
  have hby := Bd.bytes
  have hml : c.maxLocals = 5 := hml0
  have hown : s.vm.findClass "com/example/broker/broker/wire/CommandOfPinLaw" = some m.cls := findClass_of_methodNamed Bd.named
  have hnm := (name_of_methodNamed Bd.named Bd.method).1
  have X0 : Stand p l e room_1 s m #[(.int p1), (.int p2)] below meth c s₁ [] 0 0 := Stand.of_body Bd
  have e0 : s₁.heap = h0 := by rw [← hh, Bd.state]; rfl
  have N0 := Fr.nil n0
  have pre0 : ∀ t, Steps p.tables e below (s₁.setTop (mkF m 0 #[iv p1, iv p2, .unset, .unset, .unset] [])) t → Steps p.tables e below (s₁.setTop (entryFrame m #[(.int p1), (.int p2)] maxLocals)) t := fun t k => castTop (ef_0 m p1 p2) k
  obtain ⟨cv, h_cv, prej1⟩ : ∃ cv : Int32, (True) ∧ ∀ t, own_S p e below s₁ m 28 #[iv p1, iv p2, iv cv, .unset, .unset] [] t → Steps p.tables e below (s₁.setTop (entryFrame m #[(.int p1), (.int p2)] maxLocals)) t := by
    have pre3 : ∀ t, own_S p e below s₁ m 3 #[iv p1, iv p2, .unset, .unset, .unset] [(.int (p2 &&& (1 : Int32)))] t → Steps p.tables e below (s₁.setTop (entryFrame m #[(.int p1), (.int p2)] maxLocals)) t := fun t k => pre0 t (by
      show own_S p e below s₁ m 0 #[iv p1, iv p2, .unset, .unset, .unset] [] _
      refine XS.iloadN X0.here hx rfl (hb hby at_0) rfl ?_
      show own_S p e below s₁ m 1 #[iv p1, iv p2, .unset, .unset, .unset] [(.int p2)] _
      refine XS.iconst X0.here hx rfl (hb hby at_1) ?_
      show own_S p e below s₁ m 2 #[iv p1, iv p2, .unset, .unset, .unset] [(.int (1 : Int32)), (.int p2)] _
      refine XS.iand X0.here hx rfl (hb hby at_2) rfl ?_
      exact k)
    by_cases hc3_2 : (p2 &&& (1 : Int32)) = (0 : Int32)
    ·  -- pc 3 yes
      have pre5 : ∀ t, own_S p e below s₁ m 20 #[iv p1, iv p2, iv p1, .unset, .unset] [(.int (p2 &&& (2 : Int32)))] t → Steps p.tables e below (s₁.setTop (entryFrame m #[(.int p1), (.int p2)] maxLocals)) t := fun t k => pre3 t (by
        show own_S p e below s₁ m 3 #[iv p1, iv p2, .unset, .unset, .unset] [(.int (p2 &&& (1 : Int32)))] _
        refine XS.ifYes X0.here hx rfl (pc0 := 3) (pc' := 15) rfl (hb hby at_3) rfl ((if0 _ _).trans (teq hc3_2).1) (by decide) (by decide) ?_
        show own_S p e below s₁ m 15 #[iv p1, iv p2, .unset, .unset, .unset] [] _
        refine XS.iloadN X0.here hx rfl (hb hby at_15) rfl ?_
        show own_S p e below s₁ m 16 #[iv p1, iv p2, .unset, .unset, .unset] [(.int p1)] _
        refine XS.istoreN X0.here hx rfl (hb hby at_16) rfl (l' := #[iv p1, iv p2, iv p1, .unset, .unset]) rfl ?_
        show own_S p e below s₁ m 17 #[iv p1, iv p2, iv p1, .unset, .unset] [] _
        refine XS.iloadN X0.here hx rfl (hb hby at_17) rfl ?_
        show own_S p e below s₁ m 18 #[iv p1, iv p2, iv p1, .unset, .unset] [(.int p2)] _
        refine XS.iconst X0.here hx rfl (hb hby at_18) ?_
        show own_S p e below s₁ m 19 #[iv p1, iv p2, iv p1, .unset, .unset] [(.int (2 : Int32)), (.int p2)] _
        refine XS.iand X0.here hx rfl (hb hby at_19) rfl ?_
        exact k)
      by_cases hc20_4 : (p2 &&& (2 : Int32)) = (0 : Int32)
      ·  -- pc 20 yes
        have pre6 : ∀ t, own_S p e below s₁ m 28 #[iv p1, iv p2, iv p1, .unset, .unset] [] t → Steps p.tables e below (s₁.setTop (entryFrame m #[(.int p1), (.int p2)] maxLocals)) t := fun t k => pre5 t (by
          show own_S p e below s₁ m 20 #[iv p1, iv p2, iv p1, .unset, .unset] [(.int (p2 &&& (2 : Int32)))] _
          refine XS.ifYes X0.here hx rfl (pc0 := 20) (pc' := 28) rfl (hb hby at_20) rfl ((if0 _ _).trans (teq hc20_4).1) (by decide) (by decide) ?_
          exact k)
        exact ⟨p1, trivial, pre6⟩
      ·  -- pc 20 no
        have pre7 : ∀ t, own_S p e below s₁ m 28 #[iv p1, iv p2, iv (p1 ^^^ (32768 : Int32)), .unset, .unset] [] t → Steps p.tables e below (s₁.setTop (entryFrame m #[(.int p1), (.int p2)] maxLocals)) t := fun t k => pre5 t (by
          show own_S p e below s₁ m 20 #[iv p1, iv p2, iv p1, .unset, .unset] [(.int (p2 &&& (2 : Int32)))] _
          refine XS.ifNo X0.here hx rfl (hb hby at_20) rfl ((if0 _ _).trans (feq hc20_4).1) ?_
          show own_S p e below s₁ m 23 #[iv p1, iv p2, iv p1, .unset, .unset] [] _
          refine XS.iloadN X0.here hx rfl (hb hby at_23) rfl ?_
          show own_S p e below s₁ m 24 #[iv p1, iv p2, iv p1, .unset, .unset] [(.int p1)] _
          refine X0.ldcInt hx hown (mvT hZ (hw _ (List.mem_of_getElem? (i := 0) rfl))) (g := (mkF m 24 #[iv p1, iv p2, iv p1, .unset, .unset] [(.int p1)])) rfl (hb hby at_24) _ ?_
          show own_S p e below s₁ m 26 #[iv p1, iv p2, iv p1, .unset, .unset] [(.int (32768 : Int32)), (.int p1)] _
          refine XS.ixor X0.here hx rfl (hb hby at_26) rfl ?_
          show own_S p e below s₁ m 27 #[iv p1, iv p2, iv p1, .unset, .unset] [(.int (p1 ^^^ (32768 : Int32)))] _
          refine XS.istoreN X0.here hx rfl (hb hby at_27) rfl (l' := #[iv p1, iv p2, iv (p1 ^^^ (32768 : Int32)), .unset, .unset]) rfl ?_
          exact k)
        exact ⟨(p1 ^^^ (32768 : Int32)), trivial, pre7⟩
    ·  -- pc 3 no
      have pre9 : ∀ t, own_S p e below s₁ m 20 #[iv p1, iv p2, iv ((p1 &&& (15 : Int32)) - (2 : Int32)), .unset, .unset] [(.int (p2 &&& (2 : Int32)))] t → Steps p.tables e below (s₁.setTop (entryFrame m #[(.int p1), (.int p2)] maxLocals)) t := fun t k => pre3 t (by
        show own_S p e below s₁ m 3 #[iv p1, iv p2, .unset, .unset, .unset] [(.int (p2 &&& (1 : Int32)))] _
        refine XS.ifNo X0.here hx rfl (hb hby at_3) rfl ((if0 _ _).trans (feq hc3_2).1) ?_
        show own_S p e below s₁ m 6 #[iv p1, iv p2, .unset, .unset, .unset] [] _
        refine XS.iloadN X0.here hx rfl (hb hby at_6) rfl ?_
        show own_S p e below s₁ m 7 #[iv p1, iv p2, .unset, .unset, .unset] [(.int p1)] _
        refine XS.bipush X0.here hx rfl (hb hby at_7) ?_
        show own_S p e below s₁ m 9 #[iv p1, iv p2, .unset, .unset, .unset] [(.int (15 : Int32)), (.int p1)] _
        refine XS.iand X0.here hx rfl (hb hby at_9) rfl ?_
        show own_S p e below s₁ m 10 #[iv p1, iv p2, .unset, .unset, .unset] [(.int (p1 &&& (15 : Int32)))] _
        refine XS.iconst X0.here hx rfl (hb hby at_10) ?_
        show own_S p e below s₁ m 11 #[iv p1, iv p2, .unset, .unset, .unset] [(.int (2 : Int32)), (.int (p1 &&& (15 : Int32)))] _
        refine XS.isub X0.here hx rfl (hb hby at_11) rfl ?_
        show own_S p e below s₁ m 12 #[iv p1, iv p2, .unset, .unset, .unset] [(.int ((p1 &&& (15 : Int32)) - (2 : Int32)))] _
        refine XS.goto X0.here hx rfl (pc0 := 12) (pc' := 16) rfl (hb hby at_12) (by decide) (by decide) ?_
        show own_S p e below s₁ m 16 #[iv p1, iv p2, .unset, .unset, .unset] [(.int ((p1 &&& (15 : Int32)) - (2 : Int32)))] _
        refine XS.istoreN X0.here hx rfl (hb hby at_16) rfl (l' := #[iv p1, iv p2, iv ((p1 &&& (15 : Int32)) - (2 : Int32)), .unset, .unset]) rfl ?_
        show own_S p e below s₁ m 17 #[iv p1, iv p2, iv ((p1 &&& (15 : Int32)) - (2 : Int32)), .unset, .unset] [] _
        refine XS.iloadN X0.here hx rfl (hb hby at_17) rfl ?_
        show own_S p e below s₁ m 18 #[iv p1, iv p2, iv ((p1 &&& (15 : Int32)) - (2 : Int32)), .unset, .unset] [(.int p2)] _
        refine XS.iconst X0.here hx rfl (hb hby at_18) ?_
        show own_S p e below s₁ m 19 #[iv p1, iv p2, iv ((p1 &&& (15 : Int32)) - (2 : Int32)), .unset, .unset] [(.int (2 : Int32)), (.int p2)] _
        refine XS.iand X0.here hx rfl (hb hby at_19) rfl ?_
        exact k)
      by_cases hc20_8 : (p2 &&& (2 : Int32)) = (0 : Int32)
      ·  -- pc 20 yes
        have pre10 : ∀ t, own_S p e below s₁ m 28 #[iv p1, iv p2, iv ((p1 &&& (15 : Int32)) - (2 : Int32)), .unset, .unset] [] t → Steps p.tables e below (s₁.setTop (entryFrame m #[(.int p1), (.int p2)] maxLocals)) t := fun t k => pre9 t (by
          show own_S p e below s₁ m 20 #[iv p1, iv p2, iv ((p1 &&& (15 : Int32)) - (2 : Int32)), .unset, .unset] [(.int (p2 &&& (2 : Int32)))] _
          refine XS.ifYes X0.here hx rfl (pc0 := 20) (pc' := 28) rfl (hb hby at_20) rfl ((if0 _ _).trans (teq hc20_8).1) (by decide) (by decide) ?_
          exact k)
        exact ⟨((p1 &&& (15 : Int32)) - (2 : Int32)), trivial, pre10⟩
      ·  -- pc 20 no
        have pre11 : ∀ t, own_S p e below s₁ m 28 #[iv p1, iv p2, iv (((p1 &&& (15 : Int32)) - (2 : Int32)) ^^^ (32768 : Int32)), .unset, .unset] [] t → Steps p.tables e below (s₁.setTop (entryFrame m #[(.int p1), (.int p2)] maxLocals)) t := fun t k => pre9 t (by
          show own_S p e below s₁ m 20 #[iv p1, iv p2, iv ((p1 &&& (15 : Int32)) - (2 : Int32)), .unset, .unset] [(.int (p2 &&& (2 : Int32)))] _
          refine XS.ifNo X0.here hx rfl (hb hby at_20) rfl ((if0 _ _).trans (feq hc20_8).1) ?_
          show own_S p e below s₁ m 23 #[iv p1, iv p2, iv ((p1 &&& (15 : Int32)) - (2 : Int32)), .unset, .unset] [] _
          refine XS.iloadN X0.here hx rfl (hb hby at_23) rfl ?_
          show own_S p e below s₁ m 24 #[iv p1, iv p2, iv ((p1 &&& (15 : Int32)) - (2 : Int32)), .unset, .unset] [(.int ((p1 &&& (15 : Int32)) - (2 : Int32)))] _
          refine X0.ldcInt hx hown (mvT hZ (hw _ (List.mem_of_getElem? (i := 0) rfl))) (g := (mkF m 24 #[iv p1, iv p2, iv ((p1 &&& (15 : Int32)) - (2 : Int32)), .unset, .unset] [(.int ((p1 &&& (15 : Int32)) - (2 : Int32)))])) rfl (hb hby at_24) _ ?_
          show own_S p e below s₁ m 26 #[iv p1, iv p2, iv ((p1 &&& (15 : Int32)) - (2 : Int32)), .unset, .unset] [(.int (32768 : Int32)), (.int ((p1 &&& (15 : Int32)) - (2 : Int32)))] _
          refine XS.ixor X0.here hx rfl (hb hby at_26) rfl ?_
          show own_S p e below s₁ m 27 #[iv p1, iv p2, iv ((p1 &&& (15 : Int32)) - (2 : Int32)), .unset, .unset] [(.int (((p1 &&& (15 : Int32)) - (2 : Int32)) ^^^ (32768 : Int32)))] _
          refine XS.istoreN X0.here hx rfl (hb hby at_27) rfl (l' := #[iv p1, iv p2, iv (((p1 &&& (15 : Int32)) - (2 : Int32)) ^^^ (32768 : Int32)), .unset, .unset]) rfl ?_
          exact k)
        exact ⟨(((p1 &&& (15 : Int32)) - (2 : Int32)) ^^^ (32768 : Int32)), trivial, pre11⟩
  have hsp := own_split cv
  rcases hsp with rfl | rfl | rfl | rfl | rfl | rfl | rfl | rfl | hout
  ·  -- case
    obtain ⟨_, _, ⟨T12, L12, k12, n12⟩, -, X12, ⟨Lc12, hQ12, l12, y12, z12⟩, st12⟩ := Jvm.LawKit.callS X0 hx (y := (⟨"com/example/broker/broker/wire/Command", "of", "(I)Lcom/example/broker/broker/wire/Command;"⟩ : MethodName)) hown (mvT hZ (hw _ (List.mem_of_getElem? (i := 1) rfl))) (mvT hZ (hw _ (List.mem_of_getElem? (i := 2) rfl))) (mvT hZ (hw _ (List.mem_of_getElem? (i := 3) rfl))) (mvT hZ (hw _ (List.mem_of_getElem? (i := 4) rfl))) (by decide) (backOf (W := 0) (rm1 l Z a0 hw [] (1 : Int32) en1 en2 en3 en4 en5 en6 en7 en8 aA kA h0 n0 Z0 S_en1 S_en2 S_en3 S_en4 S_en5 S_en6 S_en7 S_en8 S_A V_A F_en1 F_en2 F_en3 F_en4 F_en5 F_en6 F_en7 F_en8 E_en1 E_en2 E_en3 E_en4 E_en5 E_en6 E_en7 E_en8) hZ (hw _ (List.mem_of_getElem? (i := 4) rfl)) (hw _ (List.mem_of_getElem? (i := 3) rfl)) (by decide) (by decide)) (g := (mkF m 29 #[iv p1, iv p2, iv (1 : Int32), .unset, .unset] [(.int (1 : Int32))])) rfl (by rw [hml]; rfl) (argsL := [(.int (1 : Int32))]) (rest := []) (lenOf pd_0 rfl) rfl (by show 2 * 0 + _ ≤ _; exact Nat.le_of_eq rfl) (hb hby at_29) (fun _ _ => ⟨rfl, e0, (by decide : 0 + 0 ≤ _), (by decide : 0 + 0 ≤ _)⟩)
    dsimp only [Pt.U, Pt.locs, Pt.cells, Pt.slots] at X12 l12 y12 z12 st12 hQ12
    subst l12 y12 z12
    obtain ⟨hv12, N12q, e12q⟩ := hQ12
    have N12 := Fr.app N0 N12q
    rw [show own_ref (1 : Int32) en1 en2 en3 en4 en5 en6 en7 en8 = .ref en1 from rfl] at hv12
    subst hv12
    have e12 : T12.heap = h0 := e12q
    obtain ⟨_, _, ⟨T13, L13, k13, n13⟩, -, X13, ⟨Lc13, hQ13, l13, y13, z13⟩, st13⟩ := Jvm.LawKit.callS X12 hx (y := (⟨"com/example/broker/broker/wire/CommandOfPinLaw", "expected", "(I)Lcom/example/broker/broker/wire/Command;"⟩ : MethodName)) hown (mvT hZ (hw _ (List.mem_of_getElem? (i := 17) rfl))) (mvT hZ (hw _ (List.mem_of_getElem? (i := 18) rfl))) (mvT hZ (hw _ (List.mem_of_getElem? (i := 19) rfl))) (mvT hZ (hw _ (List.mem_of_getElem? (i := 20) rfl))) (by decide) (backOf (W := 0) (rm2 l Z a0 hw [] (1 : Int32) en1 en2 en3 en4 en5 en6 en7 en8 aA kA h0 n0 Z0 S_en1 S_en2 S_en3 S_en4 S_en5 S_en6 S_en7 S_en8 S_A V_A F_en1 F_en2 F_en3 F_en4 F_en5 F_en6 F_en7 F_en8 E_en1 E_en2 E_en3 E_en4 E_en5 E_en6 E_en7 E_en8) hZ (hw _ (List.mem_of_getElem? (i := 20) rfl)) (hw _ (List.mem_of_getElem? (i := 19) rfl)) (by decide) (by decide)) (g := (mkF m 34 #[iv p1, iv p2, iv (1 : Int32), rv en1, .unset] [(.int (1 : Int32))])) rfl (by rw [hml]; rfl) (argsL := [(.int (1 : Int32))]) (rest := []) (lenOf pd_0 rfl) rfl (by show 2 * 0 + _ ≤ _; exact Nat.le_of_eq rfl) (hb hby at_34) (fun _ _ => ⟨rfl, e12, (by decide : 0 + 0 ≤ _), (by decide : 0 + 0 ≤ _)⟩)
    dsimp only [Pt.U, Pt.locs, Pt.cells, Pt.slots] at X13 l13 y13 z13 st13 hQ13
    subst l13 y13 z13
    obtain ⟨hv13, N13q, e13q⟩ := hQ13
    have N13 := Fr.app N12 N13q
    rw [show own_ref (1 : Int32) en1 en2 en3 en4 en5 en6 en7 en8 = .ref en1 from rfl] at hv13
    subst hv13
    have e13 : T13.heap = h0 := e13q
    obtain ⟨cq14, kq14, q14a, q14b, q14c⟩ := isOf hZ e13 E_en1
    obtain ⟨_, _, ⟨T14, L14, k14, n14⟩, -, X14, ⟨Lc14, hQ14, l14, y14, z14⟩, st14⟩ := X13.virtualBack hx (y := (⟨"com/example/broker/broker/wire/Command", "code", "()I"⟩ : MethodName)) (z := (⟨"com/example/broker/broker/wire/Command", "code", "()I"⟩ : MethodName)) hown (mvT hZ (hw _ (List.mem_of_getElem? (i := 22) rfl))) (mvT hZ (hw _ (List.mem_of_getElem? (i := 23) rfl))) (notFace_of_selects (args := #[]) (mvT hZ (hw _ (List.mem_of_getElem? (i := 25) rfl)))) (mvT hZ (hw _ (List.mem_of_getElem? (i := 25) rfl))) (mvT hZ (hw _ (List.mem_of_getElem? (i := 24) rfl))) (by decide) (backOf (W := 0) (rm3 l Z a0 hw [] en1 (1 : Int32) h0 n0 Z0 F_en1) hZ (hw _ (List.mem_of_getElem? (i := 26) rfl)) (hw _ (List.mem_of_getElem? (i := 3) rfl)) (by decide) (by decide)) q14a q14c (g := (mkF m 52 #[iv p1, iv p2, iv (1 : Int32), rv en1, rv en1] [(.ref en1)])) rfl (by rw [hml]; rfl) (Steps.refl _) (argsL := []) (rest := []) (lenOf pd_1 rfl) rfl (by show 2 * 0 + _ ≤ _; exact Nat.le_of_eq rfl) (hb hby at_52) (fun _ _ => ⟨rfl, e13, (by decide : 0 + 0 ≤ _), (by decide : 0 + 0 ≤ _)⟩)
    dsimp only [Pt.U, Pt.locs, Pt.cells, Pt.slots] at X14 l14 y14 z14 st14 hQ14
    subst l14 y14 z14
    obtain ⟨rfl, N14q, e14q⟩ := hQ14
    have N14 := Fr.app N13 N14q
    have e14 : T14.heap = h0 := e14q
    have pre15 : ∀ t, own_S p e below T14 m 62 #[iv p1, iv p2, iv (1 : Int32), rv en1, rv en1] [(.int (1 : Int32))] t → Steps p.tables e below (s₁.setTop (entryFrame m #[(.int p1), (.int p2)] maxLocals)) t := fun t k => prej1 t (by
      show own_S p e below s₁ m 28 #[iv p1, iv p2, iv (1 : Int32), .unset, .unset] [] _
      refine XS.iloadN X0.here hx rfl (hb hby at_28) rfl ?_
      show own_S p e below s₁ m 29 #[iv p1, iv p2, iv (1 : Int32), .unset, .unset] [(.int (1 : Int32))] _
      refine st12 _ ?_
      show own_S p e below T12 m 32 #[iv p1, iv p2, iv (1 : Int32), .unset, .unset] [(.ref en1)] _
      refine XS.astoreN X12.here hx rfl (hb hby at_32) rfl rfl (l' := #[iv p1, iv p2, iv (1 : Int32), rv en1, .unset]) rfl ?_
      show own_S p e below T12 m 33 #[iv p1, iv p2, iv (1 : Int32), rv en1, .unset] [] _
      refine XS.iloadN X12.here hx rfl (hb hby at_33) rfl ?_
      show own_S p e below T12 m 34 #[iv p1, iv p2, iv (1 : Int32), rv en1, .unset] [(.int (1 : Int32))] _
      refine st13 _ ?_
      show own_S p e below T13 m 37 #[iv p1, iv p2, iv (1 : Int32), rv en1, .unset] [(.ref en1)] _
      refine XS.astore X13.here hx rfl (hb hby at_37) rfl rfl (l' := #[iv p1, iv p2, iv (1 : Int32), rv en1, rv en1]) rfl ?_
      show own_S p e below T13 m 39 #[iv p1, iv p2, iv (1 : Int32), rv en1, rv en1] [] _
      refine XS.aloadN X13.here hx rfl (hb hby at_39) rfl rfl ?_
      show own_S p e below T13 m 40 #[iv p1, iv p2, iv (1 : Int32), rv en1, rv en1] [(.ref en1)] _
      refine XS.aload X13.here hx rfl (hb hby at_40) rfl rfl ?_
      show own_S p e below T13 m 42 #[iv p1, iv p2, iv (1 : Int32), rv en1, rv en1] [(.ref en1), (.ref en1)] _
      refine Jvm.RoadKit.acmp (g := (mkF m 42 #[iv p1, iv p2, iv (1 : Int32), rv en1, rv en1] [(.ref en1), (.ref en1)])) X13 hx rfl rfl rfl (pc0 := 42) (pc' := 47) (same := true) rfl (hb hby at_42) rfl (decide_eq_true rfl) (by decide) (by decide) ?_
      show own_S p e below T13 m 47 #[iv p1, iv p2, iv (1 : Int32), rv en1, rv en1] [] _
      refine XS.aloadN X13.here hx rfl (hb hby at_47) rfl rfl ?_
      show own_S p e below T13 m 48 #[iv p1, iv p2, iv (1 : Int32), rv en1, rv en1] [(.ref en1)] _
      refine XS.ifnullNo X13.here hx rfl (hb hby at_48) rfl ?_
      show own_S p e below T13 m 51 #[iv p1, iv p2, iv (1 : Int32), rv en1, rv en1] [] _
      refine XS.aloadN X13.here hx rfl (hb hby at_51) rfl rfl ?_
      show own_S p e below T13 m 52 #[iv p1, iv p2, iv (1 : Int32), rv en1, rv en1] [(.ref en1)] _
      refine st14.trans ?_
      show own_S p e below T14 m 55 #[iv p1, iv p2, iv (1 : Int32), rv en1, rv en1] [(.int (1 : Int32))] _
      refine XS.iloadN X14.here hx rfl (hb hby at_55) rfl ?_
      show own_S p e below T14 m 56 #[iv p1, iv p2, iv (1 : Int32), rv en1, rv en1] [(.int (1 : Int32)), (.int (1 : Int32))] _
      refine XS.icmpYes X14.here hx rfl (pc0 := 56) (pc' := 61) rfl (hb hby at_56) rfl (teq (by decide : (1 : Int32) = (1 : Int32))).1 (by decide) (by decide) ?_
      show own_S p e below T14 m 61 #[iv p1, iv p2, iv (1 : Int32), rv en1, rv en1] [] _
      refine XS.iconst X14.here hx rfl (hb hby at_61) ?_
      exact k)
    obtain ⟨fs, hr, hrun, hended, hW, hsame⟩ := X14.leave (v := some (.int (nar .boolean (1 : Int32)))) (fun h => by rw [Bd.returns] at h; cases h)
    refine ⟨_, _, pre15 _ ?_, hrun, hended, _, _, rfl, ?_, ⟨_, rfl⟩, hW, hsame.mono (by decide) (by decide)⟩
    · show own_S p e below T14 m 62 #[iv p1, iv p2, iv (1 : Int32), rv en1, rv en1] [(.int (1 : Int32))] _
      exact retN X14 hx (t := .boolean) Bd.returns (by simp) (hb hby at_62) hr
    · show Q0 Z p1 p2 en1 en2 en3 en4 en5 en6 en7 en8 aA kA h0 n0 _ T14.heap _
      rw [e14]
      exact ⟨rfl, N14⟩
  ·  -- case
    obtain ⟨_, _, ⟨T16, L16, k16, n16⟩, -, X16, ⟨Lc16, hQ16, l16, y16, z16⟩, st16⟩ := Jvm.LawKit.callS X0 hx (y := (⟨"com/example/broker/broker/wire/Command", "of", "(I)Lcom/example/broker/broker/wire/Command;"⟩ : MethodName)) hown (mvT hZ (hw _ (List.mem_of_getElem? (i := 1) rfl))) (mvT hZ (hw _ (List.mem_of_getElem? (i := 2) rfl))) (mvT hZ (hw _ (List.mem_of_getElem? (i := 3) rfl))) (mvT hZ (hw _ (List.mem_of_getElem? (i := 4) rfl))) (by decide) (backOf (W := 0) (rm1 l Z a0 hw [] (2 : Int32) en1 en2 en3 en4 en5 en6 en7 en8 aA kA h0 n0 Z0 S_en1 S_en2 S_en3 S_en4 S_en5 S_en6 S_en7 S_en8 S_A V_A F_en1 F_en2 F_en3 F_en4 F_en5 F_en6 F_en7 F_en8 E_en1 E_en2 E_en3 E_en4 E_en5 E_en6 E_en7 E_en8) hZ (hw _ (List.mem_of_getElem? (i := 4) rfl)) (hw _ (List.mem_of_getElem? (i := 3) rfl)) (by decide) (by decide)) (g := (mkF m 29 #[iv p1, iv p2, iv (2 : Int32), .unset, .unset] [(.int (2 : Int32))])) rfl (by rw [hml]; rfl) (argsL := [(.int (2 : Int32))]) (rest := []) (lenOf pd_0 rfl) rfl (by show 2 * 0 + _ ≤ _; exact Nat.le_of_eq rfl) (hb hby at_29) (fun _ _ => ⟨rfl, e0, (by decide : 0 + 0 ≤ _), (by decide : 0 + 0 ≤ _)⟩)
    dsimp only [Pt.U, Pt.locs, Pt.cells, Pt.slots] at X16 l16 y16 z16 st16 hQ16
    subst l16 y16 z16
    obtain ⟨hv16, N16q, e16q⟩ := hQ16
    have N16 := Fr.app N0 N16q
    rw [show own_ref (2 : Int32) en1 en2 en3 en4 en5 en6 en7 en8 = .ref en2 from rfl] at hv16
    subst hv16
    have e16 : T16.heap = h0 := e16q
    obtain ⟨_, _, ⟨T17, L17, k17, n17⟩, -, X17, ⟨Lc17, hQ17, l17, y17, z17⟩, st17⟩ := Jvm.LawKit.callS X16 hx (y := (⟨"com/example/broker/broker/wire/CommandOfPinLaw", "expected", "(I)Lcom/example/broker/broker/wire/Command;"⟩ : MethodName)) hown (mvT hZ (hw _ (List.mem_of_getElem? (i := 17) rfl))) (mvT hZ (hw _ (List.mem_of_getElem? (i := 18) rfl))) (mvT hZ (hw _ (List.mem_of_getElem? (i := 19) rfl))) (mvT hZ (hw _ (List.mem_of_getElem? (i := 20) rfl))) (by decide) (backOf (W := 0) (rm2 l Z a0 hw [] (2 : Int32) en1 en2 en3 en4 en5 en6 en7 en8 aA kA h0 n0 Z0 S_en1 S_en2 S_en3 S_en4 S_en5 S_en6 S_en7 S_en8 S_A V_A F_en1 F_en2 F_en3 F_en4 F_en5 F_en6 F_en7 F_en8 E_en1 E_en2 E_en3 E_en4 E_en5 E_en6 E_en7 E_en8) hZ (hw _ (List.mem_of_getElem? (i := 20) rfl)) (hw _ (List.mem_of_getElem? (i := 19) rfl)) (by decide) (by decide)) (g := (mkF m 34 #[iv p1, iv p2, iv (2 : Int32), rv en2, .unset] [(.int (2 : Int32))])) rfl (by rw [hml]; rfl) (argsL := [(.int (2 : Int32))]) (rest := []) (lenOf pd_0 rfl) rfl (by show 2 * 0 + _ ≤ _; exact Nat.le_of_eq rfl) (hb hby at_34) (fun _ _ => ⟨rfl, e16, (by decide : 0 + 0 ≤ _), (by decide : 0 + 0 ≤ _)⟩)
    dsimp only [Pt.U, Pt.locs, Pt.cells, Pt.slots] at X17 l17 y17 z17 st17 hQ17
    subst l17 y17 z17
    obtain ⟨hv17, N17q, e17q⟩ := hQ17
    have N17 := Fr.app N16 N17q
    rw [show own_ref (2 : Int32) en1 en2 en3 en4 en5 en6 en7 en8 = .ref en2 from rfl] at hv17
    subst hv17
    have e17 : T17.heap = h0 := e17q
    obtain ⟨cq18, kq18, q18a, q18b, q18c⟩ := isOf hZ e17 E_en2
    obtain ⟨_, _, ⟨T18, L18, k18, n18⟩, -, X18, ⟨Lc18, hQ18, l18, y18, z18⟩, st18⟩ := X17.virtualBack hx (y := (⟨"com/example/broker/broker/wire/Command", "code", "()I"⟩ : MethodName)) (z := (⟨"com/example/broker/broker/wire/Command", "code", "()I"⟩ : MethodName)) hown (mvT hZ (hw _ (List.mem_of_getElem? (i := 22) rfl))) (mvT hZ (hw _ (List.mem_of_getElem? (i := 23) rfl))) (notFace_of_selects (args := #[]) (mvT hZ (hw _ (List.mem_of_getElem? (i := 25) rfl)))) (mvT hZ (hw _ (List.mem_of_getElem? (i := 25) rfl))) (mvT hZ (hw _ (List.mem_of_getElem? (i := 24) rfl))) (by decide) (backOf (W := 0) (rm3 l Z a0 hw [] en2 (2 : Int32) h0 n0 Z0 F_en2) hZ (hw _ (List.mem_of_getElem? (i := 26) rfl)) (hw _ (List.mem_of_getElem? (i := 3) rfl)) (by decide) (by decide)) q18a q18c (g := (mkF m 52 #[iv p1, iv p2, iv (2 : Int32), rv en2, rv en2] [(.ref en2)])) rfl (by rw [hml]; rfl) (Steps.refl _) (argsL := []) (rest := []) (lenOf pd_1 rfl) rfl (by show 2 * 0 + _ ≤ _; exact Nat.le_of_eq rfl) (hb hby at_52) (fun _ _ => ⟨rfl, e17, (by decide : 0 + 0 ≤ _), (by decide : 0 + 0 ≤ _)⟩)
    dsimp only [Pt.U, Pt.locs, Pt.cells, Pt.slots] at X18 l18 y18 z18 st18 hQ18
    subst l18 y18 z18
    obtain ⟨rfl, N18q, e18q⟩ := hQ18
    have N18 := Fr.app N17 N18q
    have e18 : T18.heap = h0 := e18q
    have pre19 : ∀ t, own_S p e below T18 m 62 #[iv p1, iv p2, iv (2 : Int32), rv en2, rv en2] [(.int (1 : Int32))] t → Steps p.tables e below (s₁.setTop (entryFrame m #[(.int p1), (.int p2)] maxLocals)) t := fun t k => prej1 t (by
      show own_S p e below s₁ m 28 #[iv p1, iv p2, iv (2 : Int32), .unset, .unset] [] _
      refine XS.iloadN X0.here hx rfl (hb hby at_28) rfl ?_
      show own_S p e below s₁ m 29 #[iv p1, iv p2, iv (2 : Int32), .unset, .unset] [(.int (2 : Int32))] _
      refine st16 _ ?_
      show own_S p e below T16 m 32 #[iv p1, iv p2, iv (2 : Int32), .unset, .unset] [(.ref en2)] _
      refine XS.astoreN X16.here hx rfl (hb hby at_32) rfl rfl (l' := #[iv p1, iv p2, iv (2 : Int32), rv en2, .unset]) rfl ?_
      show own_S p e below T16 m 33 #[iv p1, iv p2, iv (2 : Int32), rv en2, .unset] [] _
      refine XS.iloadN X16.here hx rfl (hb hby at_33) rfl ?_
      show own_S p e below T16 m 34 #[iv p1, iv p2, iv (2 : Int32), rv en2, .unset] [(.int (2 : Int32))] _
      refine st17 _ ?_
      show own_S p e below T17 m 37 #[iv p1, iv p2, iv (2 : Int32), rv en2, .unset] [(.ref en2)] _
      refine XS.astore X17.here hx rfl (hb hby at_37) rfl rfl (l' := #[iv p1, iv p2, iv (2 : Int32), rv en2, rv en2]) rfl ?_
      show own_S p e below T17 m 39 #[iv p1, iv p2, iv (2 : Int32), rv en2, rv en2] [] _
      refine XS.aloadN X17.here hx rfl (hb hby at_39) rfl rfl ?_
      show own_S p e below T17 m 40 #[iv p1, iv p2, iv (2 : Int32), rv en2, rv en2] [(.ref en2)] _
      refine XS.aload X17.here hx rfl (hb hby at_40) rfl rfl ?_
      show own_S p e below T17 m 42 #[iv p1, iv p2, iv (2 : Int32), rv en2, rv en2] [(.ref en2), (.ref en2)] _
      refine Jvm.RoadKit.acmp (g := (mkF m 42 #[iv p1, iv p2, iv (2 : Int32), rv en2, rv en2] [(.ref en2), (.ref en2)])) X17 hx rfl rfl rfl (pc0 := 42) (pc' := 47) (same := true) rfl (hb hby at_42) rfl (decide_eq_true rfl) (by decide) (by decide) ?_
      show own_S p e below T17 m 47 #[iv p1, iv p2, iv (2 : Int32), rv en2, rv en2] [] _
      refine XS.aloadN X17.here hx rfl (hb hby at_47) rfl rfl ?_
      show own_S p e below T17 m 48 #[iv p1, iv p2, iv (2 : Int32), rv en2, rv en2] [(.ref en2)] _
      refine XS.ifnullNo X17.here hx rfl (hb hby at_48) rfl ?_
      show own_S p e below T17 m 51 #[iv p1, iv p2, iv (2 : Int32), rv en2, rv en2] [] _
      refine XS.aloadN X17.here hx rfl (hb hby at_51) rfl rfl ?_
      show own_S p e below T17 m 52 #[iv p1, iv p2, iv (2 : Int32), rv en2, rv en2] [(.ref en2)] _
      refine st18.trans ?_
      show own_S p e below T18 m 55 #[iv p1, iv p2, iv (2 : Int32), rv en2, rv en2] [(.int (2 : Int32))] _
      refine XS.iloadN X18.here hx rfl (hb hby at_55) rfl ?_
      show own_S p e below T18 m 56 #[iv p1, iv p2, iv (2 : Int32), rv en2, rv en2] [(.int (2 : Int32)), (.int (2 : Int32))] _
      refine XS.icmpYes X18.here hx rfl (pc0 := 56) (pc' := 61) rfl (hb hby at_56) rfl (teq (by decide : (2 : Int32) = (2 : Int32))).1 (by decide) (by decide) ?_
      show own_S p e below T18 m 61 #[iv p1, iv p2, iv (2 : Int32), rv en2, rv en2] [] _
      refine XS.iconst X18.here hx rfl (hb hby at_61) ?_
      exact k)
    obtain ⟨fs, hr, hrun, hended, hW, hsame⟩ := X18.leave (v := some (.int (nar .boolean (1 : Int32)))) (fun h => by rw [Bd.returns] at h; cases h)
    refine ⟨_, _, pre19 _ ?_, hrun, hended, _, _, rfl, ?_, ⟨_, rfl⟩, hW, hsame.mono (by decide) (by decide)⟩
    · show own_S p e below T18 m 62 #[iv p1, iv p2, iv (2 : Int32), rv en2, rv en2] [(.int (1 : Int32))] _
      exact retN X18 hx (t := .boolean) Bd.returns (by simp) (hb hby at_62) hr
    · show Q0 Z p1 p2 en1 en2 en3 en4 en5 en6 en7 en8 aA kA h0 n0 _ T18.heap _
      rw [e18]
      exact ⟨rfl, N18⟩
  ·  -- case
    obtain ⟨_, _, ⟨T20, L20, k20, n20⟩, -, X20, ⟨Lc20, hQ20, l20, y20, z20⟩, st20⟩ := Jvm.LawKit.callS X0 hx (y := (⟨"com/example/broker/broker/wire/Command", "of", "(I)Lcom/example/broker/broker/wire/Command;"⟩ : MethodName)) hown (mvT hZ (hw _ (List.mem_of_getElem? (i := 1) rfl))) (mvT hZ (hw _ (List.mem_of_getElem? (i := 2) rfl))) (mvT hZ (hw _ (List.mem_of_getElem? (i := 3) rfl))) (mvT hZ (hw _ (List.mem_of_getElem? (i := 4) rfl))) (by decide) (backOf (W := 0) (rm1 l Z a0 hw [] (3 : Int32) en1 en2 en3 en4 en5 en6 en7 en8 aA kA h0 n0 Z0 S_en1 S_en2 S_en3 S_en4 S_en5 S_en6 S_en7 S_en8 S_A V_A F_en1 F_en2 F_en3 F_en4 F_en5 F_en6 F_en7 F_en8 E_en1 E_en2 E_en3 E_en4 E_en5 E_en6 E_en7 E_en8) hZ (hw _ (List.mem_of_getElem? (i := 4) rfl)) (hw _ (List.mem_of_getElem? (i := 3) rfl)) (by decide) (by decide)) (g := (mkF m 29 #[iv p1, iv p2, iv (3 : Int32), .unset, .unset] [(.int (3 : Int32))])) rfl (by rw [hml]; rfl) (argsL := [(.int (3 : Int32))]) (rest := []) (lenOf pd_0 rfl) rfl (by show 2 * 0 + _ ≤ _; exact Nat.le_of_eq rfl) (hb hby at_29) (fun _ _ => ⟨rfl, e0, (by decide : 0 + 0 ≤ _), (by decide : 0 + 0 ≤ _)⟩)
    dsimp only [Pt.U, Pt.locs, Pt.cells, Pt.slots] at X20 l20 y20 z20 st20 hQ20
    subst l20 y20 z20
    obtain ⟨hv20, N20q, e20q⟩ := hQ20
    have N20 := Fr.app N0 N20q
    rw [show own_ref (3 : Int32) en1 en2 en3 en4 en5 en6 en7 en8 = .ref en3 from rfl] at hv20
    subst hv20
    have e20 : T20.heap = h0 := e20q
    obtain ⟨_, _, ⟨T21, L21, k21, n21⟩, -, X21, ⟨Lc21, hQ21, l21, y21, z21⟩, st21⟩ := Jvm.LawKit.callS X20 hx (y := (⟨"com/example/broker/broker/wire/CommandOfPinLaw", "expected", "(I)Lcom/example/broker/broker/wire/Command;"⟩ : MethodName)) hown (mvT hZ (hw _ (List.mem_of_getElem? (i := 17) rfl))) (mvT hZ (hw _ (List.mem_of_getElem? (i := 18) rfl))) (mvT hZ (hw _ (List.mem_of_getElem? (i := 19) rfl))) (mvT hZ (hw _ (List.mem_of_getElem? (i := 20) rfl))) (by decide) (backOf (W := 0) (rm2 l Z a0 hw [] (3 : Int32) en1 en2 en3 en4 en5 en6 en7 en8 aA kA h0 n0 Z0 S_en1 S_en2 S_en3 S_en4 S_en5 S_en6 S_en7 S_en8 S_A V_A F_en1 F_en2 F_en3 F_en4 F_en5 F_en6 F_en7 F_en8 E_en1 E_en2 E_en3 E_en4 E_en5 E_en6 E_en7 E_en8) hZ (hw _ (List.mem_of_getElem? (i := 20) rfl)) (hw _ (List.mem_of_getElem? (i := 19) rfl)) (by decide) (by decide)) (g := (mkF m 34 #[iv p1, iv p2, iv (3 : Int32), rv en3, .unset] [(.int (3 : Int32))])) rfl (by rw [hml]; rfl) (argsL := [(.int (3 : Int32))]) (rest := []) (lenOf pd_0 rfl) rfl (by show 2 * 0 + _ ≤ _; exact Nat.le_of_eq rfl) (hb hby at_34) (fun _ _ => ⟨rfl, e20, (by decide : 0 + 0 ≤ _), (by decide : 0 + 0 ≤ _)⟩)
    dsimp only [Pt.U, Pt.locs, Pt.cells, Pt.slots] at X21 l21 y21 z21 st21 hQ21
    subst l21 y21 z21
    obtain ⟨hv21, N21q, e21q⟩ := hQ21
    have N21 := Fr.app N20 N21q
    rw [show own_ref (3 : Int32) en1 en2 en3 en4 en5 en6 en7 en8 = .ref en3 from rfl] at hv21
    subst hv21
    have e21 : T21.heap = h0 := e21q
    obtain ⟨cq22, kq22, q22a, q22b, q22c⟩ := isOf hZ e21 E_en3
    obtain ⟨_, _, ⟨T22, L22, k22, n22⟩, -, X22, ⟨Lc22, hQ22, l22, y22, z22⟩, st22⟩ := X21.virtualBack hx (y := (⟨"com/example/broker/broker/wire/Command", "code", "()I"⟩ : MethodName)) (z := (⟨"com/example/broker/broker/wire/Command", "code", "()I"⟩ : MethodName)) hown (mvT hZ (hw _ (List.mem_of_getElem? (i := 22) rfl))) (mvT hZ (hw _ (List.mem_of_getElem? (i := 23) rfl))) (notFace_of_selects (args := #[]) (mvT hZ (hw _ (List.mem_of_getElem? (i := 25) rfl)))) (mvT hZ (hw _ (List.mem_of_getElem? (i := 25) rfl))) (mvT hZ (hw _ (List.mem_of_getElem? (i := 24) rfl))) (by decide) (backOf (W := 0) (rm3 l Z a0 hw [] en3 (3 : Int32) h0 n0 Z0 F_en3) hZ (hw _ (List.mem_of_getElem? (i := 26) rfl)) (hw _ (List.mem_of_getElem? (i := 3) rfl)) (by decide) (by decide)) q22a q22c (g := (mkF m 52 #[iv p1, iv p2, iv (3 : Int32), rv en3, rv en3] [(.ref en3)])) rfl (by rw [hml]; rfl) (Steps.refl _) (argsL := []) (rest := []) (lenOf pd_1 rfl) rfl (by show 2 * 0 + _ ≤ _; exact Nat.le_of_eq rfl) (hb hby at_52) (fun _ _ => ⟨rfl, e21, (by decide : 0 + 0 ≤ _), (by decide : 0 + 0 ≤ _)⟩)
    dsimp only [Pt.U, Pt.locs, Pt.cells, Pt.slots] at X22 l22 y22 z22 st22 hQ22
    subst l22 y22 z22
    obtain ⟨rfl, N22q, e22q⟩ := hQ22
    have N22 := Fr.app N21 N22q
    have e22 : T22.heap = h0 := e22q
    have pre23 : ∀ t, own_S p e below T22 m 62 #[iv p1, iv p2, iv (3 : Int32), rv en3, rv en3] [(.int (1 : Int32))] t → Steps p.tables e below (s₁.setTop (entryFrame m #[(.int p1), (.int p2)] maxLocals)) t := fun t k => prej1 t (by
      show own_S p e below s₁ m 28 #[iv p1, iv p2, iv (3 : Int32), .unset, .unset] [] _
      refine XS.iloadN X0.here hx rfl (hb hby at_28) rfl ?_
      show own_S p e below s₁ m 29 #[iv p1, iv p2, iv (3 : Int32), .unset, .unset] [(.int (3 : Int32))] _
      refine st20 _ ?_
      show own_S p e below T20 m 32 #[iv p1, iv p2, iv (3 : Int32), .unset, .unset] [(.ref en3)] _
      refine XS.astoreN X20.here hx rfl (hb hby at_32) rfl rfl (l' := #[iv p1, iv p2, iv (3 : Int32), rv en3, .unset]) rfl ?_
      show own_S p e below T20 m 33 #[iv p1, iv p2, iv (3 : Int32), rv en3, .unset] [] _
      refine XS.iloadN X20.here hx rfl (hb hby at_33) rfl ?_
      show own_S p e below T20 m 34 #[iv p1, iv p2, iv (3 : Int32), rv en3, .unset] [(.int (3 : Int32))] _
      refine st21 _ ?_
      show own_S p e below T21 m 37 #[iv p1, iv p2, iv (3 : Int32), rv en3, .unset] [(.ref en3)] _
      refine XS.astore X21.here hx rfl (hb hby at_37) rfl rfl (l' := #[iv p1, iv p2, iv (3 : Int32), rv en3, rv en3]) rfl ?_
      show own_S p e below T21 m 39 #[iv p1, iv p2, iv (3 : Int32), rv en3, rv en3] [] _
      refine XS.aloadN X21.here hx rfl (hb hby at_39) rfl rfl ?_
      show own_S p e below T21 m 40 #[iv p1, iv p2, iv (3 : Int32), rv en3, rv en3] [(.ref en3)] _
      refine XS.aload X21.here hx rfl (hb hby at_40) rfl rfl ?_
      show own_S p e below T21 m 42 #[iv p1, iv p2, iv (3 : Int32), rv en3, rv en3] [(.ref en3), (.ref en3)] _
      refine Jvm.RoadKit.acmp (g := (mkF m 42 #[iv p1, iv p2, iv (3 : Int32), rv en3, rv en3] [(.ref en3), (.ref en3)])) X21 hx rfl rfl rfl (pc0 := 42) (pc' := 47) (same := true) rfl (hb hby at_42) rfl (decide_eq_true rfl) (by decide) (by decide) ?_
      show own_S p e below T21 m 47 #[iv p1, iv p2, iv (3 : Int32), rv en3, rv en3] [] _
      refine XS.aloadN X21.here hx rfl (hb hby at_47) rfl rfl ?_
      show own_S p e below T21 m 48 #[iv p1, iv p2, iv (3 : Int32), rv en3, rv en3] [(.ref en3)] _
      refine XS.ifnullNo X21.here hx rfl (hb hby at_48) rfl ?_
      show own_S p e below T21 m 51 #[iv p1, iv p2, iv (3 : Int32), rv en3, rv en3] [] _
      refine XS.aloadN X21.here hx rfl (hb hby at_51) rfl rfl ?_
      show own_S p e below T21 m 52 #[iv p1, iv p2, iv (3 : Int32), rv en3, rv en3] [(.ref en3)] _
      refine st22.trans ?_
      show own_S p e below T22 m 55 #[iv p1, iv p2, iv (3 : Int32), rv en3, rv en3] [(.int (3 : Int32))] _
      refine XS.iloadN X22.here hx rfl (hb hby at_55) rfl ?_
      show own_S p e below T22 m 56 #[iv p1, iv p2, iv (3 : Int32), rv en3, rv en3] [(.int (3 : Int32)), (.int (3 : Int32))] _
      refine XS.icmpYes X22.here hx rfl (pc0 := 56) (pc' := 61) rfl (hb hby at_56) rfl (teq (by decide : (3 : Int32) = (3 : Int32))).1 (by decide) (by decide) ?_
      show own_S p e below T22 m 61 #[iv p1, iv p2, iv (3 : Int32), rv en3, rv en3] [] _
      refine XS.iconst X22.here hx rfl (hb hby at_61) ?_
      exact k)
    obtain ⟨fs, hr, hrun, hended, hW, hsame⟩ := X22.leave (v := some (.int (nar .boolean (1 : Int32)))) (fun h => by rw [Bd.returns] at h; cases h)
    refine ⟨_, _, pre23 _ ?_, hrun, hended, _, _, rfl, ?_, ⟨_, rfl⟩, hW, hsame.mono (by decide) (by decide)⟩
    · show own_S p e below T22 m 62 #[iv p1, iv p2, iv (3 : Int32), rv en3, rv en3] [(.int (1 : Int32))] _
      exact retN X22 hx (t := .boolean) Bd.returns (by simp) (hb hby at_62) hr
    · show Q0 Z p1 p2 en1 en2 en3 en4 en5 en6 en7 en8 aA kA h0 n0 _ T22.heap _
      rw [e22]
      exact ⟨rfl, N22⟩
  ·  -- case
    obtain ⟨_, _, ⟨T24, L24, k24, n24⟩, -, X24, ⟨Lc24, hQ24, l24, y24, z24⟩, st24⟩ := Jvm.LawKit.callS X0 hx (y := (⟨"com/example/broker/broker/wire/Command", "of", "(I)Lcom/example/broker/broker/wire/Command;"⟩ : MethodName)) hown (mvT hZ (hw _ (List.mem_of_getElem? (i := 1) rfl))) (mvT hZ (hw _ (List.mem_of_getElem? (i := 2) rfl))) (mvT hZ (hw _ (List.mem_of_getElem? (i := 3) rfl))) (mvT hZ (hw _ (List.mem_of_getElem? (i := 4) rfl))) (by decide) (backOf (W := 0) (rm1 l Z a0 hw [] (4 : Int32) en1 en2 en3 en4 en5 en6 en7 en8 aA kA h0 n0 Z0 S_en1 S_en2 S_en3 S_en4 S_en5 S_en6 S_en7 S_en8 S_A V_A F_en1 F_en2 F_en3 F_en4 F_en5 F_en6 F_en7 F_en8 E_en1 E_en2 E_en3 E_en4 E_en5 E_en6 E_en7 E_en8) hZ (hw _ (List.mem_of_getElem? (i := 4) rfl)) (hw _ (List.mem_of_getElem? (i := 3) rfl)) (by decide) (by decide)) (g := (mkF m 29 #[iv p1, iv p2, iv (4 : Int32), .unset, .unset] [(.int (4 : Int32))])) rfl (by rw [hml]; rfl) (argsL := [(.int (4 : Int32))]) (rest := []) (lenOf pd_0 rfl) rfl (by show 2 * 0 + _ ≤ _; exact Nat.le_of_eq rfl) (hb hby at_29) (fun _ _ => ⟨rfl, e0, (by decide : 0 + 0 ≤ _), (by decide : 0 + 0 ≤ _)⟩)
    dsimp only [Pt.U, Pt.locs, Pt.cells, Pt.slots] at X24 l24 y24 z24 st24 hQ24
    subst l24 y24 z24
    obtain ⟨hv24, N24q, e24q⟩ := hQ24
    have N24 := Fr.app N0 N24q
    rw [show own_ref (4 : Int32) en1 en2 en3 en4 en5 en6 en7 en8 = .ref en4 from rfl] at hv24
    subst hv24
    have e24 : T24.heap = h0 := e24q
    obtain ⟨_, _, ⟨T25, L25, k25, n25⟩, -, X25, ⟨Lc25, hQ25, l25, y25, z25⟩, st25⟩ := Jvm.LawKit.callS X24 hx (y := (⟨"com/example/broker/broker/wire/CommandOfPinLaw", "expected", "(I)Lcom/example/broker/broker/wire/Command;"⟩ : MethodName)) hown (mvT hZ (hw _ (List.mem_of_getElem? (i := 17) rfl))) (mvT hZ (hw _ (List.mem_of_getElem? (i := 18) rfl))) (mvT hZ (hw _ (List.mem_of_getElem? (i := 19) rfl))) (mvT hZ (hw _ (List.mem_of_getElem? (i := 20) rfl))) (by decide) (backOf (W := 0) (rm2 l Z a0 hw [] (4 : Int32) en1 en2 en3 en4 en5 en6 en7 en8 aA kA h0 n0 Z0 S_en1 S_en2 S_en3 S_en4 S_en5 S_en6 S_en7 S_en8 S_A V_A F_en1 F_en2 F_en3 F_en4 F_en5 F_en6 F_en7 F_en8 E_en1 E_en2 E_en3 E_en4 E_en5 E_en6 E_en7 E_en8) hZ (hw _ (List.mem_of_getElem? (i := 20) rfl)) (hw _ (List.mem_of_getElem? (i := 19) rfl)) (by decide) (by decide)) (g := (mkF m 34 #[iv p1, iv p2, iv (4 : Int32), rv en4, .unset] [(.int (4 : Int32))])) rfl (by rw [hml]; rfl) (argsL := [(.int (4 : Int32))]) (rest := []) (lenOf pd_0 rfl) rfl (by show 2 * 0 + _ ≤ _; exact Nat.le_of_eq rfl) (hb hby at_34) (fun _ _ => ⟨rfl, e24, (by decide : 0 + 0 ≤ _), (by decide : 0 + 0 ≤ _)⟩)
    dsimp only [Pt.U, Pt.locs, Pt.cells, Pt.slots] at X25 l25 y25 z25 st25 hQ25
    subst l25 y25 z25
    obtain ⟨hv25, N25q, e25q⟩ := hQ25
    have N25 := Fr.app N24 N25q
    rw [show own_ref (4 : Int32) en1 en2 en3 en4 en5 en6 en7 en8 = .ref en4 from rfl] at hv25
    subst hv25
    have e25 : T25.heap = h0 := e25q
    obtain ⟨cq26, kq26, q26a, q26b, q26c⟩ := isOf hZ e25 E_en4
    obtain ⟨_, _, ⟨T26, L26, k26, n26⟩, -, X26, ⟨Lc26, hQ26, l26, y26, z26⟩, st26⟩ := X25.virtualBack hx (y := (⟨"com/example/broker/broker/wire/Command", "code", "()I"⟩ : MethodName)) (z := (⟨"com/example/broker/broker/wire/Command", "code", "()I"⟩ : MethodName)) hown (mvT hZ (hw _ (List.mem_of_getElem? (i := 22) rfl))) (mvT hZ (hw _ (List.mem_of_getElem? (i := 23) rfl))) (notFace_of_selects (args := #[]) (mvT hZ (hw _ (List.mem_of_getElem? (i := 25) rfl)))) (mvT hZ (hw _ (List.mem_of_getElem? (i := 25) rfl))) (mvT hZ (hw _ (List.mem_of_getElem? (i := 24) rfl))) (by decide) (backOf (W := 0) (rm3 l Z a0 hw [] en4 (4 : Int32) h0 n0 Z0 F_en4) hZ (hw _ (List.mem_of_getElem? (i := 26) rfl)) (hw _ (List.mem_of_getElem? (i := 3) rfl)) (by decide) (by decide)) q26a q26c (g := (mkF m 52 #[iv p1, iv p2, iv (4 : Int32), rv en4, rv en4] [(.ref en4)])) rfl (by rw [hml]; rfl) (Steps.refl _) (argsL := []) (rest := []) (lenOf pd_1 rfl) rfl (by show 2 * 0 + _ ≤ _; exact Nat.le_of_eq rfl) (hb hby at_52) (fun _ _ => ⟨rfl, e25, (by decide : 0 + 0 ≤ _), (by decide : 0 + 0 ≤ _)⟩)
    dsimp only [Pt.U, Pt.locs, Pt.cells, Pt.slots] at X26 l26 y26 z26 st26 hQ26
    subst l26 y26 z26
    obtain ⟨rfl, N26q, e26q⟩ := hQ26
    have N26 := Fr.app N25 N26q
    have e26 : T26.heap = h0 := e26q
    have pre27 : ∀ t, own_S p e below T26 m 62 #[iv p1, iv p2, iv (4 : Int32), rv en4, rv en4] [(.int (1 : Int32))] t → Steps p.tables e below (s₁.setTop (entryFrame m #[(.int p1), (.int p2)] maxLocals)) t := fun t k => prej1 t (by
      show own_S p e below s₁ m 28 #[iv p1, iv p2, iv (4 : Int32), .unset, .unset] [] _
      refine XS.iloadN X0.here hx rfl (hb hby at_28) rfl ?_
      show own_S p e below s₁ m 29 #[iv p1, iv p2, iv (4 : Int32), .unset, .unset] [(.int (4 : Int32))] _
      refine st24 _ ?_
      show own_S p e below T24 m 32 #[iv p1, iv p2, iv (4 : Int32), .unset, .unset] [(.ref en4)] _
      refine XS.astoreN X24.here hx rfl (hb hby at_32) rfl rfl (l' := #[iv p1, iv p2, iv (4 : Int32), rv en4, .unset]) rfl ?_
      show own_S p e below T24 m 33 #[iv p1, iv p2, iv (4 : Int32), rv en4, .unset] [] _
      refine XS.iloadN X24.here hx rfl (hb hby at_33) rfl ?_
      show own_S p e below T24 m 34 #[iv p1, iv p2, iv (4 : Int32), rv en4, .unset] [(.int (4 : Int32))] _
      refine st25 _ ?_
      show own_S p e below T25 m 37 #[iv p1, iv p2, iv (4 : Int32), rv en4, .unset] [(.ref en4)] _
      refine XS.astore X25.here hx rfl (hb hby at_37) rfl rfl (l' := #[iv p1, iv p2, iv (4 : Int32), rv en4, rv en4]) rfl ?_
      show own_S p e below T25 m 39 #[iv p1, iv p2, iv (4 : Int32), rv en4, rv en4] [] _
      refine XS.aloadN X25.here hx rfl (hb hby at_39) rfl rfl ?_
      show own_S p e below T25 m 40 #[iv p1, iv p2, iv (4 : Int32), rv en4, rv en4] [(.ref en4)] _
      refine XS.aload X25.here hx rfl (hb hby at_40) rfl rfl ?_
      show own_S p e below T25 m 42 #[iv p1, iv p2, iv (4 : Int32), rv en4, rv en4] [(.ref en4), (.ref en4)] _
      refine Jvm.RoadKit.acmp (g := (mkF m 42 #[iv p1, iv p2, iv (4 : Int32), rv en4, rv en4] [(.ref en4), (.ref en4)])) X25 hx rfl rfl rfl (pc0 := 42) (pc' := 47) (same := true) rfl (hb hby at_42) rfl (decide_eq_true rfl) (by decide) (by decide) ?_
      show own_S p e below T25 m 47 #[iv p1, iv p2, iv (4 : Int32), rv en4, rv en4] [] _
      refine XS.aloadN X25.here hx rfl (hb hby at_47) rfl rfl ?_
      show own_S p e below T25 m 48 #[iv p1, iv p2, iv (4 : Int32), rv en4, rv en4] [(.ref en4)] _
      refine XS.ifnullNo X25.here hx rfl (hb hby at_48) rfl ?_
      show own_S p e below T25 m 51 #[iv p1, iv p2, iv (4 : Int32), rv en4, rv en4] [] _
      refine XS.aloadN X25.here hx rfl (hb hby at_51) rfl rfl ?_
      show own_S p e below T25 m 52 #[iv p1, iv p2, iv (4 : Int32), rv en4, rv en4] [(.ref en4)] _
      refine st26.trans ?_
      show own_S p e below T26 m 55 #[iv p1, iv p2, iv (4 : Int32), rv en4, rv en4] [(.int (4 : Int32))] _
      refine XS.iloadN X26.here hx rfl (hb hby at_55) rfl ?_
      show own_S p e below T26 m 56 #[iv p1, iv p2, iv (4 : Int32), rv en4, rv en4] [(.int (4 : Int32)), (.int (4 : Int32))] _
      refine XS.icmpYes X26.here hx rfl (pc0 := 56) (pc' := 61) rfl (hb hby at_56) rfl (teq (by decide : (4 : Int32) = (4 : Int32))).1 (by decide) (by decide) ?_
      show own_S p e below T26 m 61 #[iv p1, iv p2, iv (4 : Int32), rv en4, rv en4] [] _
      refine XS.iconst X26.here hx rfl (hb hby at_61) ?_
      exact k)
    obtain ⟨fs, hr, hrun, hended, hW, hsame⟩ := X26.leave (v := some (.int (nar .boolean (1 : Int32)))) (fun h => by rw [Bd.returns] at h; cases h)
    refine ⟨_, _, pre27 _ ?_, hrun, hended, _, _, rfl, ?_, ⟨_, rfl⟩, hW, hsame.mono (by decide) (by decide)⟩
    · show own_S p e below T26 m 62 #[iv p1, iv p2, iv (4 : Int32), rv en4, rv en4] [(.int (1 : Int32))] _
      exact retN X26 hx (t := .boolean) Bd.returns (by simp) (hb hby at_62) hr
    · show Q0 Z p1 p2 en1 en2 en3 en4 en5 en6 en7 en8 aA kA h0 n0 _ T26.heap _
      rw [e26]
      exact ⟨rfl, N26⟩
  ·  -- case
    obtain ⟨_, _, ⟨T28, L28, k28, n28⟩, -, X28, ⟨Lc28, hQ28, l28, y28, z28⟩, st28⟩ := Jvm.LawKit.callS X0 hx (y := (⟨"com/example/broker/broker/wire/Command", "of", "(I)Lcom/example/broker/broker/wire/Command;"⟩ : MethodName)) hown (mvT hZ (hw _ (List.mem_of_getElem? (i := 1) rfl))) (mvT hZ (hw _ (List.mem_of_getElem? (i := 2) rfl))) (mvT hZ (hw _ (List.mem_of_getElem? (i := 3) rfl))) (mvT hZ (hw _ (List.mem_of_getElem? (i := 4) rfl))) (by decide) (backOf (W := 0) (rm1 l Z a0 hw [] (5 : Int32) en1 en2 en3 en4 en5 en6 en7 en8 aA kA h0 n0 Z0 S_en1 S_en2 S_en3 S_en4 S_en5 S_en6 S_en7 S_en8 S_A V_A F_en1 F_en2 F_en3 F_en4 F_en5 F_en6 F_en7 F_en8 E_en1 E_en2 E_en3 E_en4 E_en5 E_en6 E_en7 E_en8) hZ (hw _ (List.mem_of_getElem? (i := 4) rfl)) (hw _ (List.mem_of_getElem? (i := 3) rfl)) (by decide) (by decide)) (g := (mkF m 29 #[iv p1, iv p2, iv (5 : Int32), .unset, .unset] [(.int (5 : Int32))])) rfl (by rw [hml]; rfl) (argsL := [(.int (5 : Int32))]) (rest := []) (lenOf pd_0 rfl) rfl (by show 2 * 0 + _ ≤ _; exact Nat.le_of_eq rfl) (hb hby at_29) (fun _ _ => ⟨rfl, e0, (by decide : 0 + 0 ≤ _), (by decide : 0 + 0 ≤ _)⟩)
    dsimp only [Pt.U, Pt.locs, Pt.cells, Pt.slots] at X28 l28 y28 z28 st28 hQ28
    subst l28 y28 z28
    obtain ⟨hv28, N28q, e28q⟩ := hQ28
    have N28 := Fr.app N0 N28q
    rw [show own_ref (5 : Int32) en1 en2 en3 en4 en5 en6 en7 en8 = .ref en5 from rfl] at hv28
    subst hv28
    have e28 : T28.heap = h0 := e28q
    obtain ⟨_, _, ⟨T29, L29, k29, n29⟩, -, X29, ⟨Lc29, hQ29, l29, y29, z29⟩, st29⟩ := Jvm.LawKit.callS X28 hx (y := (⟨"com/example/broker/broker/wire/CommandOfPinLaw", "expected", "(I)Lcom/example/broker/broker/wire/Command;"⟩ : MethodName)) hown (mvT hZ (hw _ (List.mem_of_getElem? (i := 17) rfl))) (mvT hZ (hw _ (List.mem_of_getElem? (i := 18) rfl))) (mvT hZ (hw _ (List.mem_of_getElem? (i := 19) rfl))) (mvT hZ (hw _ (List.mem_of_getElem? (i := 20) rfl))) (by decide) (backOf (W := 0) (rm2 l Z a0 hw [] (5 : Int32) en1 en2 en3 en4 en5 en6 en7 en8 aA kA h0 n0 Z0 S_en1 S_en2 S_en3 S_en4 S_en5 S_en6 S_en7 S_en8 S_A V_A F_en1 F_en2 F_en3 F_en4 F_en5 F_en6 F_en7 F_en8 E_en1 E_en2 E_en3 E_en4 E_en5 E_en6 E_en7 E_en8) hZ (hw _ (List.mem_of_getElem? (i := 20) rfl)) (hw _ (List.mem_of_getElem? (i := 19) rfl)) (by decide) (by decide)) (g := (mkF m 34 #[iv p1, iv p2, iv (5 : Int32), rv en5, .unset] [(.int (5 : Int32))])) rfl (by rw [hml]; rfl) (argsL := [(.int (5 : Int32))]) (rest := []) (lenOf pd_0 rfl) rfl (by show 2 * 0 + _ ≤ _; exact Nat.le_of_eq rfl) (hb hby at_34) (fun _ _ => ⟨rfl, e28, (by decide : 0 + 0 ≤ _), (by decide : 0 + 0 ≤ _)⟩)
    dsimp only [Pt.U, Pt.locs, Pt.cells, Pt.slots] at X29 l29 y29 z29 st29 hQ29
    subst l29 y29 z29
    obtain ⟨hv29, N29q, e29q⟩ := hQ29
    have N29 := Fr.app N28 N29q
    rw [show own_ref (5 : Int32) en1 en2 en3 en4 en5 en6 en7 en8 = .ref en5 from rfl] at hv29
    subst hv29
    have e29 : T29.heap = h0 := e29q
    obtain ⟨cq30, kq30, q30a, q30b, q30c⟩ := isOf hZ e29 E_en5
    obtain ⟨_, _, ⟨T30, L30, k30, n30⟩, -, X30, ⟨Lc30, hQ30, l30, y30, z30⟩, st30⟩ := X29.virtualBack hx (y := (⟨"com/example/broker/broker/wire/Command", "code", "()I"⟩ : MethodName)) (z := (⟨"com/example/broker/broker/wire/Command", "code", "()I"⟩ : MethodName)) hown (mvT hZ (hw _ (List.mem_of_getElem? (i := 22) rfl))) (mvT hZ (hw _ (List.mem_of_getElem? (i := 23) rfl))) (notFace_of_selects (args := #[]) (mvT hZ (hw _ (List.mem_of_getElem? (i := 25) rfl)))) (mvT hZ (hw _ (List.mem_of_getElem? (i := 25) rfl))) (mvT hZ (hw _ (List.mem_of_getElem? (i := 24) rfl))) (by decide) (backOf (W := 0) (rm3 l Z a0 hw [] en5 (5 : Int32) h0 n0 Z0 F_en5) hZ (hw _ (List.mem_of_getElem? (i := 26) rfl)) (hw _ (List.mem_of_getElem? (i := 3) rfl)) (by decide) (by decide)) q30a q30c (g := (mkF m 52 #[iv p1, iv p2, iv (5 : Int32), rv en5, rv en5] [(.ref en5)])) rfl (by rw [hml]; rfl) (Steps.refl _) (argsL := []) (rest := []) (lenOf pd_1 rfl) rfl (by show 2 * 0 + _ ≤ _; exact Nat.le_of_eq rfl) (hb hby at_52) (fun _ _ => ⟨rfl, e29, (by decide : 0 + 0 ≤ _), (by decide : 0 + 0 ≤ _)⟩)
    dsimp only [Pt.U, Pt.locs, Pt.cells, Pt.slots] at X30 l30 y30 z30 st30 hQ30
    subst l30 y30 z30
    obtain ⟨rfl, N30q, e30q⟩ := hQ30
    have N30 := Fr.app N29 N30q
    have e30 : T30.heap = h0 := e30q
    have pre31 : ∀ t, own_S p e below T30 m 62 #[iv p1, iv p2, iv (5 : Int32), rv en5, rv en5] [(.int (1 : Int32))] t → Steps p.tables e below (s₁.setTop (entryFrame m #[(.int p1), (.int p2)] maxLocals)) t := fun t k => prej1 t (by
      show own_S p e below s₁ m 28 #[iv p1, iv p2, iv (5 : Int32), .unset, .unset] [] _
      refine XS.iloadN X0.here hx rfl (hb hby at_28) rfl ?_
      show own_S p e below s₁ m 29 #[iv p1, iv p2, iv (5 : Int32), .unset, .unset] [(.int (5 : Int32))] _
      refine st28 _ ?_
      show own_S p e below T28 m 32 #[iv p1, iv p2, iv (5 : Int32), .unset, .unset] [(.ref en5)] _
      refine XS.astoreN X28.here hx rfl (hb hby at_32) rfl rfl (l' := #[iv p1, iv p2, iv (5 : Int32), rv en5, .unset]) rfl ?_
      show own_S p e below T28 m 33 #[iv p1, iv p2, iv (5 : Int32), rv en5, .unset] [] _
      refine XS.iloadN X28.here hx rfl (hb hby at_33) rfl ?_
      show own_S p e below T28 m 34 #[iv p1, iv p2, iv (5 : Int32), rv en5, .unset] [(.int (5 : Int32))] _
      refine st29 _ ?_
      show own_S p e below T29 m 37 #[iv p1, iv p2, iv (5 : Int32), rv en5, .unset] [(.ref en5)] _
      refine XS.astore X29.here hx rfl (hb hby at_37) rfl rfl (l' := #[iv p1, iv p2, iv (5 : Int32), rv en5, rv en5]) rfl ?_
      show own_S p e below T29 m 39 #[iv p1, iv p2, iv (5 : Int32), rv en5, rv en5] [] _
      refine XS.aloadN X29.here hx rfl (hb hby at_39) rfl rfl ?_
      show own_S p e below T29 m 40 #[iv p1, iv p2, iv (5 : Int32), rv en5, rv en5] [(.ref en5)] _
      refine XS.aload X29.here hx rfl (hb hby at_40) rfl rfl ?_
      show own_S p e below T29 m 42 #[iv p1, iv p2, iv (5 : Int32), rv en5, rv en5] [(.ref en5), (.ref en5)] _
      refine Jvm.RoadKit.acmp (g := (mkF m 42 #[iv p1, iv p2, iv (5 : Int32), rv en5, rv en5] [(.ref en5), (.ref en5)])) X29 hx rfl rfl rfl (pc0 := 42) (pc' := 47) (same := true) rfl (hb hby at_42) rfl (decide_eq_true rfl) (by decide) (by decide) ?_
      show own_S p e below T29 m 47 #[iv p1, iv p2, iv (5 : Int32), rv en5, rv en5] [] _
      refine XS.aloadN X29.here hx rfl (hb hby at_47) rfl rfl ?_
      show own_S p e below T29 m 48 #[iv p1, iv p2, iv (5 : Int32), rv en5, rv en5] [(.ref en5)] _
      refine XS.ifnullNo X29.here hx rfl (hb hby at_48) rfl ?_
      show own_S p e below T29 m 51 #[iv p1, iv p2, iv (5 : Int32), rv en5, rv en5] [] _
      refine XS.aloadN X29.here hx rfl (hb hby at_51) rfl rfl ?_
      show own_S p e below T29 m 52 #[iv p1, iv p2, iv (5 : Int32), rv en5, rv en5] [(.ref en5)] _
      refine st30.trans ?_
      show own_S p e below T30 m 55 #[iv p1, iv p2, iv (5 : Int32), rv en5, rv en5] [(.int (5 : Int32))] _
      refine XS.iloadN X30.here hx rfl (hb hby at_55) rfl ?_
      show own_S p e below T30 m 56 #[iv p1, iv p2, iv (5 : Int32), rv en5, rv en5] [(.int (5 : Int32)), (.int (5 : Int32))] _
      refine XS.icmpYes X30.here hx rfl (pc0 := 56) (pc' := 61) rfl (hb hby at_56) rfl (teq (by decide : (5 : Int32) = (5 : Int32))).1 (by decide) (by decide) ?_
      show own_S p e below T30 m 61 #[iv p1, iv p2, iv (5 : Int32), rv en5, rv en5] [] _
      refine XS.iconst X30.here hx rfl (hb hby at_61) ?_
      exact k)
    obtain ⟨fs, hr, hrun, hended, hW, hsame⟩ := X30.leave (v := some (.int (nar .boolean (1 : Int32)))) (fun h => by rw [Bd.returns] at h; cases h)
    refine ⟨_, _, pre31 _ ?_, hrun, hended, _, _, rfl, ?_, ⟨_, rfl⟩, hW, hsame.mono (by decide) (by decide)⟩
    · show own_S p e below T30 m 62 #[iv p1, iv p2, iv (5 : Int32), rv en5, rv en5] [(.int (1 : Int32))] _
      exact retN X30 hx (t := .boolean) Bd.returns (by simp) (hb hby at_62) hr
    · show Q0 Z p1 p2 en1 en2 en3 en4 en5 en6 en7 en8 aA kA h0 n0 _ T30.heap _
      rw [e30]
      exact ⟨rfl, N30⟩
  ·  -- case
    obtain ⟨_, _, ⟨T32, L32, k32, n32⟩, -, X32, ⟨Lc32, hQ32, l32, y32, z32⟩, st32⟩ := Jvm.LawKit.callS X0 hx (y := (⟨"com/example/broker/broker/wire/Command", "of", "(I)Lcom/example/broker/broker/wire/Command;"⟩ : MethodName)) hown (mvT hZ (hw _ (List.mem_of_getElem? (i := 1) rfl))) (mvT hZ (hw _ (List.mem_of_getElem? (i := 2) rfl))) (mvT hZ (hw _ (List.mem_of_getElem? (i := 3) rfl))) (mvT hZ (hw _ (List.mem_of_getElem? (i := 4) rfl))) (by decide) (backOf (W := 0) (rm1 l Z a0 hw [] (6 : Int32) en1 en2 en3 en4 en5 en6 en7 en8 aA kA h0 n0 Z0 S_en1 S_en2 S_en3 S_en4 S_en5 S_en6 S_en7 S_en8 S_A V_A F_en1 F_en2 F_en3 F_en4 F_en5 F_en6 F_en7 F_en8 E_en1 E_en2 E_en3 E_en4 E_en5 E_en6 E_en7 E_en8) hZ (hw _ (List.mem_of_getElem? (i := 4) rfl)) (hw _ (List.mem_of_getElem? (i := 3) rfl)) (by decide) (by decide)) (g := (mkF m 29 #[iv p1, iv p2, iv (6 : Int32), .unset, .unset] [(.int (6 : Int32))])) rfl (by rw [hml]; rfl) (argsL := [(.int (6 : Int32))]) (rest := []) (lenOf pd_0 rfl) rfl (by show 2 * 0 + _ ≤ _; exact Nat.le_of_eq rfl) (hb hby at_29) (fun _ _ => ⟨rfl, e0, (by decide : 0 + 0 ≤ _), (by decide : 0 + 0 ≤ _)⟩)
    dsimp only [Pt.U, Pt.locs, Pt.cells, Pt.slots] at X32 l32 y32 z32 st32 hQ32
    subst l32 y32 z32
    obtain ⟨hv32, N32q, e32q⟩ := hQ32
    have N32 := Fr.app N0 N32q
    rw [show own_ref (6 : Int32) en1 en2 en3 en4 en5 en6 en7 en8 = .ref en6 from rfl] at hv32
    subst hv32
    have e32 : T32.heap = h0 := e32q
    obtain ⟨_, _, ⟨T33, L33, k33, n33⟩, -, X33, ⟨Lc33, hQ33, l33, y33, z33⟩, st33⟩ := Jvm.LawKit.callS X32 hx (y := (⟨"com/example/broker/broker/wire/CommandOfPinLaw", "expected", "(I)Lcom/example/broker/broker/wire/Command;"⟩ : MethodName)) hown (mvT hZ (hw _ (List.mem_of_getElem? (i := 17) rfl))) (mvT hZ (hw _ (List.mem_of_getElem? (i := 18) rfl))) (mvT hZ (hw _ (List.mem_of_getElem? (i := 19) rfl))) (mvT hZ (hw _ (List.mem_of_getElem? (i := 20) rfl))) (by decide) (backOf (W := 0) (rm2 l Z a0 hw [] (6 : Int32) en1 en2 en3 en4 en5 en6 en7 en8 aA kA h0 n0 Z0 S_en1 S_en2 S_en3 S_en4 S_en5 S_en6 S_en7 S_en8 S_A V_A F_en1 F_en2 F_en3 F_en4 F_en5 F_en6 F_en7 F_en8 E_en1 E_en2 E_en3 E_en4 E_en5 E_en6 E_en7 E_en8) hZ (hw _ (List.mem_of_getElem? (i := 20) rfl)) (hw _ (List.mem_of_getElem? (i := 19) rfl)) (by decide) (by decide)) (g := (mkF m 34 #[iv p1, iv p2, iv (6 : Int32), rv en6, .unset] [(.int (6 : Int32))])) rfl (by rw [hml]; rfl) (argsL := [(.int (6 : Int32))]) (rest := []) (lenOf pd_0 rfl) rfl (by show 2 * 0 + _ ≤ _; exact Nat.le_of_eq rfl) (hb hby at_34) (fun _ _ => ⟨rfl, e32, (by decide : 0 + 0 ≤ _), (by decide : 0 + 0 ≤ _)⟩)
    dsimp only [Pt.U, Pt.locs, Pt.cells, Pt.slots] at X33 l33 y33 z33 st33 hQ33
    subst l33 y33 z33
    obtain ⟨hv33, N33q, e33q⟩ := hQ33
    have N33 := Fr.app N32 N33q
    rw [show own_ref (6 : Int32) en1 en2 en3 en4 en5 en6 en7 en8 = .ref en6 from rfl] at hv33
    subst hv33
    have e33 : T33.heap = h0 := e33q
    obtain ⟨cq34, kq34, q34a, q34b, q34c⟩ := isOf hZ e33 E_en6
    obtain ⟨_, _, ⟨T34, L34, k34, n34⟩, -, X34, ⟨Lc34, hQ34, l34, y34, z34⟩, st34⟩ := X33.virtualBack hx (y := (⟨"com/example/broker/broker/wire/Command", "code", "()I"⟩ : MethodName)) (z := (⟨"com/example/broker/broker/wire/Command", "code", "()I"⟩ : MethodName)) hown (mvT hZ (hw _ (List.mem_of_getElem? (i := 22) rfl))) (mvT hZ (hw _ (List.mem_of_getElem? (i := 23) rfl))) (notFace_of_selects (args := #[]) (mvT hZ (hw _ (List.mem_of_getElem? (i := 25) rfl)))) (mvT hZ (hw _ (List.mem_of_getElem? (i := 25) rfl))) (mvT hZ (hw _ (List.mem_of_getElem? (i := 24) rfl))) (by decide) (backOf (W := 0) (rm3 l Z a0 hw [] en6 (6 : Int32) h0 n0 Z0 F_en6) hZ (hw _ (List.mem_of_getElem? (i := 26) rfl)) (hw _ (List.mem_of_getElem? (i := 3) rfl)) (by decide) (by decide)) q34a q34c (g := (mkF m 52 #[iv p1, iv p2, iv (6 : Int32), rv en6, rv en6] [(.ref en6)])) rfl (by rw [hml]; rfl) (Steps.refl _) (argsL := []) (rest := []) (lenOf pd_1 rfl) rfl (by show 2 * 0 + _ ≤ _; exact Nat.le_of_eq rfl) (hb hby at_52) (fun _ _ => ⟨rfl, e33, (by decide : 0 + 0 ≤ _), (by decide : 0 + 0 ≤ _)⟩)
    dsimp only [Pt.U, Pt.locs, Pt.cells, Pt.slots] at X34 l34 y34 z34 st34 hQ34
    subst l34 y34 z34
    obtain ⟨rfl, N34q, e34q⟩ := hQ34
    have N34 := Fr.app N33 N34q
    have e34 : T34.heap = h0 := e34q
    have pre35 : ∀ t, own_S p e below T34 m 62 #[iv p1, iv p2, iv (6 : Int32), rv en6, rv en6] [(.int (1 : Int32))] t → Steps p.tables e below (s₁.setTop (entryFrame m #[(.int p1), (.int p2)] maxLocals)) t := fun t k => prej1 t (by
      show own_S p e below s₁ m 28 #[iv p1, iv p2, iv (6 : Int32), .unset, .unset] [] _
      refine XS.iloadN X0.here hx rfl (hb hby at_28) rfl ?_
      show own_S p e below s₁ m 29 #[iv p1, iv p2, iv (6 : Int32), .unset, .unset] [(.int (6 : Int32))] _
      refine st32 _ ?_
      show own_S p e below T32 m 32 #[iv p1, iv p2, iv (6 : Int32), .unset, .unset] [(.ref en6)] _
      refine XS.astoreN X32.here hx rfl (hb hby at_32) rfl rfl (l' := #[iv p1, iv p2, iv (6 : Int32), rv en6, .unset]) rfl ?_
      show own_S p e below T32 m 33 #[iv p1, iv p2, iv (6 : Int32), rv en6, .unset] [] _
      refine XS.iloadN X32.here hx rfl (hb hby at_33) rfl ?_
      show own_S p e below T32 m 34 #[iv p1, iv p2, iv (6 : Int32), rv en6, .unset] [(.int (6 : Int32))] _
      refine st33 _ ?_
      show own_S p e below T33 m 37 #[iv p1, iv p2, iv (6 : Int32), rv en6, .unset] [(.ref en6)] _
      refine XS.astore X33.here hx rfl (hb hby at_37) rfl rfl (l' := #[iv p1, iv p2, iv (6 : Int32), rv en6, rv en6]) rfl ?_
      show own_S p e below T33 m 39 #[iv p1, iv p2, iv (6 : Int32), rv en6, rv en6] [] _
      refine XS.aloadN X33.here hx rfl (hb hby at_39) rfl rfl ?_
      show own_S p e below T33 m 40 #[iv p1, iv p2, iv (6 : Int32), rv en6, rv en6] [(.ref en6)] _
      refine XS.aload X33.here hx rfl (hb hby at_40) rfl rfl ?_
      show own_S p e below T33 m 42 #[iv p1, iv p2, iv (6 : Int32), rv en6, rv en6] [(.ref en6), (.ref en6)] _
      refine Jvm.RoadKit.acmp (g := (mkF m 42 #[iv p1, iv p2, iv (6 : Int32), rv en6, rv en6] [(.ref en6), (.ref en6)])) X33 hx rfl rfl rfl (pc0 := 42) (pc' := 47) (same := true) rfl (hb hby at_42) rfl (decide_eq_true rfl) (by decide) (by decide) ?_
      show own_S p e below T33 m 47 #[iv p1, iv p2, iv (6 : Int32), rv en6, rv en6] [] _
      refine XS.aloadN X33.here hx rfl (hb hby at_47) rfl rfl ?_
      show own_S p e below T33 m 48 #[iv p1, iv p2, iv (6 : Int32), rv en6, rv en6] [(.ref en6)] _
      refine XS.ifnullNo X33.here hx rfl (hb hby at_48) rfl ?_
      show own_S p e below T33 m 51 #[iv p1, iv p2, iv (6 : Int32), rv en6, rv en6] [] _
      refine XS.aloadN X33.here hx rfl (hb hby at_51) rfl rfl ?_
      show own_S p e below T33 m 52 #[iv p1, iv p2, iv (6 : Int32), rv en6, rv en6] [(.ref en6)] _
      refine st34.trans ?_
      show own_S p e below T34 m 55 #[iv p1, iv p2, iv (6 : Int32), rv en6, rv en6] [(.int (6 : Int32))] _
      refine XS.iloadN X34.here hx rfl (hb hby at_55) rfl ?_
      show own_S p e below T34 m 56 #[iv p1, iv p2, iv (6 : Int32), rv en6, rv en6] [(.int (6 : Int32)), (.int (6 : Int32))] _
      refine XS.icmpYes X34.here hx rfl (pc0 := 56) (pc' := 61) rfl (hb hby at_56) rfl (teq (by decide : (6 : Int32) = (6 : Int32))).1 (by decide) (by decide) ?_
      show own_S p e below T34 m 61 #[iv p1, iv p2, iv (6 : Int32), rv en6, rv en6] [] _
      refine XS.iconst X34.here hx rfl (hb hby at_61) ?_
      exact k)
    obtain ⟨fs, hr, hrun, hended, hW, hsame⟩ := X34.leave (v := some (.int (nar .boolean (1 : Int32)))) (fun h => by rw [Bd.returns] at h; cases h)
    refine ⟨_, _, pre35 _ ?_, hrun, hended, _, _, rfl, ?_, ⟨_, rfl⟩, hW, hsame.mono (by decide) (by decide)⟩
    · show own_S p e below T34 m 62 #[iv p1, iv p2, iv (6 : Int32), rv en6, rv en6] [(.int (1 : Int32))] _
      exact retN X34 hx (t := .boolean) Bd.returns (by simp) (hb hby at_62) hr
    · show Q0 Z p1 p2 en1 en2 en3 en4 en5 en6 en7 en8 aA kA h0 n0 _ T34.heap _
      rw [e34]
      exact ⟨rfl, N34⟩
  ·  -- case
    obtain ⟨_, _, ⟨T36, L36, k36, n36⟩, -, X36, ⟨Lc36, hQ36, l36, y36, z36⟩, st36⟩ := Jvm.LawKit.callS X0 hx (y := (⟨"com/example/broker/broker/wire/Command", "of", "(I)Lcom/example/broker/broker/wire/Command;"⟩ : MethodName)) hown (mvT hZ (hw _ (List.mem_of_getElem? (i := 1) rfl))) (mvT hZ (hw _ (List.mem_of_getElem? (i := 2) rfl))) (mvT hZ (hw _ (List.mem_of_getElem? (i := 3) rfl))) (mvT hZ (hw _ (List.mem_of_getElem? (i := 4) rfl))) (by decide) (backOf (W := 0) (rm1 l Z a0 hw [] (7 : Int32) en1 en2 en3 en4 en5 en6 en7 en8 aA kA h0 n0 Z0 S_en1 S_en2 S_en3 S_en4 S_en5 S_en6 S_en7 S_en8 S_A V_A F_en1 F_en2 F_en3 F_en4 F_en5 F_en6 F_en7 F_en8 E_en1 E_en2 E_en3 E_en4 E_en5 E_en6 E_en7 E_en8) hZ (hw _ (List.mem_of_getElem? (i := 4) rfl)) (hw _ (List.mem_of_getElem? (i := 3) rfl)) (by decide) (by decide)) (g := (mkF m 29 #[iv p1, iv p2, iv (7 : Int32), .unset, .unset] [(.int (7 : Int32))])) rfl (by rw [hml]; rfl) (argsL := [(.int (7 : Int32))]) (rest := []) (lenOf pd_0 rfl) rfl (by show 2 * 0 + _ ≤ _; exact Nat.le_of_eq rfl) (hb hby at_29) (fun _ _ => ⟨rfl, e0, (by decide : 0 + 0 ≤ _), (by decide : 0 + 0 ≤ _)⟩)
    dsimp only [Pt.U, Pt.locs, Pt.cells, Pt.slots] at X36 l36 y36 z36 st36 hQ36
    subst l36 y36 z36
    obtain ⟨hv36, N36q, e36q⟩ := hQ36
    have N36 := Fr.app N0 N36q
    rw [show own_ref (7 : Int32) en1 en2 en3 en4 en5 en6 en7 en8 = .ref en7 from rfl] at hv36
    subst hv36
    have e36 : T36.heap = h0 := e36q
    obtain ⟨_, _, ⟨T37, L37, k37, n37⟩, -, X37, ⟨Lc37, hQ37, l37, y37, z37⟩, st37⟩ := Jvm.LawKit.callS X36 hx (y := (⟨"com/example/broker/broker/wire/CommandOfPinLaw", "expected", "(I)Lcom/example/broker/broker/wire/Command;"⟩ : MethodName)) hown (mvT hZ (hw _ (List.mem_of_getElem? (i := 17) rfl))) (mvT hZ (hw _ (List.mem_of_getElem? (i := 18) rfl))) (mvT hZ (hw _ (List.mem_of_getElem? (i := 19) rfl))) (mvT hZ (hw _ (List.mem_of_getElem? (i := 20) rfl))) (by decide) (backOf (W := 0) (rm2 l Z a0 hw [] (7 : Int32) en1 en2 en3 en4 en5 en6 en7 en8 aA kA h0 n0 Z0 S_en1 S_en2 S_en3 S_en4 S_en5 S_en6 S_en7 S_en8 S_A V_A F_en1 F_en2 F_en3 F_en4 F_en5 F_en6 F_en7 F_en8 E_en1 E_en2 E_en3 E_en4 E_en5 E_en6 E_en7 E_en8) hZ (hw _ (List.mem_of_getElem? (i := 20) rfl)) (hw _ (List.mem_of_getElem? (i := 19) rfl)) (by decide) (by decide)) (g := (mkF m 34 #[iv p1, iv p2, iv (7 : Int32), rv en7, .unset] [(.int (7 : Int32))])) rfl (by rw [hml]; rfl) (argsL := [(.int (7 : Int32))]) (rest := []) (lenOf pd_0 rfl) rfl (by show 2 * 0 + _ ≤ _; exact Nat.le_of_eq rfl) (hb hby at_34) (fun _ _ => ⟨rfl, e36, (by decide : 0 + 0 ≤ _), (by decide : 0 + 0 ≤ _)⟩)
    dsimp only [Pt.U, Pt.locs, Pt.cells, Pt.slots] at X37 l37 y37 z37 st37 hQ37
    subst l37 y37 z37
    obtain ⟨hv37, N37q, e37q⟩ := hQ37
    have N37 := Fr.app N36 N37q
    rw [show own_ref (7 : Int32) en1 en2 en3 en4 en5 en6 en7 en8 = .ref en7 from rfl] at hv37
    subst hv37
    have e37 : T37.heap = h0 := e37q
    obtain ⟨cq38, kq38, q38a, q38b, q38c⟩ := isOf hZ e37 E_en7
    obtain ⟨_, _, ⟨T38, L38, k38, n38⟩, -, X38, ⟨Lc38, hQ38, l38, y38, z38⟩, st38⟩ := X37.virtualBack hx (y := (⟨"com/example/broker/broker/wire/Command", "code", "()I"⟩ : MethodName)) (z := (⟨"com/example/broker/broker/wire/Command", "code", "()I"⟩ : MethodName)) hown (mvT hZ (hw _ (List.mem_of_getElem? (i := 22) rfl))) (mvT hZ (hw _ (List.mem_of_getElem? (i := 23) rfl))) (notFace_of_selects (args := #[]) (mvT hZ (hw _ (List.mem_of_getElem? (i := 25) rfl)))) (mvT hZ (hw _ (List.mem_of_getElem? (i := 25) rfl))) (mvT hZ (hw _ (List.mem_of_getElem? (i := 24) rfl))) (by decide) (backOf (W := 0) (rm3 l Z a0 hw [] en7 (7 : Int32) h0 n0 Z0 F_en7) hZ (hw _ (List.mem_of_getElem? (i := 26) rfl)) (hw _ (List.mem_of_getElem? (i := 3) rfl)) (by decide) (by decide)) q38a q38c (g := (mkF m 52 #[iv p1, iv p2, iv (7 : Int32), rv en7, rv en7] [(.ref en7)])) rfl (by rw [hml]; rfl) (Steps.refl _) (argsL := []) (rest := []) (lenOf pd_1 rfl) rfl (by show 2 * 0 + _ ≤ _; exact Nat.le_of_eq rfl) (hb hby at_52) (fun _ _ => ⟨rfl, e37, (by decide : 0 + 0 ≤ _), (by decide : 0 + 0 ≤ _)⟩)
    dsimp only [Pt.U, Pt.locs, Pt.cells, Pt.slots] at X38 l38 y38 z38 st38 hQ38
    subst l38 y38 z38
    obtain ⟨rfl, N38q, e38q⟩ := hQ38
    have N38 := Fr.app N37 N38q
    have e38 : T38.heap = h0 := e38q
    have pre39 : ∀ t, own_S p e below T38 m 62 #[iv p1, iv p2, iv (7 : Int32), rv en7, rv en7] [(.int (1 : Int32))] t → Steps p.tables e below (s₁.setTop (entryFrame m #[(.int p1), (.int p2)] maxLocals)) t := fun t k => prej1 t (by
      show own_S p e below s₁ m 28 #[iv p1, iv p2, iv (7 : Int32), .unset, .unset] [] _
      refine XS.iloadN X0.here hx rfl (hb hby at_28) rfl ?_
      show own_S p e below s₁ m 29 #[iv p1, iv p2, iv (7 : Int32), .unset, .unset] [(.int (7 : Int32))] _
      refine st36 _ ?_
      show own_S p e below T36 m 32 #[iv p1, iv p2, iv (7 : Int32), .unset, .unset] [(.ref en7)] _
      refine XS.astoreN X36.here hx rfl (hb hby at_32) rfl rfl (l' := #[iv p1, iv p2, iv (7 : Int32), rv en7, .unset]) rfl ?_
      show own_S p e below T36 m 33 #[iv p1, iv p2, iv (7 : Int32), rv en7, .unset] [] _
      refine XS.iloadN X36.here hx rfl (hb hby at_33) rfl ?_
      show own_S p e below T36 m 34 #[iv p1, iv p2, iv (7 : Int32), rv en7, .unset] [(.int (7 : Int32))] _
      refine st37 _ ?_
      show own_S p e below T37 m 37 #[iv p1, iv p2, iv (7 : Int32), rv en7, .unset] [(.ref en7)] _
      refine XS.astore X37.here hx rfl (hb hby at_37) rfl rfl (l' := #[iv p1, iv p2, iv (7 : Int32), rv en7, rv en7]) rfl ?_
      show own_S p e below T37 m 39 #[iv p1, iv p2, iv (7 : Int32), rv en7, rv en7] [] _
      refine XS.aloadN X37.here hx rfl (hb hby at_39) rfl rfl ?_
      show own_S p e below T37 m 40 #[iv p1, iv p2, iv (7 : Int32), rv en7, rv en7] [(.ref en7)] _
      refine XS.aload X37.here hx rfl (hb hby at_40) rfl rfl ?_
      show own_S p e below T37 m 42 #[iv p1, iv p2, iv (7 : Int32), rv en7, rv en7] [(.ref en7), (.ref en7)] _
      refine Jvm.RoadKit.acmp (g := (mkF m 42 #[iv p1, iv p2, iv (7 : Int32), rv en7, rv en7] [(.ref en7), (.ref en7)])) X37 hx rfl rfl rfl (pc0 := 42) (pc' := 47) (same := true) rfl (hb hby at_42) rfl (decide_eq_true rfl) (by decide) (by decide) ?_
      show own_S p e below T37 m 47 #[iv p1, iv p2, iv (7 : Int32), rv en7, rv en7] [] _
      refine XS.aloadN X37.here hx rfl (hb hby at_47) rfl rfl ?_
      show own_S p e below T37 m 48 #[iv p1, iv p2, iv (7 : Int32), rv en7, rv en7] [(.ref en7)] _
      refine XS.ifnullNo X37.here hx rfl (hb hby at_48) rfl ?_
      show own_S p e below T37 m 51 #[iv p1, iv p2, iv (7 : Int32), rv en7, rv en7] [] _
      refine XS.aloadN X37.here hx rfl (hb hby at_51) rfl rfl ?_
      show own_S p e below T37 m 52 #[iv p1, iv p2, iv (7 : Int32), rv en7, rv en7] [(.ref en7)] _
      refine st38.trans ?_
      show own_S p e below T38 m 55 #[iv p1, iv p2, iv (7 : Int32), rv en7, rv en7] [(.int (7 : Int32))] _
      refine XS.iloadN X38.here hx rfl (hb hby at_55) rfl ?_
      show own_S p e below T38 m 56 #[iv p1, iv p2, iv (7 : Int32), rv en7, rv en7] [(.int (7 : Int32)), (.int (7 : Int32))] _
      refine XS.icmpYes X38.here hx rfl (pc0 := 56) (pc' := 61) rfl (hb hby at_56) rfl (teq (by decide : (7 : Int32) = (7 : Int32))).1 (by decide) (by decide) ?_
      show own_S p e below T38 m 61 #[iv p1, iv p2, iv (7 : Int32), rv en7, rv en7] [] _
      refine XS.iconst X38.here hx rfl (hb hby at_61) ?_
      exact k)
    obtain ⟨fs, hr, hrun, hended, hW, hsame⟩ := X38.leave (v := some (.int (nar .boolean (1 : Int32)))) (fun h => by rw [Bd.returns] at h; cases h)
    refine ⟨_, _, pre39 _ ?_, hrun, hended, _, _, rfl, ?_, ⟨_, rfl⟩, hW, hsame.mono (by decide) (by decide)⟩
    · show own_S p e below T38 m 62 #[iv p1, iv p2, iv (7 : Int32), rv en7, rv en7] [(.int (1 : Int32))] _
      exact retN X38 hx (t := .boolean) Bd.returns (by simp) (hb hby at_62) hr
    · show Q0 Z p1 p2 en1 en2 en3 en4 en5 en6 en7 en8 aA kA h0 n0 _ T38.heap _
      rw [e38]
      exact ⟨rfl, N38⟩
  ·  -- case
    obtain ⟨_, _, ⟨T40, L40, k40, n40⟩, -, X40, ⟨Lc40, hQ40, l40, y40, z40⟩, st40⟩ := Jvm.LawKit.callS X0 hx (y := (⟨"com/example/broker/broker/wire/Command", "of", "(I)Lcom/example/broker/broker/wire/Command;"⟩ : MethodName)) hown (mvT hZ (hw _ (List.mem_of_getElem? (i := 1) rfl))) (mvT hZ (hw _ (List.mem_of_getElem? (i := 2) rfl))) (mvT hZ (hw _ (List.mem_of_getElem? (i := 3) rfl))) (mvT hZ (hw _ (List.mem_of_getElem? (i := 4) rfl))) (by decide) (backOf (W := 0) (rm1 l Z a0 hw [] (8 : Int32) en1 en2 en3 en4 en5 en6 en7 en8 aA kA h0 n0 Z0 S_en1 S_en2 S_en3 S_en4 S_en5 S_en6 S_en7 S_en8 S_A V_A F_en1 F_en2 F_en3 F_en4 F_en5 F_en6 F_en7 F_en8 E_en1 E_en2 E_en3 E_en4 E_en5 E_en6 E_en7 E_en8) hZ (hw _ (List.mem_of_getElem? (i := 4) rfl)) (hw _ (List.mem_of_getElem? (i := 3) rfl)) (by decide) (by decide)) (g := (mkF m 29 #[iv p1, iv p2, iv (8 : Int32), .unset, .unset] [(.int (8 : Int32))])) rfl (by rw [hml]; rfl) (argsL := [(.int (8 : Int32))]) (rest := []) (lenOf pd_0 rfl) rfl (by show 2 * 0 + _ ≤ _; exact Nat.le_of_eq rfl) (hb hby at_29) (fun _ _ => ⟨rfl, e0, (by decide : 0 + 0 ≤ _), (by decide : 0 + 0 ≤ _)⟩)
    dsimp only [Pt.U, Pt.locs, Pt.cells, Pt.slots] at X40 l40 y40 z40 st40 hQ40
    subst l40 y40 z40
    obtain ⟨hv40, N40q, e40q⟩ := hQ40
    have N40 := Fr.app N0 N40q
    rw [show own_ref (8 : Int32) en1 en2 en3 en4 en5 en6 en7 en8 = .ref en8 from rfl] at hv40
    subst hv40
    have e40 : T40.heap = h0 := e40q
    obtain ⟨_, _, ⟨T41, L41, k41, n41⟩, -, X41, ⟨Lc41, hQ41, l41, y41, z41⟩, st41⟩ := Jvm.LawKit.callS X40 hx (y := (⟨"com/example/broker/broker/wire/CommandOfPinLaw", "expected", "(I)Lcom/example/broker/broker/wire/Command;"⟩ : MethodName)) hown (mvT hZ (hw _ (List.mem_of_getElem? (i := 17) rfl))) (mvT hZ (hw _ (List.mem_of_getElem? (i := 18) rfl))) (mvT hZ (hw _ (List.mem_of_getElem? (i := 19) rfl))) (mvT hZ (hw _ (List.mem_of_getElem? (i := 20) rfl))) (by decide) (backOf (W := 0) (rm2 l Z a0 hw [] (8 : Int32) en1 en2 en3 en4 en5 en6 en7 en8 aA kA h0 n0 Z0 S_en1 S_en2 S_en3 S_en4 S_en5 S_en6 S_en7 S_en8 S_A V_A F_en1 F_en2 F_en3 F_en4 F_en5 F_en6 F_en7 F_en8 E_en1 E_en2 E_en3 E_en4 E_en5 E_en6 E_en7 E_en8) hZ (hw _ (List.mem_of_getElem? (i := 20) rfl)) (hw _ (List.mem_of_getElem? (i := 19) rfl)) (by decide) (by decide)) (g := (mkF m 34 #[iv p1, iv p2, iv (8 : Int32), rv en8, .unset] [(.int (8 : Int32))])) rfl (by rw [hml]; rfl) (argsL := [(.int (8 : Int32))]) (rest := []) (lenOf pd_0 rfl) rfl (by show 2 * 0 + _ ≤ _; exact Nat.le_of_eq rfl) (hb hby at_34) (fun _ _ => ⟨rfl, e40, (by decide : 0 + 0 ≤ _), (by decide : 0 + 0 ≤ _)⟩)
    dsimp only [Pt.U, Pt.locs, Pt.cells, Pt.slots] at X41 l41 y41 z41 st41 hQ41
    subst l41 y41 z41
    obtain ⟨hv41, N41q, e41q⟩ := hQ41
    have N41 := Fr.app N40 N41q
    rw [show own_ref (8 : Int32) en1 en2 en3 en4 en5 en6 en7 en8 = .ref en8 from rfl] at hv41
    subst hv41
    have e41 : T41.heap = h0 := e41q
    obtain ⟨cq42, kq42, q42a, q42b, q42c⟩ := isOf hZ e41 E_en8
    obtain ⟨_, _, ⟨T42, L42, k42, n42⟩, -, X42, ⟨Lc42, hQ42, l42, y42, z42⟩, st42⟩ := X41.virtualBack hx (y := (⟨"com/example/broker/broker/wire/Command", "code", "()I"⟩ : MethodName)) (z := (⟨"com/example/broker/broker/wire/Command", "code", "()I"⟩ : MethodName)) hown (mvT hZ (hw _ (List.mem_of_getElem? (i := 22) rfl))) (mvT hZ (hw _ (List.mem_of_getElem? (i := 23) rfl))) (notFace_of_selects (args := #[]) (mvT hZ (hw _ (List.mem_of_getElem? (i := 25) rfl)))) (mvT hZ (hw _ (List.mem_of_getElem? (i := 25) rfl))) (mvT hZ (hw _ (List.mem_of_getElem? (i := 24) rfl))) (by decide) (backOf (W := 0) (rm3 l Z a0 hw [] en8 (8 : Int32) h0 n0 Z0 F_en8) hZ (hw _ (List.mem_of_getElem? (i := 26) rfl)) (hw _ (List.mem_of_getElem? (i := 3) rfl)) (by decide) (by decide)) q42a q42c (g := (mkF m 52 #[iv p1, iv p2, iv (8 : Int32), rv en8, rv en8] [(.ref en8)])) rfl (by rw [hml]; rfl) (Steps.refl _) (argsL := []) (rest := []) (lenOf pd_1 rfl) rfl (by show 2 * 0 + _ ≤ _; exact Nat.le_of_eq rfl) (hb hby at_52) (fun _ _ => ⟨rfl, e41, (by decide : 0 + 0 ≤ _), (by decide : 0 + 0 ≤ _)⟩)
    dsimp only [Pt.U, Pt.locs, Pt.cells, Pt.slots] at X42 l42 y42 z42 st42 hQ42
    subst l42 y42 z42
    obtain ⟨rfl, N42q, e42q⟩ := hQ42
    have N42 := Fr.app N41 N42q
    have e42 : T42.heap = h0 := e42q
    have pre43 : ∀ t, own_S p e below T42 m 62 #[iv p1, iv p2, iv (8 : Int32), rv en8, rv en8] [(.int (1 : Int32))] t → Steps p.tables e below (s₁.setTop (entryFrame m #[(.int p1), (.int p2)] maxLocals)) t := fun t k => prej1 t (by
      show own_S p e below s₁ m 28 #[iv p1, iv p2, iv (8 : Int32), .unset, .unset] [] _
      refine XS.iloadN X0.here hx rfl (hb hby at_28) rfl ?_
      show own_S p e below s₁ m 29 #[iv p1, iv p2, iv (8 : Int32), .unset, .unset] [(.int (8 : Int32))] _
      refine st40 _ ?_
      show own_S p e below T40 m 32 #[iv p1, iv p2, iv (8 : Int32), .unset, .unset] [(.ref en8)] _
      refine XS.astoreN X40.here hx rfl (hb hby at_32) rfl rfl (l' := #[iv p1, iv p2, iv (8 : Int32), rv en8, .unset]) rfl ?_
      show own_S p e below T40 m 33 #[iv p1, iv p2, iv (8 : Int32), rv en8, .unset] [] _
      refine XS.iloadN X40.here hx rfl (hb hby at_33) rfl ?_
      show own_S p e below T40 m 34 #[iv p1, iv p2, iv (8 : Int32), rv en8, .unset] [(.int (8 : Int32))] _
      refine st41 _ ?_
      show own_S p e below T41 m 37 #[iv p1, iv p2, iv (8 : Int32), rv en8, .unset] [(.ref en8)] _
      refine XS.astore X41.here hx rfl (hb hby at_37) rfl rfl (l' := #[iv p1, iv p2, iv (8 : Int32), rv en8, rv en8]) rfl ?_
      show own_S p e below T41 m 39 #[iv p1, iv p2, iv (8 : Int32), rv en8, rv en8] [] _
      refine XS.aloadN X41.here hx rfl (hb hby at_39) rfl rfl ?_
      show own_S p e below T41 m 40 #[iv p1, iv p2, iv (8 : Int32), rv en8, rv en8] [(.ref en8)] _
      refine XS.aload X41.here hx rfl (hb hby at_40) rfl rfl ?_
      show own_S p e below T41 m 42 #[iv p1, iv p2, iv (8 : Int32), rv en8, rv en8] [(.ref en8), (.ref en8)] _
      refine Jvm.RoadKit.acmp (g := (mkF m 42 #[iv p1, iv p2, iv (8 : Int32), rv en8, rv en8] [(.ref en8), (.ref en8)])) X41 hx rfl rfl rfl (pc0 := 42) (pc' := 47) (same := true) rfl (hb hby at_42) rfl (decide_eq_true rfl) (by decide) (by decide) ?_
      show own_S p e below T41 m 47 #[iv p1, iv p2, iv (8 : Int32), rv en8, rv en8] [] _
      refine XS.aloadN X41.here hx rfl (hb hby at_47) rfl rfl ?_
      show own_S p e below T41 m 48 #[iv p1, iv p2, iv (8 : Int32), rv en8, rv en8] [(.ref en8)] _
      refine XS.ifnullNo X41.here hx rfl (hb hby at_48) rfl ?_
      show own_S p e below T41 m 51 #[iv p1, iv p2, iv (8 : Int32), rv en8, rv en8] [] _
      refine XS.aloadN X41.here hx rfl (hb hby at_51) rfl rfl ?_
      show own_S p e below T41 m 52 #[iv p1, iv p2, iv (8 : Int32), rv en8, rv en8] [(.ref en8)] _
      refine st42.trans ?_
      show own_S p e below T42 m 55 #[iv p1, iv p2, iv (8 : Int32), rv en8, rv en8] [(.int (8 : Int32))] _
      refine XS.iloadN X42.here hx rfl (hb hby at_55) rfl ?_
      show own_S p e below T42 m 56 #[iv p1, iv p2, iv (8 : Int32), rv en8, rv en8] [(.int (8 : Int32)), (.int (8 : Int32))] _
      refine XS.icmpYes X42.here hx rfl (pc0 := 56) (pc' := 61) rfl (hb hby at_56) rfl (teq (by decide : (8 : Int32) = (8 : Int32))).1 (by decide) (by decide) ?_
      show own_S p e below T42 m 61 #[iv p1, iv p2, iv (8 : Int32), rv en8, rv en8] [] _
      refine XS.iconst X42.here hx rfl (hb hby at_61) ?_
      exact k)
    obtain ⟨fs, hr, hrun, hended, hW, hsame⟩ := X42.leave (v := some (.int (nar .boolean (1 : Int32)))) (fun h => by rw [Bd.returns] at h; cases h)
    refine ⟨_, _, pre43 _ ?_, hrun, hended, _, _, rfl, ?_, ⟨_, rfl⟩, hW, hsame.mono (by decide) (by decide)⟩
    · show own_S p e below T42 m 62 #[iv p1, iv p2, iv (8 : Int32), rv en8, rv en8] [(.int (1 : Int32))] _
      exact retN X42 hx (t := .boolean) Bd.returns (by simp) (hb hby at_62) hr
    · show Q0 Z p1 p2 en1 en2 en3 en4 en5 en6 en7 en8 aA kA h0 n0 _ T42.heap _
      rw [e42]
      exact ⟨rfl, N42⟩
  ·  -- case
    obtain ⟨_, _, ⟨T44, L44, k44, n44⟩, -, X44, ⟨Lc44, hQ44, l44, y44, z44⟩, st44⟩ := Jvm.LawKit.callS X0 hx (y := (⟨"com/example/broker/broker/wire/Command", "of", "(I)Lcom/example/broker/broker/wire/Command;"⟩ : MethodName)) hown (mvT hZ (hw _ (List.mem_of_getElem? (i := 1) rfl))) (mvT hZ (hw _ (List.mem_of_getElem? (i := 2) rfl))) (mvT hZ (hw _ (List.mem_of_getElem? (i := 3) rfl))) (mvT hZ (hw _ (List.mem_of_getElem? (i := 4) rfl))) (by decide) (backOf (W := 0) (rm1 l Z a0 hw [] cv en1 en2 en3 en4 en5 en6 en7 en8 aA kA h0 n0 Z0 S_en1 S_en2 S_en3 S_en4 S_en5 S_en6 S_en7 S_en8 S_A V_A F_en1 F_en2 F_en3 F_en4 F_en5 F_en6 F_en7 F_en8 E_en1 E_en2 E_en3 E_en4 E_en5 E_en6 E_en7 E_en8) hZ (hw _ (List.mem_of_getElem? (i := 4) rfl)) (hw _ (List.mem_of_getElem? (i := 3) rfl)) (by decide) (by decide)) (g := (mkF m 29 #[iv p1, iv p2, iv cv, .unset, .unset] [(.int cv)])) rfl (by rw [hml]; rfl) (argsL := [(.int cv)]) (rest := []) (lenOf pd_0 rfl) rfl (by show 2 * 0 + _ ≤ _; exact Nat.le_of_eq rfl) (hb hby at_29) (fun _ _ => ⟨rfl, e0, (by decide : 0 + 0 ≤ _), (by decide : 0 + 0 ≤ _)⟩)
    dsimp only [Pt.U, Pt.locs, Pt.cells, Pt.slots] at X44 l44 y44 z44 st44 hQ44
    subst l44 y44 z44
    obtain ⟨hv44, N44q, e44q⟩ := hQ44
    have N44 := Fr.app N0 N44q
    rw [show own_ref cv en1 en2 en3 en4 en5 en6 en7 en8 = .null from own_null hout en1 en2 en3 en4 en5 en6 en7 en8] at hv44
    subst hv44
    have e44 : T44.heap = h0 := e44q
    obtain ⟨_, _, ⟨T45, L45, k45, n45⟩, -, X45, ⟨Lc45, hQ45, l45, y45, z45⟩, st45⟩ := Jvm.LawKit.callS X44 hx (y := (⟨"com/example/broker/broker/wire/CommandOfPinLaw", "expected", "(I)Lcom/example/broker/broker/wire/Command;"⟩ : MethodName)) hown (mvT hZ (hw _ (List.mem_of_getElem? (i := 17) rfl))) (mvT hZ (hw _ (List.mem_of_getElem? (i := 18) rfl))) (mvT hZ (hw _ (List.mem_of_getElem? (i := 19) rfl))) (mvT hZ (hw _ (List.mem_of_getElem? (i := 20) rfl))) (by decide) (backOf (W := 0) (rm2 l Z a0 hw [] cv en1 en2 en3 en4 en5 en6 en7 en8 aA kA h0 n0 Z0 S_en1 S_en2 S_en3 S_en4 S_en5 S_en6 S_en7 S_en8 S_A V_A F_en1 F_en2 F_en3 F_en4 F_en5 F_en6 F_en7 F_en8 E_en1 E_en2 E_en3 E_en4 E_en5 E_en6 E_en7 E_en8) hZ (hw _ (List.mem_of_getElem? (i := 20) rfl)) (hw _ (List.mem_of_getElem? (i := 19) rfl)) (by decide) (by decide)) (g := (mkF m 34 #[iv p1, iv p2, iv cv, .val .null, .unset] [(.int cv)])) rfl (by rw [hml]; rfl) (argsL := [(.int cv)]) (rest := []) (lenOf pd_0 rfl) rfl (by show 2 * 0 + _ ≤ _; exact Nat.le_of_eq rfl) (hb hby at_34) (fun _ _ => ⟨rfl, e44, (by decide : 0 + 0 ≤ _), (by decide : 0 + 0 ≤ _)⟩)
    dsimp only [Pt.U, Pt.locs, Pt.cells, Pt.slots] at X45 l45 y45 z45 st45 hQ45
    subst l45 y45 z45
    obtain ⟨hv45, N45q, e45q⟩ := hQ45
    have N45 := Fr.app N44 N45q
    rw [show own_ref cv en1 en2 en3 en4 en5 en6 en7 en8 = .null from own_null hout en1 en2 en3 en4 en5 en6 en7 en8] at hv45
    subst hv45
    have e45 : T45.heap = h0 := e45q
    have pre46 : ∀ t, own_S p e below T45 m 62 #[iv p1, iv p2, iv cv, .val .null, .val .null] [(.int (1 : Int32))] t → Steps p.tables e below (s₁.setTop (entryFrame m #[(.int p1), (.int p2)] maxLocals)) t := fun t k => prej1 t (by
      show own_S p e below s₁ m 28 #[iv p1, iv p2, iv cv, .unset, .unset] [] _
      refine XS.iloadN X0.here hx rfl (hb hby at_28) rfl ?_
      show own_S p e below s₁ m 29 #[iv p1, iv p2, iv cv, .unset, .unset] [(.int cv)] _
      refine st44 _ ?_
      show own_S p e below T44 m 32 #[iv p1, iv p2, iv cv, .unset, .unset] [.null] _
      refine XS.astoreN X44.here hx rfl (hb hby at_32) rfl rfl (l' := #[iv p1, iv p2, iv cv, .val .null, .unset]) rfl ?_
      show own_S p e below T44 m 33 #[iv p1, iv p2, iv cv, .val .null, .unset] [] _
      refine XS.iloadN X44.here hx rfl (hb hby at_33) rfl ?_
      show own_S p e below T44 m 34 #[iv p1, iv p2, iv cv, .val .null, .unset] [(.int cv)] _
      refine st45 _ ?_
      show own_S p e below T45 m 37 #[iv p1, iv p2, iv cv, .val .null, .unset] [.null] _
      refine XS.astore X45.here hx rfl (hb hby at_37) rfl rfl (l' := #[iv p1, iv p2, iv cv, .val .null, .val .null]) rfl ?_
      show own_S p e below T45 m 39 #[iv p1, iv p2, iv cv, .val .null, .val .null] [] _
      refine XS.aloadN X45.here hx rfl (hb hby at_39) rfl rfl ?_
      show own_S p e below T45 m 40 #[iv p1, iv p2, iv cv, .val .null, .val .null] [.null] _
      refine XS.aload X45.here hx rfl (hb hby at_40) rfl rfl ?_
      show own_S p e below T45 m 42 #[iv p1, iv p2, iv cv, .val .null, .val .null] [.null, .null] _
      refine Jvm.RoadKit.acmp (g := (mkF m 42 #[iv p1, iv p2, iv cv, .val .null, .val .null] [.null, .null])) X45 hx rfl rfl rfl (pc0 := 42) (pc' := 47) (same := true) rfl (hb hby at_42) rfl (decide_eq_true rfl) (by decide) (by decide) ?_
      show own_S p e below T45 m 47 #[iv p1, iv p2, iv cv, .val .null, .val .null] [] _
      refine XS.aloadN X45.here hx rfl (hb hby at_47) rfl rfl ?_
      show own_S p e below T45 m 48 #[iv p1, iv p2, iv cv, .val .null, .val .null] [.null] _
      refine XS.ifnullYes X45.here hx rfl (pc0 := 48) (pc' := 61) rfl (hb hby at_48) rfl (by decide) (by decide) ?_
      show own_S p e below T45 m 61 #[iv p1, iv p2, iv cv, .val .null, .val .null] [] _
      refine XS.iconst X45.here hx rfl (hb hby at_61) ?_
      exact k)
    obtain ⟨fs, hr, hrun, hended, hW, hsame⟩ := X45.leave (v := some (.int (nar .boolean (1 : Int32)))) (fun h => by rw [Bd.returns] at h; cases h)
    refine ⟨_, _, pre46 _ ?_, hrun, hended, _, _, rfl, ?_, ⟨_, rfl⟩, hW, hsame.mono (by decide) (by decide)⟩
    · show own_S p e below T45 m 62 #[iv p1, iv p2, iv cv, .val .null, .val .null] [(.int (1 : Int32))] _
      exact retN X45 hx (t := .boolean) Bd.returns (by simp) (hb hby at_62) hr
    · show Q0 Z p1 p2 en1 en2 en3 en4 en5 en6 en7 en8 aA kA h0 n0 _ T45.heap _
      rw [e45]
      exact ⟨rfl, N45⟩
set_option maxRecDepth 65536 in
set_option maxHeartbeats 40000000 in
theorem comes_1 {Post : Tables → Env → Array Value → State → Outcome → State → Prop} (hpost : ∀ tb e args s v u, (limb_1_1.after args s (.returned v) u = true ∧ limb_1_2.after args s (.returned v) u = true ∧ True) → FrameEnd s (.returned v) u (Jvm.fieldLocs frame_1_writes args s ++ Jvm.arrayLocs frame_1_arrays args s ++ Jvm.staticLocs frame_1_statics s) 0 0 → Post tb e args s (.returned v) u) :
    ArmFor flags0 classFile x code maxLocals ret World_1 tables_1 room_1 Calls_1 rest_1 Pre_1 Post := by
  intro l hfl _ _ p e ha hc hk s m args below hf hA hF happ hP
  obtain ⟨hcalls, hrest, hpre⟩ := hP
  obtain ⟨-, -, -, hnamed, -, -, -, hat⟩ := (Spec.applies_iff hf).mp happ
  obtain ⟨hg, hn⟩ := and_e (Cond.before_iff.mp (show (Jvm.Cond.and given_1 narrow_1).before args s = true from hpre))
  obtain ⟨g1, g2⟩ := and_e hg
  obtain ⟨g3, g4⟩ := and_e g2
  obtain ⟨w0, w1, rfl⟩ : ∃ w0 w1 : Value, args = #[w0, w1] := by
    have hs : args.size = 2 := by simpa [Cond.value, given_1] using g1
    obtain ⟨L⟩ := args
    match L, hs with
    | [w0, w1], _ => exact ⟨w0, w1, rfl⟩
  have hw := fun d (hd : d ∈ tables_1) => atoms_spec (ws := Jvm.Cond.code x code maxLocals ret :: tables_1) hat d (List.mem_cons_of_mem _ hd)
  have hfit : Fit s := fun {y c} hc i hi => by
    obtain ⟨ha, rfl⟩ := Array.getElem?_eq_some_iff.mp hc
    have q := List.all_eq_true.mp ((Array.all_eq_true_iff_forall_mem.mp hF) _ (Array.getElem_mem ha)) i (List.mem_range.mpr hi)
    simpa [Array.getElem?_eq_getElem hi] using q
  obtain ⟨i0, ei0⟩ := is_v g3
  obtain rfl : w0 = (.int i0) := Option.some.inj ei0
  obtain ⟨i1, ei1⟩ := is_v g4
  obtain rfl : w1 = (.int i1) := Option.some.inj ei1
  obtain ⟨n0, hn0⟩ := and_e hn
  obtain ⟨n1, hn1⟩ := and_e hn0
  obtain ⟨n2, hn2⟩ := and_e hn1
  obtain ⟨n3, hn3⟩ := and_e hn2
  obtain ⟨n4, hn4⟩ := and_e hn3
  obtain ⟨n5, hn5⟩ := and_e hn4
  obtain ⟨n6, hn6⟩ := and_e hn5
  obtain ⟨n7, hn7⟩ := and_e hn6
  obtain ⟨n8, hn8⟩ := and_e hn7
  obtain ⟨n9, hn9⟩ := and_e hn8
  obtain ⟨n10, hn10⟩ := and_e hn9
  obtain ⟨n11, hn11⟩ := and_e hn10
  obtain ⟨n12, hn12⟩ := and_e hn11
  obtain ⟨n13, hn13⟩ := and_e hn12
  obtain ⟨n14, hn14⟩ := and_e hn13
  obtain ⟨n15, hn15⟩ := and_e hn14
  obtain ⟨n16, hn16⟩ := and_e hn15
  obtain ⟨n17, hn17⟩ := and_e hn16
  obtain ⟨n18, hn18⟩ := and_e hn17
  obtain ⟨n19, hn19⟩ := and_e hn18
  obtain ⟨n20, hn20⟩ := and_e hn19
  obtain ⟨n21, hn21⟩ := and_e hn20
  obtain ⟨n22, hn22⟩ := and_e hn21
  obtain ⟨n23, hn23⟩ := and_e hn22
  obtain ⟨n24, hn24⟩ := and_e hn23
  have n25 := hn24
  obtain ⟨en1, ev_en1⟩ := exa_v n2
  have E_en1 := Exa.start ev_en1 n2
  have S_en1 := Sta.start ev_en1 (Or.inr ⟨(hw _ (List.mem_of_getElem? (i := 3) rfl)), (hw _ (List.mem_of_getElem? (i := 7) rfl))⟩)
  have F_en1 := Fld.start ((fld_at ev_en1).symm.trans (own_eqI n4))
  obtain ⟨en2, ev_en2⟩ := exa_v n5
  have E_en2 := Exa.start ev_en2 n5
  have S_en2 := Sta.start ev_en2 (Or.inr ⟨(hw _ (List.mem_of_getElem? (i := 3) rfl)), (hw _ (List.mem_of_getElem? (i := 10) rfl))⟩)
  have F_en2 := Fld.start ((fld_at ev_en2).symm.trans (own_eqI n7))
  obtain ⟨en3, ev_en3⟩ := exa_v n8
  have E_en3 := Exa.start ev_en3 n8
  have S_en3 := Sta.start ev_en3 (Or.inr ⟨(hw _ (List.mem_of_getElem? (i := 3) rfl)), (hw _ (List.mem_of_getElem? (i := 11) rfl))⟩)
  have F_en3 := Fld.start ((fld_at ev_en3).symm.trans (own_eqI n10))
  obtain ⟨en4, ev_en4⟩ := exa_v n11
  have E_en4 := Exa.start ev_en4 n11
  have S_en4 := Sta.start ev_en4 (Or.inr ⟨(hw _ (List.mem_of_getElem? (i := 3) rfl)), (hw _ (List.mem_of_getElem? (i := 12) rfl))⟩)
  have F_en4 := Fld.start ((fld_at ev_en4).symm.trans (own_eqI n13))
  obtain ⟨en5, ev_en5⟩ := exa_v n14
  have E_en5 := Exa.start ev_en5 n14
  have S_en5 := Sta.start ev_en5 (Or.inr ⟨(hw _ (List.mem_of_getElem? (i := 3) rfl)), (hw _ (List.mem_of_getElem? (i := 13) rfl))⟩)
  have F_en5 := Fld.start ((fld_at ev_en5).symm.trans (own_eqI n16))
  obtain ⟨en6, ev_en6⟩ := exa_v n17
  have E_en6 := Exa.start ev_en6 n17
  have S_en6 := Sta.start ev_en6 (Or.inr ⟨(hw _ (List.mem_of_getElem? (i := 3) rfl)), (hw _ (List.mem_of_getElem? (i := 14) rfl))⟩)
  have F_en6 := Fld.start ((fld_at ev_en6).symm.trans (own_eqI n19))
  obtain ⟨en7, ev_en7⟩ := exa_v n20
  have E_en7 := Exa.start ev_en7 n20
  have S_en7 := Sta.start ev_en7 (Or.inr ⟨(hw _ (List.mem_of_getElem? (i := 3) rfl)), (hw _ (List.mem_of_getElem? (i := 15) rfl))⟩)
  have F_en7 := Fld.start ((fld_at ev_en7).symm.trans (own_eqI n22))
  obtain ⟨en8, ev_en8⟩ := exa_v n23
  have E_en8 := Exa.start ev_en8 n23
  have S_en8 := Sta.start ev_en8 (Or.inr ⟨(hw _ (List.mem_of_getElem? (i := 3) rfl)), (hw _ (List.mem_of_getElem? (i := 16) rfl))⟩)
  have F_en8 := Fld.start ((fld_at ev_en8).symm.trans (own_eqI n25))
  obtain ⟨aA, ev_A⟩ := arr_v n0
  have S_A := Sta.start ev_A (Or.inr ⟨(hw _ (List.mem_of_getElem? (i := 3) rfl)), (hw _ (List.mem_of_getElem? (i := 6) rfl))⟩)
  obtain ⟨clA, AA⟩ := Arr.start ev_A n0
  obtain ⟨aA', clA', q1, q2, q3⟩ := Term.length_spec (own_eqI n1)
  cases ev_A.symm.trans q1
  cases AA.1.symm.trans (State.arrayAt?_spec q2).1
  have q4 := Value.int.inj q3
  have w0e := (elem_in (own_eqR n3 ev_en1) ev_A (show (Term.int (0 : Int32)).eval _ s none [] s = some (.int (0 : Int32)) from rfl) AA.1).2
  have w1e := (elem_in (own_eqR n6 ev_en2) ev_A (show (Term.int (1 : Int32)).eval _ s none [] s = some (.int (1 : Int32)) from rfl) AA.1).2
  have w2e := (elem_in (own_eqR n9 ev_en3) ev_A (show (Term.int (2 : Int32)).eval _ s none [] s = some (.int (2 : Int32)) from rfl) AA.1).2
  have w3e := (elem_in (own_eqR n12 ev_en4) ev_A (show (Term.int (3 : Int32)).eval _ s none [] s = some (.int (3 : Int32)) from rfl) AA.1).2
  have w4e := (elem_in (own_eqR n15 ev_en5) ev_A (show (Term.int (4 : Int32)).eval _ s none [] s = some (.int (4 : Int32)) from rfl) AA.1).2
  have w5e := (elem_in (own_eqR n18 ev_en6) ev_A (show (Term.int (5 : Int32)).eval _ s none [] s = some (.int (5 : Int32)) from rfl) AA.1).2
  have w6e := (elem_in (own_eqR n21 ev_en7) ev_A (show (Term.int (6 : Int32)).eval _ s none [] s = some (.int (6 : Int32)) from rfl) AA.1).2
  have w7e := (elem_in (own_eqR n24 ev_en8) ev_A (show (Term.int (7 : Int32)).eval _ s none [] s = some (.int (7 : Int32)) from rfl) AA.1).2
  have hlt : clA.slots.size < 2 ^ 31 := own_small (own_eqI n1) ev_A (AA.fin (Vm.Alike.refl _))
  have V_A : Arv s s.heap aA clA.cls (.object "com/example/broker/broker/wire/Command") (8 : Int32) [(.ref en1), (.ref en2), (.ref en3), (.ref en4), (.ref en5), (.ref en6), (.ref en7), (.ref en8)] .null := Arv.start hfit AA hlt q4.symm (by decide) rfl ⟨w0e, w1e, w2e, w3e, w4e, w5e, w6e, w7e, trivial⟩
  obtain ⟨n, o, h1, h2, h3, _, L, rfl, ⟨rfl, N⟩, hq⟩ := rm0 l s _ hw tables_1 i0 i1 en1 en2 en3 en4 en5 en6 en7 en8 aA clA.cls s.heap s.heap.size (Nat.le_refl _) S_en1 S_en2 S_en3 S_en4 S_en5 S_en6 S_en7 S_en8 S_A V_A F_en1 F_en2 F_en3 F_en4 F_en5 F_en6 F_en7 F_en8 E_en1 E_en2 E_en3 E_en4 E_en5 E_en6 E_en7 E_en8 p e ha hc hk s m _ below hf ((Spec.applies_iff_loose hf).mp happ).1 ⟨rfl, State.Warmed39.refl s, rfl⟩ trivial
  refine ⟨n, _, h1, h2, h3, hpost _ _ _ _ _ _ ⟨Cond.after_iff.mpr rfl, Cond.after_iff.mpr (eq_i res_at (Term.int_eval (1)) rfl), trivial⟩ ⟨hq.1, hq.2.1, (hq.2.2.sift fun y hy => Or.inr (N y hy)).mono (by decide) (by decide)⟩⟩
theorem main_1_1 : Claimed_1_1 := comes_1 fun _ _ _ _ _ _ h hF => ⟨h.1, hF⟩
theorem main_1_2 : Claimed_1_2 := comes_1 fun _ _ _ _ _ _ h hF => ⟨h.2.1, hF⟩
end Jvm.Pilot.@@N@@
namespace Jvm.Pilot.@@N@@
open Jvm Jvm.ClassFile Sem Op Lib Jvm.Free Jvm.Stand Jvm.Pilot.@@N@@.Jvm.D
/-! MADE BY PROGRAM (witnessworld.py) out of the Statement's table words and the real class files: 13 classes; the members and pool entries that the words name. The judged class is class 1, her method 2. -/
namespace start1
open Jvm.ClassFile
def u (s : String) : CpInfo := .utf8 (stringToUtf16 s)
/-- a pool by its gaps: so many unusable entries, then the entry; so many at the end -/
def gap : Nat → List CpInfo → List CpInfo
  | 0, r => r
  | n + 1, r => .unusable :: gap n r
def poolList (es : List (Nat × CpInfo)) (last : Nat) : List CpInfo := es.foldr (fun e r => gap e.1 (e.2 :: r)) (gap last [])
def pool (es : List (Nat × CpInfo)) (last : Nat) : Array CpInfo := ⟨poolList es last⟩
def fileOf (pool : Array CpInfo) (this : Nat) (attrs : Array Attribute := #[]) (ms : Array MethodInfo := #[]) (fl : Nat := 33) (sup : Nat := 0) (ifs : Array Nat := #[]) (fds : Array FieldInfo := #[]) : ClassFile where
  minorVersion := 0
  majorVersion := 65
  constantPool := pool
  accessFlags := fl
  thisClass := this
  superClass := sup
  interfaces := ifs
  fields := fds
  methods := ms
  attributes := attrs
def plain (name : String) (sup : Option ClassId) : Class where
  name := name
  kind := .ordinary
  loader := none
  accessFlags := 33
  super := sup
  interfaces := #[]
  cf := none
  fields := #[]
  methods := #[]
  instanceTypes := #[]
  staticTypes := #[]
  resolved := #[]
  callSites := []
  init := .initialized
  statics := none
  mirror := none

def pool0 : Array CpInfo := pool [(5, u "<init>"), (0, u "()V"), (1, .class_ 10), (1, u "java/lang/Object")] 113

def k0m0 : Method := { name := "<init>", desc := "()V", sig := { parameters := [], returnType := none }, accessFlags := 1, code := none }
/-- java/lang/Object -/
def k0 : Class := { plain "java/lang/Object" none with
  accessFlags := 33
  interfaces := #[]
  cf := some (fileOf pool0 8 #[] #[{ accessFlags := 1, nameIndex := 5, descriptorIndex := 6, attributes := #[] }] 33 0 #[] #[])
  fields := #[]
  methods := #[k0m0]
  instanceTypes := #[]
  staticTypes := #[]
  resolved := Array.replicate 124 none
  statics := none }

def pool1 : Array CpInfo := pool [(2, .class_ 4), (1, u "java/lang/Object"), (0, u "<init>"), (0, u "()V"), (0, .fieldref 8 9), (0, .class_ 10), (0, .nameAndType 11 12), (0, u "com/example/broker/broker/wire/Command"), (0, u "SEND"), (0, u "Lcom/example/broker/broker/wire/Command;"), (0, .fieldref 8 14), (0, .nameAndType 15 12), (0, u "READ"), (0, .fieldref 8 17), (0, .nameAndType 18 12), (0, u "SUBSCRIBE"), (0, .fieldref 8 20), (0, .nameAndType 21 12), (0, u "DELIVER"), (0, .fieldref 8 23), (0, .nameAndType 24 12), (0, u "ACK"), (0, .fieldref 8 26), (0, .nameAndType 27 12), (0, u "UNSUBSCRIBE"), (0, .fieldref 8 29), (0, .nameAndType 30 12), (0, u "STATS"), (0, .fieldref 8 32), (0, .nameAndType 33 12), (0, u "ACK_EACH"), (0, .integer 32768), (0, .methodref 8 36), (0, .nameAndType 37 38), (0, u "of"), (0, u "(I)Lcom/example/broker/broker/wire/Command;"), (0, .methodref 40 41), (0, .class_ 42), (0, .nameAndType 43 38), (0, u "com/example/broker/broker/wire/CommandOfPinLaw"), (0, u "expected"), (0, .methodref 8 45), (0, .nameAndType 46 47), (0, u "code"), (0, u "()I"), (3, u "law"), (0, u "(II)Z")] 2

def k1m0 : Method := { name := "<init>", desc := "()V", sig := { parameters := [], returnType := none }, accessFlags := 2, code := none }
def k1c1 : Code := { maxStack := 2, maxLocals := 1, code := method_2_code, exceptionTable := #[], attributes := #[] }
def k1m1 : Method := { name := "expected", desc := "(I)Lcom/example/broker/broker/wire/Command;", sig := { parameters := [.int], returnType := some (.object "com/example/broker/broker/wire/Command") }, accessFlags := 10, code := some k1c1 }
def k1c2 : Code := { maxStack := 2, maxLocals := 5, code := code, exceptionTable := #[], attributes := #[] }
def k1m2 : Method := { name := "law", desc := "(II)Z", sig := { parameters := [.int, .int], returnType := some .boolean }, accessFlags := 9, code := some k1c2 }
/-- com/example/broker/broker/wire/CommandOfPinLaw -/
def k1 : Class := { plain "com/example/broker/broker/wire/CommandOfPinLaw" (some 0) with
  accessFlags := 49
  interfaces := #[]
  cf := some (fileOf pool1 40 #[] #[{ accessFlags := 2, nameIndex := 5, descriptorIndex := 6, attributes := #[] }, { accessFlags := 10, nameIndex := 43, descriptorIndex := 38, attributes := #[] }, { accessFlags := 9, nameIndex := 51, descriptorIndex := 52, attributes := #[] }] 49 2 #[] #[])
  fields := #[]
  methods := #[k1m0, k1m1, k1m2]
  instanceTypes := #[]
  staticTypes := #[]
  resolved := Array.replicate 55 none
  statics := none }

def pool2 : Array CpInfo := pool [(1, .class_ 2), (0, u "java/lang/constant/Constable"), (0, .class_ 4), (0, u "java/lang/Object")] 6

/-- java/lang/constant/Constable -/
def k2 : Class := { plain "java/lang/constant/Constable" (some 0) with
  accessFlags := 1537
  interfaces := #[]
  cf := some (fileOf pool2 1 #[] #[] 1537 3 #[] #[])
  fields := #[]
  methods := #[]
  instanceTypes := #[]
  staticTypes := #[]
  resolved := Array.replicate 11 none
  statics := none }

def pool3 : Array CpInfo := pool [(1, .class_ 2), (0, u "java/lang/Comparable"), (0, .class_ 4), (0, u "java/lang/Object")] 7

/-- java/lang/Comparable -/
def k3 : Class := { plain "java/lang/Comparable" (some 0) with
  accessFlags := 1537
  interfaces := #[]
  cf := some (fileOf pool3 1 #[] #[] 1537 3 #[] #[])
  fields := #[]
  methods := #[]
  instanceTypes := #[]
  staticTypes := #[]
  resolved := Array.replicate 12 none
  statics := none }

def pool4 : Array CpInfo := pool [(1, .class_ 2), (0, u "java/io/Serializable"), (0, .class_ 4), (0, u "java/lang/Object")] 2

/-- java/io/Serializable -/
def k4 : Class := { plain "java/io/Serializable" (some 0) with
  accessFlags := 1537
  interfaces := #[]
  cf := some (fileOf pool4 1 #[] #[] 1537 3 #[] #[])
  fields := #[]
  methods := #[]
  instanceTypes := #[]
  staticTypes := #[]
  resolved := Array.replicate 7 none
  statics := none }

def pool5 : Array CpInfo := pool [(2, .class_ 4), (1, u "java/lang/Enum"), (0, u "name"), (0, u "Ljava/lang/String;"), (2, u "ordinal"), (0, u "I"), (1, .class_ 14), (1, u "java/lang/Object"), (4, u "hash"), (86, .class_ 108), (1, u "java/lang/Enum$EnumDesc"), (2, .class_ 112), (0, u "java/lang/constant/Constable"), (0, .class_ 114), (0, u "java/lang/Comparable"), (0, .class_ 116), (0, u "java/io/Serializable")] 87

/-- java/lang/Enum -/
def k5 : Class := { plain "java/lang/Enum" (some 0) with
  accessFlags := 1057
  interfaces := #[2, 3, 4]
  cf := some (fileOf pool5 2 #[.nestMembers #[106]] #[] 1057 12 #[111, 113, 115] #[{ accessFlags := 18, nameIndex := 5, descriptorIndex := 6, attributes := #[] }, { accessFlags := 18, nameIndex := 9, descriptorIndex := 10, attributes := #[] }, { accessFlags := 2, nameIndex := 19, descriptorIndex := 10, attributes := #[] }])
  fields := #[{ name := "name", type := (.object "java/lang/String"), accessFlags := 18, slot := 0, constantValue := 0 }, { name := "ordinal", type := .int, accessFlags := 18, slot := 1, constantValue := 0 }, { name := "hash", type := .int, accessFlags := 2, slot := 2, constantValue := 0 }]
  methods := #[]
  instanceTypes := #[(.object "java/lang/String"), .int, .int]
  staticTypes := #[]
  resolved := Array.replicate 204 none
  statics := none }

def pool6 : Array CpInfo := pool [(1, .class_ 2), (0, u "com/example/broker/broker/wire/Command"), (2, u "SEND"), (0, u "Lcom/example/broker/broker/wire/Command;"), (2, u "READ"), (2, u "SUBSCRIBE"), (2, u "DELIVER"), (2, u "ACK"), (2, u "UNSUBSCRIBE"), (2, u "STATS"), (2, u "ACK_EACH"), (2, u "$VALUES"), (0, u "[Lcom/example/broker/broker/wire/Command;"), (6, .class_ 40), (1, u "java/lang/Enum"), (6, .fieldref 1 48), (0, .nameAndType 49 50), (0, u "code"), (0, u "I"), (5, .fieldref 1 57), (0, .nameAndType 58 31), (0, u "ALL"), (18, u "ANSWER_BIT"), (7, u "()I"), (0, u "of"), (0, u "(I)Lcom/example/broker/broker/wire/Command;")] 6

def k6c0 : Code := { maxStack := 1, maxLocals := 1, code := prog_24_method_4_code, exceptionTable := #[], attributes := #[] }
def k6m0 : Method := { name := "code", desc := "()I", sig := { parameters := [], returnType := some .int }, accessFlags := 1, code := some k6c0 }
def k6c1 : Code := { maxStack := 2, maxLocals := 5, code := prog_24_method_7_code, exceptionTable := #[], attributes := #[] }
def k6m1 : Method := { name := "of", desc := "(I)Lcom/example/broker/broker/wire/Command;", sig := { parameters := [.int], returnType := some (.object "com/example/broker/broker/wire/Command") }, accessFlags := 9, code := some k6c1 }
/-- com/example/broker/broker/wire/Command -/
def k6 : Class := { plain "com/example/broker/broker/wire/Command" (some 5) with
  accessFlags := 16433
  interfaces := #[]
  cf := some (fileOf pool6 1 #[] #[{ accessFlags := 1, nameIndex := 49, descriptorIndex := 85, attributes := #[] }, { accessFlags := 9, nameIndex := 86, descriptorIndex := 87, attributes := #[] }] 16433 38 #[] #[{ accessFlags := 16409, nameIndex := 5, descriptorIndex := 6, attributes := #[] }, { accessFlags := 16409, nameIndex := 9, descriptorIndex := 6, attributes := #[] }, { accessFlags := 16409, nameIndex := 12, descriptorIndex := 6, attributes := #[] }, { accessFlags := 16409, nameIndex := 15, descriptorIndex := 6, attributes := #[] }, { accessFlags := 16409, nameIndex := 18, descriptorIndex := 6, attributes := #[] }, { accessFlags := 16409, nameIndex := 21, descriptorIndex := 6, attributes := #[] }, { accessFlags := 16409, nameIndex := 24, descriptorIndex := 6, attributes := #[] }, { accessFlags := 16409, nameIndex := 27, descriptorIndex := 6, attributes := #[] }, { accessFlags := 25, nameIndex := 77, descriptorIndex := 50, attributes := #[] }, { accessFlags := 26, nameIndex := 58, descriptorIndex := 31, attributes := #[] }, { accessFlags := 18, nameIndex := 49, descriptorIndex := 50, attributes := #[] }, { accessFlags := 4122, nameIndex := 30, descriptorIndex := 31, attributes := #[] }])
  fields := #[{ name := "SEND", type := (.object "com/example/broker/broker/wire/Command"), accessFlags := 16409, slot := 0, constantValue := 0 }, { name := "READ", type := (.object "com/example/broker/broker/wire/Command"), accessFlags := 16409, slot := 1, constantValue := 0 }, { name := "SUBSCRIBE", type := (.object "com/example/broker/broker/wire/Command"), accessFlags := 16409, slot := 2, constantValue := 0 }, { name := "DELIVER", type := (.object "com/example/broker/broker/wire/Command"), accessFlags := 16409, slot := 3, constantValue := 0 }, { name := "ACK", type := (.object "com/example/broker/broker/wire/Command"), accessFlags := 16409, slot := 4, constantValue := 0 }, { name := "UNSUBSCRIBE", type := (.object "com/example/broker/broker/wire/Command"), accessFlags := 16409, slot := 5, constantValue := 0 }, { name := "STATS", type := (.object "com/example/broker/broker/wire/Command"), accessFlags := 16409, slot := 6, constantValue := 0 }, { name := "ACK_EACH", type := (.object "com/example/broker/broker/wire/Command"), accessFlags := 16409, slot := 7, constantValue := 0 }, { name := "ANSWER_BIT", type := .int, accessFlags := 25, slot := 8, constantValue := 0 }, { name := "ALL", type := (.array (.object "com/example/broker/broker/wire/Command")), accessFlags := 26, slot := 9, constantValue := 0 }, { name := "code", type := .int, accessFlags := 18, slot := 3, constantValue := 0 }, { name := "$VALUES", type := (.array (.object "com/example/broker/broker/wire/Command")), accessFlags := 4122, slot := 10, constantValue := 0 }]
  methods := #[k6m0, k6m1]
  instanceTypes := #[(.object "java/lang/String"), .int, .int, .int]
  staticTypes := #[(.object "com/example/broker/broker/wire/Command"), (.object "com/example/broker/broker/wire/Command"), (.object "com/example/broker/broker/wire/Command"), (.object "com/example/broker/broker/wire/Command"), (.object "com/example/broker/broker/wire/Command"), (.object "com/example/broker/broker/wire/Command"), (.object "com/example/broker/broker/wire/Command"), (.object "com/example/broker/broker/wire/Command"), .int, (.array (.object "com/example/broker/broker/wire/Command")), (.array (.object "com/example/broker/broker/wire/Command"))]
  resolved := Array.replicate 94 none
  statics := some 0 }

def pool7 : Array CpInfo := pool [(1, u "java/lang/Cloneable"), (0, .class_ 1), (0, u "java/lang/Object"), (0, .class_ 3)] 3

/-- java/lang/Cloneable -/
def k7 : Class := { plain "java/lang/Cloneable" (some 0) with
  accessFlags := 1537
  interfaces := #[]
  cf := some (fileOf pool7 2 #[] #[] 1537 4 #[] #[])
  fields := #[]
  methods := #[]
  instanceTypes := #[]
  staticTypes := #[]
  resolved := Array.replicate 8 none
  statics := none }

/-- the primitive byte -/
def k8 : Class := { plain "byte" none with kind := .primitive 'B', accessFlags := 0x411 }
/-- [B -/
def k9 : Class := { plain "[B" (some 0) with kind := .array 8 .byte, interfaces := #[7, 4], accessFlags := 1041 }

/-- the primitive int -/
def k10 : Class := { plain "int" none with kind := .primitive 'I', accessFlags := 0x411 }
/-- [I -/
def k11 : Class := { plain "[I" (some 0) with kind := .array 10 .int, interfaces := #[7, 4], accessFlags := 1041 }

/-- [Lcom/example/broker/broker/wire/Command; -/
def k12 : Class := { plain "[Lcom/example/broker/broker/wire/Command;" (some 0) with kind := .array 6 (.object "com/example/broker/broker/wire/Command"), interfaces := #[7, 4], accessFlags := 1041 }

def heap : Heap := #[{ cls := 6, slots := #[.ref 2, .ref 3, .ref 4, .ref 5, .ref 6, .ref 7, .ref 8, .ref 9, .int 0, .ref 1, .null], vm := .statics 6 },
  { cls := 12, slots := #[.ref 2, .ref 3, .ref 4, .ref 5, .ref 6, .ref 7, .ref 8, .ref 9], vm := .none },
  { cls := 6, slots := #[.null, .int 0, .int 0, .int 1], vm := .none },
  { cls := 6, slots := #[.null, .int 1, .int 0, .int 2], vm := .none },
  { cls := 6, slots := #[.null, .int 2, .int 0, .int 3], vm := .none },
  { cls := 6, slots := #[.null, .int 3, .int 0, .int 4], vm := .none },
  { cls := 6, slots := #[.null, .int 4, .int 0, .int 5], vm := .none },
  { cls := 6, slots := #[.null, .int 5, .int 0, .int 6], vm := .none },
  { cls := 6, slots := #[.null, .int 6, .int 0, .int 7], vm := .none },
  { cls := 6, slots := #[.null, .int 7, .int 0, .int 8], vm := .none }]
def classes : Array Class := #[k0, k1, k2, k3, k4, k5, k6, k7, k8, k9, k10, k11, k12]
def interned : List (Array UInt16 × Addr) := []
def slotsUsed : Nat := 51
def theMethod : MethodId := ⟨1, 2⟩
def args0 : Array Value := #[.int 1, .int 2]
def aboutOver (below : List Frame) : State where
  vm := { classes := classes, interned := interned.toArray }
  heap := heap
  slotsUsed := slotsUsed
  threads := #[{ frames := .invoking theMethod args0 :: below }]
def below0 : List Frame := [.native { method := ⟨0, 0⟩, args := #[] }]
def about1 : State := aboutOver below0
def p0 : Program := .bare "" "" ""
def e0 : Env := launch0.env 0 0 0
theorem w_frames : about1.frames = Frame.invoking theMethod args0 :: below0 := rfl
set_option maxRecDepth 65536 in
theorem w_args : argsFit about1.vm theMethod args0 = true := by decide +kernel
set_option maxRecDepth 65536 in
theorem w_heap : heapFits about1 = true := by decide +kernel
set_option maxRecDepth 65536 in
theorem w_runnable : about1.curStatus? = some .runnable := by decide +kernel
set_option maxRecDepth 65536 in
theorem w_alone : about1.alone = true := by decide +kernel
set_option maxRecDepth 65536 in
theorem w_named : about1.methodNamed? x = some theMethod := by decide +kernel
set_option maxRecDepth 65536 in
theorem w_hears : about1.hears theMethod below0 = true := by decide +kernel
set_option maxRecDepth 65536 in
theorem w_ripe : about1.ripe theMethod args0 below0 = true := by decide +kernel
theorem w_running : about1.status = .running := rfl
set_option maxRecDepth 65536 in
theorem w_room : about1.hasRoom e0.platform room_1 = true :=
  launch0.hasRoom_least _ room_1 (by decide +kernel) (by decide +kernel) (by decide +kernel) (by decide +kernel) (by decide +kernel) (by decide +kernel)
theorem allAtoms_all (ts : List Jvm.Cond) (a : Array Jvm.Value) (st : Jvm.State) : (allAtoms ts).before a st = ts.all (fun c => c.before a st) := by
  induction ts with
  | nil => rfl
  | cons c t ih =>
    show (Jvm.Cond.and c (allAtoms t)).before a st = _
    rw [Jvm.Cond.before_and, ih, List.all_cons]
def words1 : List Jvm.Cond := Jvm.Cond.code x code maxLocals ret :: tables_1
/-- a 'code' word, met by the world's own term for the bytes: nothing is compared byte by byte -/
theorem code_word {y : MethodName} {bytes : ByteArray} {mx : Nat} {rt : Option FieldType} {a : Array Value} {s : State} {m : MethodId} {meth : Method} {c : Code} (h1 : s.methodNamed? y = some m) (h2 : s.vm.method? m = some meth) (h3 : meth.code = some c) (h4 : c.code = bytes)
    (h5 : (c.maxLocals == mx && c.exceptionTable.isEmpty && decide (c.maxStack ≤ mostOperands) && decide (meth.sig.returnType = rt) && !meth.locks && decide (parseMethodDescriptor y.desc = some meth.sig)) = true) : (Jvm.Cond.code y bytes mx rt).before a s = true := by
  simp only [Bool.and_eq_true, beq_iff_eq, Bool.not_eq_true', decide_eq_true_eq] at h5
  obtain ⟨⟨⟨⟨⟨g1, g2⟩, g3⟩, g4⟩, g5⟩, g6⟩ := h5
  simp [Cond.before, Cond.holds, Cond.value, h1, h2, h3, h4, g1, g2, g3, g4, g5, g6]
def isCode : Jvm.Cond → Bool
  | .code _ _ _ _ => true
  | _ => false
theorem all_split {L : List Jvm.Cond} {P : Jvm.Cond → Bool} (h1 : L.all (fun c => isCode c || P c) = true) (h2 : ∀ c ∈ L.filter isCode, P c = true) : L.all P = true := by
  refine List.all_eq_true.mpr fun c hc => ?_
  have h := List.all_eq_true.mp h1 c hc
  rcases Bool.eq_false_or_eq_true (isCode c) with hi | hi
  · exact h2 c (List.mem_filter.mpr ⟨hc, hi⟩)
  · simpa [hi] using h
set_option maxRecDepth 65536 in
theorem w_c0 : (Jvm.Cond.code x code maxLocals ret).before args0 about1 = true := code_word (m := ⟨1, 2⟩) (meth := k1m2) (c := k1c2) (by decide +kernel) rfl rfl rfl (by decide +kernel)
set_option maxRecDepth 65536 in
theorem w_c1 : (Jvm.Cond.code ({ cls := "com/example/broker/broker/wire/Command", name := "of", desc := "(I)Lcom/example/broker/broker/wire/Command;" } : Jvm.MethodName) prog_24_method_7_code (5 : Nat) (Option.some (Jvm.ClassFile.FieldType.object "com/example/broker/broker/wire/Command"))).before args0 about1 = true := code_word (m := ⟨6, 1⟩) (meth := k6m1) (c := k6c1) (by decide +kernel) rfl rfl rfl (by decide +kernel)
set_option maxRecDepth 65536 in
theorem w_c2 : (Jvm.Cond.code ({ cls := "com/example/broker/broker/wire/CommandOfPinLaw", name := "expected", desc := "(I)Lcom/example/broker/broker/wire/Command;" } : Jvm.MethodName) method_2_code (1 : Nat) (Option.some (Jvm.ClassFile.FieldType.object "com/example/broker/broker/wire/Command"))).before args0 about1 = true := code_word (m := ⟨1, 1⟩) (meth := k1m1) (c := k1c1) (by decide +kernel) rfl rfl rfl (by decide +kernel)
set_option maxRecDepth 65536 in
theorem w_c3 : (Jvm.Cond.code ({ cls := "com/example/broker/broker/wire/Command", name := "code", desc := "()I" } : Jvm.MethodName) prog_24_method_4_code (1 : Nat) (Option.some Jvm.ClassFile.FieldType.int)).before args0 about1 = true := code_word (m := ⟨6, 0⟩) (meth := k6m0) (c := k6c0) (by decide +kernel) rfl rfl rfl (by decide +kernel)
def codes1 : List Jvm.Cond := [Jvm.Cond.code x code maxLocals ret, Jvm.Cond.code ({ cls := "com/example/broker/broker/wire/Command", name := "of", desc := "(I)Lcom/example/broker/broker/wire/Command;" } : Jvm.MethodName) prog_24_method_7_code (5 : Nat) (Option.some (Jvm.ClassFile.FieldType.object "com/example/broker/broker/wire/Command")), Jvm.Cond.code ({ cls := "com/example/broker/broker/wire/CommandOfPinLaw", name := "expected", desc := "(I)Lcom/example/broker/broker/wire/Command;" } : Jvm.MethodName) method_2_code (1 : Nat) (Option.some (Jvm.ClassFile.FieldType.object "com/example/broker/broker/wire/Command")), Jvm.Cond.code ({ cls := "com/example/broker/broker/wire/Command", name := "code", desc := "()I" } : Jvm.MethodName) prog_24_method_4_code (1 : Nat) (Option.some Jvm.ClassFile.FieldType.int)]
set_option maxRecDepth 65536 in
theorem codes_eq : words1.filter isCode = codes1 := rfl
theorem w_codes : ∀ c ∈ words1.filter isCode, c.before args0 about1 = true := by
  rw [codes_eq]
  intro c hc
  simp only [codes1, List.mem_cons, List.not_mem_nil, or_false] at hc
  rcases hc with rfl | rfl | rfl | rfl
  · exact w_c0
  · exact w_c1
  · exact w_c2
  · exact w_c3
set_option maxRecDepth 65536 in
theorem w_t1 : (words1.take 24).all (fun c => isCode c || c.before args0 about1) = true := by decide +kernel
set_option maxRecDepth 65536 in
theorem w_t2 : (words1.drop 24).all (fun c => isCode c || c.before args0 about1) = true := by decide +kernel
theorem w_tables : (allAtoms (Jvm.Cond.code x code maxLocals ret :: tables_1)).before args0 about1 = true := by
  rw [allAtoms_all]
  show words1.all (fun c => c.before args0 about1) = true
  refine all_split ?_ w_codes
  rw [← List.take_append_drop 24 words1, List.all_append, w_t1, w_t2]
  rfl
set_option maxRecDepth 65536 in
theorem w_case : (Jvm.Cond.and given_1 narrow_1).before args0 about1 = true := by decide +kernel
theorem w_applies : (headSpec (Jvm.Cond.code x code maxLocals ret :: tables_1) room_1).applies x e0.platform about1 = true :=
  (Spec.applies_iff w_frames).mpr ⟨w_running, w_runnable, w_alone, w_named, w_hears, w_ripe, w_room, w_tables⟩
theorem atStart : AtStart classFile x code maxLocals ret World_1 tables_1 room_1 Calls_1 rest_1 Pre_1 launch0 p0 e0 about1 theMethod args0 below0 :=
  ⟨lists_1, trivial, launch0.admits_env _ _ _, launch0.least_env, fairChoices_fair.cas, fairChoices_fair.clock, w_frames, w_args, w_heap, w_applies, trivial, trivial, w_case⟩
end start1
theorem witness_1 : WitnessClaimed_1 := ⟨start1.p0, start1.e0, start1.about1, start1.theMethod, start1.args0, start1.below0, start1.atStart⟩
end Jvm.Pilot.@@N@@
