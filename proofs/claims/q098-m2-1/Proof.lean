import JvmDerived
import JvmDerived.Pilot.@@N@@Statement
import JvmDerived.Pilot.@@N@@Code
set_option linter.unusedVariables false
set_option linter.unusedSimpArgs false
namespace Jvm.RoadKit
open Sem ClassFile Op Lib Jvm.Stand Jvm.Free Jvm.LawKit
section New
variable {p : Program} {l : Launch} {e : Env} {R : Room} {s : State} {m : MethodId} {args : Array Value} {below : List Frame} {meth : Method} {c : Code} {T : State} {locs : List Loc} {cells slots : Nat}
theorem retI (X : Stand p l e R s m args below meth c T locs cells slots) (hx : p.tables.exec = Jvm.exec) {pc : Nat} {Ls : Array Slot} {z : Int32} {rest : List Value} (hret : meth.sig.returnType = some .int) (hd : decode c.code pc = .ok (.ireturn, 1)) {fs : List Frame}
    (hl : ∀ (f : JFrame) (acts : List Action), f.method = m → f.locked = none → f.entered = [] → (doReturn e (T.setTop f) acts (some (.int z))).1 = T.setFrames fs) : Steps p.tables e below (T.setTop (mkF m pc Ls (.int z :: rest))) (T.setFrames fs) := by
  have hm' : T.vm.method? m = some meth := X.method'
  have hn : narrow .int (.int z) = .int z := rfl
  show Steps p.tables e below (T.setTop { method := m, pc := pc, locals := Ls, stack := _ :: rest, locked := none }) _
  jvm_step X.here [X.here.top, hx, hd, hm', hret, hn]
  first | (intro acts; rw [hl _ acts rfl rfl rfl]) | rw [hl _ _ rfl rfl rfl]
  exact Steps.refl _
end New
end Jvm.RoadKit
namespace Jvm.Pilot.@@N@@
open Jvm Jvm.ClassFile Sem Op Lib Jvm.Free Jvm.Stand Jvm.LawKit Jvm.RoadKit Bundle Jvm.Pilot.@@N@@.Jvm.D
abbrev own_S (p : Program) (e : Env) (b : List Frame) (T : State) (m : MethodId) (pc : Nat) (L : Array Slot) (S : List Value) (t : State) : Prop := Steps p.tables e b (T.setTop (mkF m pc L S)) t
theorem own_eqI {args : Array Value} {s : State} {a : Term} {k : Int32} (h : (Jvm.Cond.eq a (.int k)).value args s none s [] = some true) : a.eval args s none [] s = some (.int k) := by
  obtain ⟨x, y, e1, e2, k1, -⟩ := cmp_v (Or.inl h)
  cases (show (Term.int k).eval args s none [] s = some (.int k) from rfl).symm.trans e2
  cases x with
  | int z => rw [gotT (Cond.eq_ints e1 e2) h] at e1; exact e1
  | _ => first | (obtain ⟨z, q⟩ := k1; cases q; done) | (exact absurd k1.2 (by simp [Value.isRef]))
theorem own_eqL {args : Array Value} {s : State} {a : Term} {k : Int64} (h : (Jvm.Cond.eq a (.long k)).value args s none s [] = some true) : a.eval args s none [] s = some (.long k) := by
  obtain ⟨x, y, e1, e2, k1, -⟩ := cmp_v (Or.inl h)
  cases (show (Term.long k).eval args s none [] s = some (.long k) from rfl).symm.trans e2
  cases x with
  | long z => rw [gotT (eq_L e1 e2) h] at e1; exact e1
  | _ => first | (obtain ⟨z, q⟩ := k1; cases q; done) | (exact absurd k1.2 (by simp [Value.isRef]))
theorem own_eqR {args : Array Value} {s : State} {a b : Term} {y : Addr} (h : (Jvm.Cond.eq a b).value args s none s [] = some true) (eb : b.eval args s none [] s = some (.ref y)) : a.eval args s none [] s = some (.ref y) := by
  obtain ⟨x, z, e1, e2, k1, k2⟩ := cmp_v (Or.inl h)
  cases eb.symm.trans e2
  have hx : x.isRef = true := k2.2
  rw [gotT (eq_R e1 e2 hx rfl) h] at e1; exact e1
theorem own_sta_keep {Z : State} {h h' : Heap} {C n d C' : String} {v : Value} {a : Addr} (S : Sta Z h C n d v) (K : Keep h h' [a]) (E : Exa Z h a C') : Sta Z h' C n d v := by
  obtain ⟨cf, i, k, f, st, cell, h1, h2, h3, h4, h5, h6, h7⟩ := S
  obtain ⟨c1, _, g1, -, -, g4, -⟩ := E
  have ne : st ∉ [a] := fun q => by
    cases List.mem_singleton.mp q
    cases h5.symm.trans g1
    rw [g4] at h6; cases h6
  exact ⟨cf, i, k, f, st, cell, h1, h2, h3, h4, K.2.1 _ _ h5 ne, h6, h7⟩
theorem own_P (a : Int64) : 1 ≤ ((1 : Int64) + ((a &&& (9223372036854775807 : Int64)) - ((a &&& (9223372036854775807 : Int64)) / (1000000000 : Int64)) * (1000000000 : Int64))).toInt ∧ ((1 : Int64) + ((a &&& (9223372036854775807 : Int64)) - ((a &&& (9223372036854775807 : Int64)) / (1000000000 : Int64)) * (1000000000 : Int64))).toInt ≤ 1000000000 := by
  have e1 := c_maskL a (9223372036854775807 : Int64) 63 (by decide) (by decide)
  have e2 := (c_lrem (a &&& (9223372036854775807 : Int64)) (1000000000 : Int64) 1000000000 (by decide)).1 (by omega)
  have e3 := c_ladd 1 ((a &&& (9223372036854775807 : Int64)) - ((a &&& (9223372036854775807 : Int64)) / (1000000000 : Int64)) * (1000000000 : Int64))
  have r3 := rng64 (1 + ((a &&& (9223372036854775807 : Int64)) - ((a &&& (9223372036854775807 : Int64)) / (1000000000 : Int64)) * (1000000000 : Int64)))
  have l1 : (1 : Int64).toInt = 1 := by decide
  rw [l1] at e3
  omega
theorem own_R (b P : Int64) (hP : 1 ≤ P.toInt) : 0 ≤ ((b &&& (9223372036854775807 : Int64)) - ((b &&& (9223372036854775807 : Int64)) / P) * P).toInt ∧ ((b &&& (9223372036854775807 : Int64)) - ((b &&& (9223372036854775807 : Int64)) / P) * P).toInt < P.toInt := by
  have e1 := c_maskL b (9223372036854775807 : Int64) 63 (by decide) (by decide)
  have e2 := (c_lrem (b &&& (9223372036854775807 : Int64)) P P.toInt rfl).1 (by omega)
  rw [e2]
  exact ⟨Int.emod_nonneg _ (by omega), Int.emod_lt_of_pos _ (by omega)⟩
theorem own_K (k : Int64) : 0 ≤ (k &&& (8589934591 : Int64)).toInt ∧ (k &&& (8589934591 : Int64)).toInt ≤ 8589934591 := by
  have e1 := c_maskL k (8589934591 : Int64) 33 (by decide) (by decide)
  omega
theorem own_nz {P : Int64} (hP : 1 ≤ P.toInt) : ¬ P = 0 := fun q => by rw [q] at hP; exact absurd hP (by decide)
theorem own_lo {P : Int64} (hP : 1 ≤ P.toInt) : ¬ P < (1 : Int64) := fun q => by
  have := Int64.lt_iff_toInt_lt.mp q
  have l1 : (1 : Int64).toInt = 1 := by decide
  omega
theorem own_hi {P : Int64} (hP : P.toInt ≤ 1000000000) : ¬ (1000000000 : Int64) < P := fun q => by
  have := Int64.lt_iff_toInt_lt.mp q
  have l1 : (1000000000 : Int64).toInt = 1000000000 := by decide
  omega
theorem own_due (P R K S : Int64) (h1 : 1 ≤ P.toInt) (h2 : P.toInt ≤ 1000000000) (h3 : 0 ≤ R.toInt) (h4 : R.toInt < P.toInt) (h5 : 0 ≤ K.toInt) (h6 : K.toInt ≤ 8589934591) :
    ((((S + ((((K * P) + R) / P) * (1000000000 : Int64))) + (((((K * P) + R) - (((K * P) + R) / P) * P) * (1000000000 : Int64)) / P)) - S) - (K * (1000000000 : Int64))) = (R * (1000000000 : Int64)) / P := by
  have p1 : 0 ≤ K.toInt * P.toInt := Int.mul_nonneg h5 (by omega)
  have p2 : K.toInt * P.toInt ≤ 8589934591 * 1000000000 := Int.mul_le_mul h6 h2 (by omega) (by omega)
  have a1 := c_lmul K P
  have r1 := rng64 (K * P)
  have a2 := c_ladd (K * P) R
  have r2 := rng64 (K * P + R)
  have n1 : P ≠ -1 := fun q => by rw [q] at h1; exact absurd h1 (by decide)
  have eI : (K * P + R).toInt = R.toInt + K.toInt * P.toInt := by
    generalize K.toInt * P.toInt = kp at *
    omega
  have a3 := (c_ldiv (K * P + R) P P.toInt rfl n1).1 (by omega)
  have eK : (K * P + R) / P = K := by
    apply Int64.toInt_inj.mp
    rw [a3, eI, Int.add_mul_ediv_right _ _ (by omega), Int.ediv_eq_zero_of_lt h3 h4, Int.zero_add]
  rw [eK]
  have eR : (K * P + R) - K * P = R := by
    apply Int64.toInt_inj.mp
    have a4 := c_lsub (K * P + R) (K * P)
    have r4 := rng64 (K * P + R - K * P)
    have r5 := rng64 R
    omega
  rw [eR]
  apply Int64.toInt_inj.mp
  generalize (R * (1000000000 : Int64)) / P = q
  generalize K * (1000000000 : Int64) = w
  have b1 := c_ladd S w
  have b2 := c_ladd (S + w) q
  have b3 := c_lsub (S + w + q) S
  have b4 := c_lsub (S + w + q - S) w
  have c1 := rng64 (S + w + q - S - w)
  have c2 := rng64 q
  omega
theorem own_q (P R : Int64) (h1 : 1 ≤ P.toInt) (h2 : P.toInt ≤ 1000000000) (h3 : 0 ≤ R.toInt) (h4 : R.toInt < P.toInt) :
    ¬ ((R * (1000000000 : Int64)) / P) < (0 : Int64) ∧ ((R * (1000000000 : Int64)) / P) < (1000000000 : Int64) ∧ ¬ (R * (1000000000 : Int64)) < (((R * (1000000000 : Int64)) / P) * P) ∧ (R * (1000000000 : Int64)) < ((((R * (1000000000 : Int64)) / P) + (1 : Int64)) * P) := by
  have l0 : (0 : Int64).toInt = 0 := by decide
  have l1 : (1 : Int64).toInt = 1 := by decide
  have l9 : (1000000000 : Int64).toInt = 1000000000 := by decide
  have n1 : P ≠ -1 := fun q => by rw [q] at h1; exact absurd h1 (by decide)
  have a1 := c_lmul R 1000000000
  have r1 := rng64 (R * 1000000000)
  rw [l9] at a1
  have eS : (R * (1000000000 : Int64)).toInt = R.toInt * 1000000000 := by omega
  have a2 := (c_ldiv (R * (1000000000 : Int64)) P P.toInt rfl n1).1 (by omega)
  generalize (R * (1000000000 : Int64)) / P = q at *
  rw [eS] at a2
  have q0 : 0 ≤ q.toInt := by rw [a2]; exact Int.ediv_nonneg (by omega) (by omega)
  have q1 : q.toInt < 1000000000 := by
    rw [a2]; apply Int.ediv_lt_of_lt_mul (by omega)
    rw [Int.mul_comm 1000000000]; exact Int.mul_lt_mul_of_pos_right h4 (by omega)
  have q2 : q.toInt * P.toInt ≤ R.toInt * 1000000000 := by rw [a2]; exact Int.ediv_mul_le _ (by omega)
  have q3 : R.toInt * 1000000000 < (q.toInt + 1) * P.toInt := by rw [a2]; exact Int.lt_ediv_add_one_mul_self _ (by omega)
  have m1 := c_lmul q P
  have r2 := rng64 (q * P)
  have m2 := c_ladd q 1
  have r3 := rng64 (q + 1)
  have m3 := c_lmul (q + 1) P
  have r4 := rng64 ((q + 1) * P)
  rw [l1] at m2
  have e1 : (q + 1).toInt = q.toInt + 1 := by omega
  rw [e1] at m3
  have z1 : 0 ≤ q.toInt * P.toInt := Int.mul_nonneg q0 (by omega)
  have z2 : (q.toInt + 1) * P.toInt = q.toInt * P.toInt + P.toInt := by rw [Int.add_mul, Int.one_mul]
  rw [z2] at m3 q3
  generalize q.toInt * P.toInt = t at *
  simp only [Int64.lt_iff_toInt_lt, l0, l9, eS]
  refine ⟨by omega, by omega, by omega, by omega⟩
theorem pn_0 : plainName "com/example/broker/broker/cli/Pace" = true := by first | (simp [plainName, overriddenIn]; done) | decide +kernel
theorem ef_1 (m : MethodId) (a1 : Addr) (q2 : Int64) (q3 : Int64) : entryFrame m #[(.ref a1), (.long q2), (.long q3)] 5 = mkF m 0 #[rv a1, .val (.long q2), .second, .val (.long q3), .second] [] := by first | (simp [entryFrame, mkF, argsToLocals, Value.category]; done) | rfl
def Q1 (Z : State) (a1 : Addr) (q2 : Int64) (q3 : Int64) (h0 : Heap) (n0 : Nat) (v : Option Value) (h : Heap) (L : List Loc) : Prop := v = none ∧ Fr n0 L ∧ Keep h0 h [a1] ∧ Exa Z h a1 "com/example/broker/broker/cli/Pace" ∧ Fld Z h a1 "com/example/broker/broker/cli/Pace" "perSecond" "J" (.long q2) ∧ Fld Z h a1 "com/example/broker/broker/cli/Pace" "startNanos" "J" (.long q3)
theorem d1_0 : decode prog_2_method_1_code 0 = .ok (.aload_n 0, 1) := by decide +kernel
theorem d1_1 : decode prog_2_method_1_code 1 = .ok (.invokespecial 1, 3) := by decide +kernel
theorem d1_4 : decode prog_2_method_1_code 4 = .ok (.lload_n 1, 1) := by decide +kernel
theorem d1_5 : decode prog_2_method_1_code 5 = .ok (.lconst 1, 1) := by decide +kernel
theorem d1_6 : decode prog_2_method_1_code 6 = .ok (.lcmp, 1) := by decide +kernel
theorem d1_7 : decode prog_2_method_1_code 7 = .ok (.ifCond .lt 11, 3) := by decide +kernel
theorem d1_10 : decode prog_2_method_1_code 10 = .ok (.lload_n 1, 1) := by decide +kernel
theorem d1_11 : decode prog_2_method_1_code 11 = .ok (.getstatic 7, 3) := by decide +kernel
theorem d1_14 : decode prog_2_method_1_code 14 = .ok (.lcmp, 1) := by decide +kernel
theorem d1_15 : decode prog_2_method_1_code 15 = .ok (.ifCond .le 20, 3) := by decide +kernel
theorem d1_35 : decode prog_2_method_1_code 35 = .ok (.aload_n 0, 1) := by decide +kernel
theorem d1_36 : decode prog_2_method_1_code 36 = .ok (.lload_n 1, 1) := by decide +kernel
theorem d1_37 : decode prog_2_method_1_code 37 = .ok (.putfield 22, 3) := by decide +kernel
theorem d1_40 : decode prog_2_method_1_code 40 = .ok (.aload_n 0, 1) := by decide +kernel
theorem d1_41 : decode prog_2_method_1_code 41 = .ok (.lload_n 3, 1) := by decide +kernel
theorem d1_42 : decode prog_2_method_1_code 42 = .ok (.putfield 25, 3) := by decide +kernel
theorem d1_45 : decode prog_2_method_1_code 45 = .ok (.return_, 1) := by decide +kernel
set_option maxRecDepth 65536 in
set_option maxHeartbeats 40000000 in
theorem rm1 (l : Launch) (Z : State) (a0 : Array Value) (hw : ∀ d ∈ tables_1, d.before a0 Z = true) (ws : List Jvm.Cond) (a1 : Addr) (q2 : Int64) (q3 : Int64) (h0 : Heap) (n0 : Nat) (Z0 : n0 ≤ h0.size) (E_a1 : Exa Z h0 a1 "com/example/broker/broker/cli/Pace") (g_a1 : n0 ≤ a1) (F_p : Fld Z h0 a1 "com/example/broker/broker/cli/Pace" "perSecond" "J" (.long (0 : Int64))) (F_s : Fld Z h0 a1 "com/example/broker/broker/cli/Pace" "startNanos" "J" (.long (0 : Int64))) (S_M : Sta Z h0 "com/example/broker/broker/cli/Pace" "MAX_RATE" "J" (.long (1000000000 : Int64))) (hp1 : ¬ q2 < (1 : Int64)) (hp2 : ¬ (1000000000 : Int64) < q2) :
    MetFree l (⟨"com/example/broker/broker/cli/Pace", "<init>", "(JJ)V"⟩ : MethodName) (head1 (Jvm.Cond.code (⟨"com/example/broker/broker/cli/Pace", "<init>", "(JJ)V"⟩ : MethodName) prog_2_method_1_code 5 none :: ws) ({ frames := 1, cells := 0, slots := 0, locals := 12 } : Room)) (fun a U => a = #[(.ref a1), (.long q2), (.long q3)] ∧ Z.Warmed39 U.vm ∧ U.heap = h0) (fun _ _ _ _ _ => True) (fun _ U o U' => ∃ v L, o = .returned v ∧ Q1 Z a1 q2 q3 h0 n0 v U'.heap L ∧ FrameEnd U o U' L ({ frames := 1, cells := 0, slots := 0, locals := 12 } : Room).cells ({ frames := 1, cells := 0, slots := 0, locals := 12 } : Room).slots) := by
  refine MetFree.of_bodySF (plainFor_of_name pn_0) hisR ?_
  intro p e s m args below meth c s₁ Bd hml0 hP hK
  obtain ⟨rfl, hZ, hh⟩ := hP
  have hx := Bd.exec
  have hby := Bd.bytes
  have hml : c.maxLocals = 5 := hml0
  have hown : s.vm.findClass "com/example/broker/broker/cli/Pace" = some m.cls := findClass_of_methodNamed Bd.named
  have hnm := (name_of_methodNamed Bd.named Bd.method).1
  have X0 : Stand p l e ({ frames := 1, cells := 0, slots := 0, locals := 12 } : Room) s m #[(.ref a1), (.long q2), (.long q3)] below meth c s₁ [] 0 0 := Stand.of_body Bd
  have e0 : s₁.heap = h0 := by rw [← hh, Bd.state]; rfl
  have N0 := Fr.nil n0
  have pre0 : ∀ t, Steps p.tables e below (s₁.setTop (mkF m 0 #[rv a1, .val (.long q2), .second, .val (.long q3), .second] [])) t → Steps p.tables e below (s₁.setTop (entryFrame m #[(.ref a1), (.long q2), (.long q3)] 5)) t := fun t k => castTop (ef_1 m a1 q2 q3) k
  obtain ⟨T1, X1, e1, st1⟩ := initO X0 hx hZ hown (hw _ (List.mem_of_getElem? (i := 9) rfl)) (hw _ (List.mem_of_getElem? (i := 10) rfl)) (hw _ (List.mem_of_getElem? (i := 11) rfl)) e0 (g := (mkF m 1 #[rv a1, .val (.long q2), .second, .val (.long q3), .second] [(.ref a1)])) rfl (by rw [hml]; rfl) rfl (hb hby d1_1) (by decide) (W := 0) (by show 2 * 0 + _ ≤ _; exact Nat.le_of_eq rfl) (by decide)
  obtain ⟨T2, X2, e2, st2⟩ := getS2 X1 hx hZ hown (host := "") (Or.inl (hw _ (List.mem_of_getElem? (i := 12) rfl))) Via.refl e1 S_M (g := (mkF m 11 #[rv a1, .val (.long q2), .second, .val (.long q3), .second] [(.long q2)])) rfl (hb hby d1_11)
  obtain ⟨T3, h3, X3, e3, W3, st3⟩ := putF X2 hx hZ hown (host := "") (Or.inl (hw _ (List.mem_of_getElem? (i := 14) rfl))) Via.refl e2 F_p E_a1 (Or.inr ⟨(hw _ (List.mem_of_getElem? (i := 15) rfl)), rfl, hnm⟩) (hw _ (List.mem_of_getElem? (i := 4) rfl)) (ty := .long) (by decide) rfl rfl (g := (mkF m 37 #[rv a1, .val (.long q2), .second, .val (.long q3), .second] [(.long q2), (.ref a1)])) rfl rfl (hb hby d1_37)
  have Fw3 := F_p.same W3
  have N3 := Fr.snoc X3 N0 g_a1
  have Fn_4 := (F_s.other W3 (Or.inr (slot_ne (Or.inr (hw _ (List.mem_of_getElem? (i := 17) rfl))) (Or.inr (hw _ (List.mem_of_getElem? (i := 15) rfl))) (by decide) (t := .long) (t' := .long) (by decide) (by decide))))
  have En_5 := (E_a1.wr W3)
  obtain ⟨T6, h6, X6, e6, W6, st6⟩ := putF X3 hx hZ hown (host := "") (Or.inl (hw _ (List.mem_of_getElem? (i := 16) rfl))) Via.refl e3 Fn_4 En_5 (Or.inr ⟨(hw _ (List.mem_of_getElem? (i := 17) rfl)), rfl, hnm⟩) (hw _ (List.mem_of_getElem? (i := 4) rfl)) (ty := .long) (by decide) rfl rfl (g := (mkF m 42 #[rv a1, .val (.long q2), .second, .val (.long q3), .second] [(.long q3), (.ref a1)])) rfl rfl (hb hby d1_42)
  have Fw6 := Fn_4.same W6
  have N6 := Fr.snoc X6 N3 g_a1
  have pre7 : ∀ t, own_S p e below T6 m 45 #[rv a1, .val (.long q2), .second, .val (.long q3), .second] [] t → Steps p.tables e below (s₁.setTop (entryFrame m #[(.ref a1), (.long q2), (.long q3)] 5)) t := fun t k => pre0 t (by
    show own_S p e below s₁ m 0 #[rv a1, .val (.long q2), .second, .val (.long q3), .second] [] _
    refine XS.aloadN X0.here hx rfl (hb hby d1_0) rfl rfl ?_
    show own_S p e below s₁ m 1 #[rv a1, .val (.long q2), .second, .val (.long q3), .second] [(.ref a1)] _
    refine st1 _ ?_
    show own_S p e below T1 m 4 #[rv a1, .val (.long q2), .second, .val (.long q3), .second] [] _
    refine XS.lloadN X1.here hx rfl (hb hby d1_4) rfl ?_
    show own_S p e below T1 m 5 #[rv a1, .val (.long q2), .second, .val (.long q3), .second] [(.long q2)] _
    refine XS.lconst X1.here hx rfl (hb hby d1_5) ?_
    show own_S p e below T1 m 6 #[rv a1, .val (.long q2), .second, .val (.long q3), .second] [(.long (1 : Int64)), (.long q2)] _
    refine XS.lcmp X1.here hx rfl (hb hby d1_6) rfl ?_
    show own_S p e below T1 m 7 #[rv a1, .val (.long q2), .second, .val (.long q3), .second] [(.int (lcmpW q2 (1 : Int64)))] _
    refine XS.ifNo X1.here hx rfl (hb hby d1_7) rfl ((if0 _ _).trans (flt (fun q => hp1 ((lw_lt _ _).mp q))).1) ?_
    show own_S p e below T1 m 10 #[rv a1, .val (.long q2), .second, .val (.long q3), .second] [] _
    refine XS.lloadN X1.here hx rfl (hb hby d1_10) rfl ?_
    show own_S p e below T1 m 11 #[rv a1, .val (.long q2), .second, .val (.long q3), .second] [(.long q2)] _
    refine st2 _ ?_
    show own_S p e below T2 m 14 #[rv a1, .val (.long q2), .second, .val (.long q3), .second] [(.long (1000000000 : Int64)), (.long q2)] _
    refine XS.lcmp X2.here hx rfl (hb hby d1_14) rfl ?_
    show own_S p e below T2 m 15 #[rv a1, .val (.long q2), .second, .val (.long q3), .second] [(.int (lcmpW q2 (1000000000 : Int64)))] _
    refine XS.ifYes X2.here hx rfl (pc0 := 15) (pc' := 35) rfl (hb hby d1_15) rfl ((if0 _ _).trans (flt (fun q => hp2 ((lw_gt _ _).mp q))).2.2.2) (by decide) (by decide) ?_
    show own_S p e below T2 m 35 #[rv a1, .val (.long q2), .second, .val (.long q3), .second] [] _
    refine XS.aloadN X2.here hx rfl (hb hby d1_35) rfl rfl ?_
    show own_S p e below T2 m 36 #[rv a1, .val (.long q2), .second, .val (.long q3), .second] [(.ref a1)] _
    refine XS.lloadN X2.here hx rfl (hb hby d1_36) rfl ?_
    show own_S p e below T2 m 37 #[rv a1, .val (.long q2), .second, .val (.long q3), .second] [(.long q2), (.ref a1)] _
    refine st3 _ ?_
    show own_S p e below T3 m 40 #[rv a1, .val (.long q2), .second, .val (.long q3), .second] [] _
    refine XS.aloadN X3.here hx rfl (hb hby d1_40) rfl rfl ?_
    show own_S p e below T3 m 41 #[rv a1, .val (.long q2), .second, .val (.long q3), .second] [(.ref a1)] _
    refine XS.lloadN X3.here hx rfl (hb hby d1_41) rfl ?_
    show own_S p e below T3 m 42 #[rv a1, .val (.long q2), .second, .val (.long q3), .second] [(.long q3), (.ref a1)] _
    refine st6 _ ?_
    exact k)
  obtain ⟨fs, hr, hrun, hended, hW, hsame⟩ := X6.leave (v := none) (fun _ => rfl)
  refine ⟨_, _, pre7 _ ?_, hrun, hended, _, _, rfl, ?_, ⟨_, rfl⟩, hW, hsame.mono (by decide) (by decide)⟩
  · show own_S p e below T6 m 45 #[rv a1, .val (.long q2), .second, .val (.long q3), .second] [] _
    exact X6.returnOut hx Bd.returns (hb hby d1_45) hr
  · show Q1 Z a1 q2 q3 h0 n0 _ T6.heap _
    rw [e6]
    have En_8 := (En_5.wr W6)
    have Fn_9 := (Fw3.other W6 (Or.inr (slot_ne (Or.inr (hw _ (List.mem_of_getElem? (i := 15) rfl))) (Or.inr (hw _ (List.mem_of_getElem? (i := 17) rfl))) (by decide) (t := .long) (t' := .long) (by decide) (by decide))))
    exact ⟨rfl, N6, (((Keep.refl h0 [a1]).wr W3 (Or.inl (List.mem_of_getElem? (i := 0) rfl))).wr W6 (Or.inl (List.mem_of_getElem? (i := 0) rfl))), En_8, Fn_9, Fw6⟩
theorem ef_3 (m : MethodId) (a1 : Addr) (q2 : Int64) : entryFrame m #[(.ref a1), (.long q2)] 7 = mkF m 0 #[rv a1, .val (.long q2), .second, .unset, .unset, .unset, .unset] [] := by first | (simp [entryFrame, mkF, argsToLocals, Value.category]; done) | rfl
def Q3 (Z : State) (a1 : Addr) (q2 : Int64) (P : Int64) (S : Int64) (h0 : Heap) (n0 : Nat) (v : Option Value) (h : Heap) (L : List Loc) : Prop := v = some (.long ((S + ((q2 / P) * (1000000000 : Int64))) + (((q2 - (q2 / P) * P) * (1000000000 : Int64)) / P))) ∧ Fr n0 L ∧ h = h0
theorem d3_0 : decode prog_2_method_2_code 0 = .ok (.lload_n 1, 1) := by decide +kernel
theorem d3_1 : decode prog_2_method_2_code 1 = .ok (.aload_n 0, 1) := by decide +kernel
theorem d3_2 : decode prog_2_method_2_code 2 = .ok (.getfield 22, 3) := by decide +kernel
theorem d3_5 : decode prog_2_method_2_code 5 = .ok (.ldiv, 1) := by decide +kernel
theorem d3_6 : decode prog_2_method_2_code 6 = .ok (.lstore_n 3, 1) := by decide +kernel
theorem d3_7 : decode prog_2_method_2_code 7 = .ok (.lload_n 1, 1) := by decide +kernel
theorem d3_8 : decode prog_2_method_2_code 8 = .ok (.aload_n 0, 1) := by decide +kernel
theorem d3_9 : decode prog_2_method_2_code 9 = .ok (.getfield 22, 3) := by decide +kernel
theorem d3_12 : decode prog_2_method_2_code 12 = .ok (.lrem, 1) := by decide +kernel
theorem d3_13 : decode prog_2_method_2_code 13 = .ok (.lstore 5, 2) := by decide +kernel
theorem d3_15 : decode prog_2_method_2_code 15 = .ok (.aload_n 0, 1) := by decide +kernel
theorem d3_16 : decode prog_2_method_2_code 16 = .ok (.getfield 25, 3) := by decide +kernel
theorem d3_19 : decode prog_2_method_2_code 19 = .ok (.lload_n 3, 1) := by decide +kernel
theorem d3_20 : decode prog_2_method_2_code 20 = .ok (.getstatic 28, 3) := by decide +kernel
theorem d3_23 : decode prog_2_method_2_code 23 = .ok (.lmul, 1) := by decide +kernel
theorem d3_24 : decode prog_2_method_2_code 24 = .ok (.ladd, 1) := by decide +kernel
theorem d3_25 : decode prog_2_method_2_code 25 = .ok (.lload 5, 2) := by decide +kernel
theorem d3_27 : decode prog_2_method_2_code 27 = .ok (.getstatic 28, 3) := by decide +kernel
theorem d3_30 : decode prog_2_method_2_code 30 = .ok (.lmul, 1) := by decide +kernel
theorem d3_31 : decode prog_2_method_2_code 31 = .ok (.aload_n 0, 1) := by decide +kernel
theorem d3_32 : decode prog_2_method_2_code 32 = .ok (.getfield 22, 3) := by decide +kernel
theorem d3_35 : decode prog_2_method_2_code 35 = .ok (.ldiv, 1) := by decide +kernel
theorem d3_36 : decode prog_2_method_2_code 36 = .ok (.ladd, 1) := by decide +kernel
theorem d3_37 : decode prog_2_method_2_code 37 = .ok (.lreturn, 1) := by decide +kernel
set_option maxRecDepth 65536 in
set_option maxHeartbeats 40000000 in
theorem rm3 (l : Launch) (Z : State) (a0 : Array Value) (hw : ∀ d ∈ tables_1, d.before a0 Z = true) (ws : List Jvm.Cond) (a1 : Addr) (q2 : Int64) (P : Int64) (S : Int64) (h0 : Heap) (n0 : Nat) (Z0 : n0 ≤ h0.size) (F_p : Fld Z h0 a1 "com/example/broker/broker/cli/Pace" "perSecond" "J" (.long P)) (F_s : Fld Z h0 a1 "com/example/broker/broker/cli/Pace" "startNanos" "J" (.long S)) (S_N : Sta Z h0 "com/example/broker/broker/cli/Pace" "NANOS_PER_SECOND" "J" (.long (1000000000 : Int64))) (hnz : ¬ P = 0) :
    MetFree l (⟨"com/example/broker/broker/cli/Pace", "due", "(J)J"⟩ : MethodName) (head1 (Jvm.Cond.code (⟨"com/example/broker/broker/cli/Pace", "due", "(J)J"⟩ : MethodName) prog_2_method_2_code 7 (some .long) :: ws) ({ frames := 0, cells := 0, slots := 0, locals := 0 } : Room)) (fun a U => a = #[(.ref a1), (.long q2)] ∧ Z.Warmed39 U.vm ∧ U.heap = h0) (fun _ _ _ _ _ => True) (fun _ U o U' => ∃ v L, o = .returned v ∧ Q3 Z a1 q2 P S h0 n0 v U'.heap L ∧ FrameEnd U o U' L ({ frames := 0, cells := 0, slots := 0, locals := 0 } : Room).cells ({ frames := 0, cells := 0, slots := 0, locals := 0 } : Room).slots) := by
  refine MetFree.of_bodySF (plainFor_of_name pn_0) hisR ?_
  intro p e s m args below meth c s₁ Bd hml0 hP hK
  obtain ⟨rfl, hZ, hh⟩ := hP
  have hx := Bd.exec
  have hby := Bd.bytes
  have hml : c.maxLocals = 7 := hml0
  have hown : s.vm.findClass "com/example/broker/broker/cli/Pace" = some m.cls := findClass_of_methodNamed Bd.named
  have hnm := (name_of_methodNamed Bd.named Bd.method).1
  have X0 : Stand p l e ({ frames := 0, cells := 0, slots := 0, locals := 0 } : Room) s m #[(.ref a1), (.long q2)] below meth c s₁ [] 0 0 := Stand.of_body Bd
  have e0 : s₁.heap = h0 := by rw [← hh, Bd.state]; rfl
  have N0 := Fr.nil n0
  have pre0 : ∀ t, Steps p.tables e below (s₁.setTop (mkF m 0 #[rv a1, .val (.long q2), .second, .unset, .unset, .unset, .unset] [])) t → Steps p.tables e below (s₁.setTop (entryFrame m #[(.ref a1), (.long q2)] 7)) t := fun t k => castTop (ef_3 m a1 q2) k
  obtain ⟨T1, X1, e1, st1⟩ := getF X0 hx hZ hown (host := "") (Or.inl (hw _ (List.mem_of_getElem? (i := 14) rfl))) Via.refl e0 F_p (g := (mkF m 2 #[rv a1, .val (.long q2), .second, .unset, .unset, .unset, .unset] [(.ref a1), (.long q2)])) rfl rfl (hb hby d3_2)
  obtain ⟨T2, X2, e2, st2⟩ := getF X1 hx hZ hown (host := "") (Or.inl (hw _ (List.mem_of_getElem? (i := 14) rfl))) Via.refl e1 F_p (g := (mkF m 9 #[rv a1, .val (.long q2), .second, .val (.long (q2 / P)), .second, .unset, .unset] [(.ref a1), (.long q2)])) rfl rfl (hb hby d3_9)
  obtain ⟨T3, X3, e3, st3⟩ := getF X2 hx hZ hown (host := "") (Or.inl (hw _ (List.mem_of_getElem? (i := 16) rfl))) Via.refl e2 F_s (g := (mkF m 16 #[rv a1, .val (.long q2), .second, .val (.long (q2 / P)), .second, .val (.long (q2 - (q2 / P) * P)), .second] [(.ref a1)])) rfl rfl (hb hby d3_16)
  obtain ⟨T4, X4, e4, st4⟩ := getS2 X3 hx hZ hown (host := "") (Or.inl (hw _ (List.mem_of_getElem? (i := 23) rfl))) Via.refl e3 S_N (g := (mkF m 20 #[rv a1, .val (.long q2), .second, .val (.long (q2 / P)), .second, .val (.long (q2 - (q2 / P) * P)), .second] [(.long (q2 / P)), (.long S)])) rfl (hb hby d3_20)
  obtain ⟨T5, X5, e5, st5⟩ := getS2 X4 hx hZ hown (host := "") (Or.inl (hw _ (List.mem_of_getElem? (i := 23) rfl))) Via.refl e4 S_N (g := (mkF m 27 #[rv a1, .val (.long q2), .second, .val (.long (q2 / P)), .second, .val (.long (q2 - (q2 / P) * P)), .second] [(.long (q2 - (q2 / P) * P)), (.long (S + ((q2 / P) * (1000000000 : Int64))))])) rfl (hb hby d3_27)
  obtain ⟨T6, X6, e6, st6⟩ := getF X5 hx hZ hown (host := "") (Or.inl (hw _ (List.mem_of_getElem? (i := 14) rfl))) Via.refl e5 F_p (g := (mkF m 32 #[rv a1, .val (.long q2), .second, .val (.long (q2 / P)), .second, .val (.long (q2 - (q2 / P) * P)), .second] [(.ref a1), (.long ((q2 - (q2 / P) * P) * (1000000000 : Int64))), (.long (S + ((q2 / P) * (1000000000 : Int64))))])) rfl rfl (hb hby d3_32)
  have pre7 : ∀ t, own_S p e below T6 m 37 #[rv a1, .val (.long q2), .second, .val (.long (q2 / P)), .second, .val (.long (q2 - (q2 / P) * P)), .second] [(.long ((S + ((q2 / P) * (1000000000 : Int64))) + (((q2 - (q2 / P) * P) * (1000000000 : Int64)) / P)))] t → Steps p.tables e below (s₁.setTop (entryFrame m #[(.ref a1), (.long q2)] 7)) t := fun t k => pre0 t (by
    show own_S p e below s₁ m 0 #[rv a1, .val (.long q2), .second, .unset, .unset, .unset, .unset] [] _
    refine XS.lloadN X0.here hx rfl (hb hby d3_0) rfl ?_
    show own_S p e below s₁ m 1 #[rv a1, .val (.long q2), .second, .unset, .unset, .unset, .unset] [(.long q2)] _
    refine XS.aloadN X0.here hx rfl (hb hby d3_1) rfl rfl ?_
    show own_S p e below s₁ m 2 #[rv a1, .val (.long q2), .second, .unset, .unset, .unset, .unset] [(.ref a1), (.long q2)] _
    refine st1 _ ?_
    show own_S p e below T1 m 5 #[rv a1, .val (.long q2), .second, .unset, .unset, .unset, .unset] [(.long P), (.long q2)] _
    refine XS.ldiv X1.here hx rfl (hb hby d3_5) rfl hnz ?_
    show own_S p e below T1 m 6 #[rv a1, .val (.long q2), .second, .unset, .unset, .unset, .unset] [(.long (q2 / P))] _
    refine XS.lstoreN X1.here hx rfl (hb hby d3_6) rfl (l' := #[rv a1, .val (.long q2), .second, .val (.long (q2 / P)), .second, .unset, .unset]) rfl ?_
    show own_S p e below T1 m 7 #[rv a1, .val (.long q2), .second, .val (.long (q2 / P)), .second, .unset, .unset] [] _
    refine XS.lloadN X1.here hx rfl (hb hby d3_7) rfl ?_
    show own_S p e below T1 m 8 #[rv a1, .val (.long q2), .second, .val (.long (q2 / P)), .second, .unset, .unset] [(.long q2)] _
    refine XS.aloadN X1.here hx rfl (hb hby d3_8) rfl rfl ?_
    show own_S p e below T1 m 9 #[rv a1, .val (.long q2), .second, .val (.long (q2 / P)), .second, .unset, .unset] [(.ref a1), (.long q2)] _
    refine st2 _ ?_
    show own_S p e below T2 m 12 #[rv a1, .val (.long q2), .second, .val (.long (q2 / P)), .second, .unset, .unset] [(.long P), (.long q2)] _
    refine XS.lrem X2.here hx rfl (hb hby d3_12) rfl hnz ?_
    show own_S p e below T2 m 13 #[rv a1, .val (.long q2), .second, .val (.long (q2 / P)), .second, .unset, .unset] [(.long (q2 - (q2 / P) * P))] _
    refine XS.lstore X2.here hx rfl (hb hby d3_13) rfl (l' := #[rv a1, .val (.long q2), .second, .val (.long (q2 / P)), .second, .val (.long (q2 - (q2 / P) * P)), .second]) rfl ?_
    show own_S p e below T2 m 15 #[rv a1, .val (.long q2), .second, .val (.long (q2 / P)), .second, .val (.long (q2 - (q2 / P) * P)), .second] [] _
    refine XS.aloadN X2.here hx rfl (hb hby d3_15) rfl rfl ?_
    show own_S p e below T2 m 16 #[rv a1, .val (.long q2), .second, .val (.long (q2 / P)), .second, .val (.long (q2 - (q2 / P) * P)), .second] [(.ref a1)] _
    refine st3 _ ?_
    show own_S p e below T3 m 19 #[rv a1, .val (.long q2), .second, .val (.long (q2 / P)), .second, .val (.long (q2 - (q2 / P) * P)), .second] [(.long S)] _
    refine XS.lloadN X3.here hx rfl (hb hby d3_19) rfl ?_
    show own_S p e below T3 m 20 #[rv a1, .val (.long q2), .second, .val (.long (q2 / P)), .second, .val (.long (q2 - (q2 / P) * P)), .second] [(.long (q2 / P)), (.long S)] _
    refine st4 _ ?_
    show own_S p e below T4 m 23 #[rv a1, .val (.long q2), .second, .val (.long (q2 / P)), .second, .val (.long (q2 - (q2 / P) * P)), .second] [(.long (1000000000 : Int64)), (.long (q2 / P)), (.long S)] _
    refine XS.lmul X4.here hx rfl (hb hby d3_23) rfl ?_
    show own_S p e below T4 m 24 #[rv a1, .val (.long q2), .second, .val (.long (q2 / P)), .second, .val (.long (q2 - (q2 / P) * P)), .second] [(.long ((q2 / P) * (1000000000 : Int64))), (.long S)] _
    refine XS.ladd X4.here hx rfl (hb hby d3_24) rfl ?_
    show own_S p e below T4 m 25 #[rv a1, .val (.long q2), .second, .val (.long (q2 / P)), .second, .val (.long (q2 - (q2 / P) * P)), .second] [(.long (S + ((q2 / P) * (1000000000 : Int64))))] _
    refine XS.lload X4.here hx rfl (hb hby d3_25) rfl ?_
    show own_S p e below T4 m 27 #[rv a1, .val (.long q2), .second, .val (.long (q2 / P)), .second, .val (.long (q2 - (q2 / P) * P)), .second] [(.long (q2 - (q2 / P) * P)), (.long (S + ((q2 / P) * (1000000000 : Int64))))] _
    refine st5 _ ?_
    show own_S p e below T5 m 30 #[rv a1, .val (.long q2), .second, .val (.long (q2 / P)), .second, .val (.long (q2 - (q2 / P) * P)), .second] [(.long (1000000000 : Int64)), (.long (q2 - (q2 / P) * P)), (.long (S + ((q2 / P) * (1000000000 : Int64))))] _
    refine XS.lmul X5.here hx rfl (hb hby d3_30) rfl ?_
    show own_S p e below T5 m 31 #[rv a1, .val (.long q2), .second, .val (.long (q2 / P)), .second, .val (.long (q2 - (q2 / P) * P)), .second] [(.long ((q2 - (q2 / P) * P) * (1000000000 : Int64))), (.long (S + ((q2 / P) * (1000000000 : Int64))))] _
    refine XS.aloadN X5.here hx rfl (hb hby d3_31) rfl rfl ?_
    show own_S p e below T5 m 32 #[rv a1, .val (.long q2), .second, .val (.long (q2 / P)), .second, .val (.long (q2 - (q2 / P) * P)), .second] [(.ref a1), (.long ((q2 - (q2 / P) * P) * (1000000000 : Int64))), (.long (S + ((q2 / P) * (1000000000 : Int64))))] _
    refine st6 _ ?_
    show own_S p e below T6 m 35 #[rv a1, .val (.long q2), .second, .val (.long (q2 / P)), .second, .val (.long (q2 - (q2 / P) * P)), .second] [(.long P), (.long ((q2 - (q2 / P) * P) * (1000000000 : Int64))), (.long (S + ((q2 / P) * (1000000000 : Int64))))] _
    refine XS.ldiv X6.here hx rfl (hb hby d3_35) rfl hnz ?_
    show own_S p e below T6 m 36 #[rv a1, .val (.long q2), .second, .val (.long (q2 / P)), .second, .val (.long (q2 - (q2 / P) * P)), .second] [(.long (((q2 - (q2 / P) * P) * (1000000000 : Int64)) / P)), (.long (S + ((q2 / P) * (1000000000 : Int64))))] _
    refine XS.ladd X6.here hx rfl (hb hby d3_36) rfl ?_
    exact k)
  obtain ⟨fs, hr, hrun, hended, hW, hsame⟩ := X6.leave (v := some (.long ((S + ((q2 / P) * (1000000000 : Int64))) + (((q2 - (q2 / P) * P) * (1000000000 : Int64)) / P)))) (fun h => by rw [Bd.returns] at h; cases h)
  refine ⟨_, _, pre7 _ ?_, hrun, hended, _, _, rfl, ?_, ⟨_, rfl⟩, hW, hsame.mono (by decide) (by decide)⟩
  · show own_S p e below T6 m 37 #[rv a1, .val (.long q2), .second, .val (.long (q2 / P)), .second, .val (.long (q2 - (q2 / P) * P)), .second] [(.long ((S + ((q2 / P) * (1000000000 : Int64))) + (((q2 - (q2 / P) * P) * (1000000000 : Int64)) / P)))] _
    jvm_step X6.here [X6.here.top, hx, (hb hby d3_37), X6.method', Bd.returns, narrow]
    first | (intro acts; rw [hr _ acts rfl rfl rfl]) | rw [hr _ _ rfl rfl rfl]
    exact Steps.refl _
  · show Q3 Z a1 q2 P S h0 n0 _ T6.heap _
    rw [e6]
    exact ⟨rfl, N0, rfl⟩
theorem pn_1 : plainName "com/example/broker/broker/cli/PaceDuePinLaw" = true := by first | (simp [plainName, overriddenIn]; done) | decide +kernel
theorem ef_0 (m : MethodId) (q1 : Int64) (q2 : Int64) (q3 : Int64) (q4 : Int64) : entryFrame m #[(.long q1), (.long q2), (.long q3), (.long q4)] maxLocals = mkF m 0 #[.val (.long q1), .second, .val (.long q2), .second, .val (.long q3), .second, .val (.long q4), .second, .unset, .unset, .unset, .unset, .unset, .unset, .unset, .unset, .unset, .unset, .unset, .unset, .unset, .unset, .unset, .unset, .unset] [] := by first | (simp [entryFrame, mkF, argsToLocals, Value.category, maxLocals]; done) | rfl
def Q0 (Z : State) (q1 : Int64) (q2 : Int64) (q3 : Int64) (q4 : Int64) (h0 : Heap) (n0 : Nat) (v : Option Value) (h : Heap) (L : List Loc) : Prop := v = some (.int 1) ∧ Fr n0 L
theorem pd_0 : parseMethodDescriptor "(JJ)V" = some ⟨[.long, .long], none⟩ := by decide +kernel
theorem pd_1 : parseMethodDescriptor "(J)J" = some ⟨[.long], some .long⟩ := by decide +kernel
set_option maxRecDepth 65536 in
set_option maxHeartbeats 40000000 in
theorem rm0 (l : Launch) (Z : State) (a0 : Array Value) (hw : ∀ d ∈ tables_1, d.before a0 Z = true) (ws : List Jvm.Cond) (q1 : Int64) (q2 : Int64) (q3 : Int64) (q4 : Int64) (h0 : Heap) (n0 : Nat) (Z0 : n0 ≤ h0.size) (S_M : Sta Z h0 "com/example/broker/broker/cli/Pace" "MAX_RATE" "J" (.long (1000000000 : Int64))) (S_N : Sta Z h0 "com/example/broker/broker/cli/Pace" "NANOS_PER_SECOND" "J" (.long (1000000000 : Int64))) :
    MetFree l x (head1 (Jvm.Cond.code x code maxLocals ret :: ws) room_1) (fun a U => a = #[(.long q1), (.long q2), (.long q3), (.long q4)] ∧ Z.Warmed39 U.vm ∧ U.heap = h0) (fun _ _ _ _ _ => True) (fun _ U o U' => ∃ v L, o = .returned v ∧ Q0 Z q1 q2 q3 q4 h0 n0 v U'.heap L ∧ FrameEnd U o U' L room_1.cells room_1.slots) := by
  refine MetFree.of_bodySF (plainFor_of_name pn_1) hisR ?_
  intro p e s m args below meth c s₁ Bd hml0 hP hK
  obtain ⟨rfl, hZ, hh⟩ := hP
  have hx := Bd.exec
  have hby := Bd.bytes
  have hml : c.maxLocals = 25 := hml0
  have hown : s.vm.findClass "com/example/broker/broker/cli/PaceDuePinLaw" = some m.cls := findClass_of_methodNamed Bd.named
  have hnm := (name_of_methodNamed Bd.named Bd.method).1
  have X0 : Stand p l e room_1 s m #[(.long q1), (.long q2), (.long q3), (.long q4)] below meth c s₁ [] 0 0 := Stand.of_body Bd
  have e0 : s₁.heap = h0 := by rw [← hh, Bd.state]; rfl
  have N0 := Fr.nil n0
  have pre0 : ∀ t, Steps p.tables e below (s₁.setTop (mkF m 0 #[.val (.long q1), .second, .val (.long q2), .second, .val (.long q3), .second, .val (.long q4), .second, .unset, .unset, .unset, .unset, .unset, .unset, .unset, .unset, .unset, .unset, .unset, .unset, .unset, .unset, .unset, .unset, .unset] [])) t → Steps p.tables e below (s₁.setTop (entryFrame m #[(.long q1), (.long q2), (.long q3), (.long q4)] maxLocals)) t := fun t k => castTop (ef_0 m q1 q2 q3 q4) k
  have pre1 : ∀ t, own_S p e below s₁ m 13 #[.val (.long q1), .second, .val (.long q2), .second, .val (.long q3), .second, .val (.long q4), .second, .val (.long ((1 : Int64) + ((q1 &&& (9223372036854775807 : Int64)) - ((q1 &&& (9223372036854775807 : Int64)) / (1000000000 : Int64)) * (1000000000 : Int64)))), .second, .unset, .unset, .unset, .unset, .unset, .unset, .unset, .unset, .unset, .unset, .unset, .unset, .unset, .unset, .unset] [] t → Steps p.tables e below (s₁.setTop (entryFrame m #[(.long q1), (.long q2), (.long q3), (.long q4)] maxLocals)) t := fun t k => pre0 t (by
    show own_S p e below s₁ m 0 #[.val (.long q1), .second, .val (.long q2), .second, .val (.long q3), .second, .val (.long q4), .second, .unset, .unset, .unset, .unset, .unset, .unset, .unset, .unset, .unset, .unset, .unset, .unset, .unset, .unset, .unset, .unset, .unset] [] _
    refine XS.lconst X0.here hx rfl (hb hby at_0) ?_
    show own_S p e below s₁ m 1 #[.val (.long q1), .second, .val (.long q2), .second, .val (.long q3), .second, .val (.long q4), .second, .unset, .unset, .unset, .unset, .unset, .unset, .unset, .unset, .unset, .unset, .unset, .unset, .unset, .unset, .unset, .unset, .unset] [(.long (1 : Int64))] _
    refine XS.lloadN X0.here hx rfl (hb hby at_1) rfl ?_
    show own_S p e below s₁ m 2 #[.val (.long q1), .second, .val (.long q2), .second, .val (.long q3), .second, .val (.long q4), .second, .unset, .unset, .unset, .unset, .unset, .unset, .unset, .unset, .unset, .unset, .unset, .unset, .unset, .unset, .unset, .unset, .unset] [(.long q1), (.long (1 : Int64))] _
    refine X0.ldc2Long hx hown (mvT hZ (hw _ (List.mem_of_getElem? (i := 0) rfl))) (g := (mkF m 2 #[.val (.long q1), .second, .val (.long q2), .second, .val (.long q3), .second, .val (.long q4), .second, .unset, .unset, .unset, .unset, .unset, .unset, .unset, .unset, .unset, .unset, .unset, .unset, .unset, .unset, .unset, .unset, .unset] [(.long q1), (.long (1 : Int64))])) rfl (hb hby at_2) _ ?_
    show own_S p e below s₁ m 5 #[.val (.long q1), .second, .val (.long q2), .second, .val (.long q3), .second, .val (.long q4), .second, .unset, .unset, .unset, .unset, .unset, .unset, .unset, .unset, .unset, .unset, .unset, .unset, .unset, .unset, .unset, .unset, .unset] [(.long (9223372036854775807 : Int64)), (.long q1), (.long (1 : Int64))] _
    refine XS.land X0.here hx rfl (hb hby at_5) rfl ?_
    show own_S p e below s₁ m 6 #[.val (.long q1), .second, .val (.long q2), .second, .val (.long q3), .second, .val (.long q4), .second, .unset, .unset, .unset, .unset, .unset, .unset, .unset, .unset, .unset, .unset, .unset, .unset, .unset, .unset, .unset, .unset, .unset] [(.long (q1 &&& (9223372036854775807 : Int64))), (.long (1 : Int64))] _
    refine X0.ldc2Long hx hown (mvT hZ (hw _ (List.mem_of_getElem? (i := 1) rfl))) (g := (mkF m 6 #[.val (.long q1), .second, .val (.long q2), .second, .val (.long q3), .second, .val (.long q4), .second, .unset, .unset, .unset, .unset, .unset, .unset, .unset, .unset, .unset, .unset, .unset, .unset, .unset, .unset, .unset, .unset, .unset] [(.long (q1 &&& (9223372036854775807 : Int64))), (.long (1 : Int64))])) rfl (hb hby at_6) _ ?_
    show own_S p e below s₁ m 9 #[.val (.long q1), .second, .val (.long q2), .second, .val (.long q3), .second, .val (.long q4), .second, .unset, .unset, .unset, .unset, .unset, .unset, .unset, .unset, .unset, .unset, .unset, .unset, .unset, .unset, .unset, .unset, .unset] [(.long (1000000000 : Int64)), (.long (q1 &&& (9223372036854775807 : Int64))), (.long (1 : Int64))] _
    refine XS.lrem X0.here hx rfl (hb hby at_9) rfl (by decide) ?_
    show own_S p e below s₁ m 10 #[.val (.long q1), .second, .val (.long q2), .second, .val (.long q3), .second, .val (.long q4), .second, .unset, .unset, .unset, .unset, .unset, .unset, .unset, .unset, .unset, .unset, .unset, .unset, .unset, .unset, .unset, .unset, .unset] [(.long ((q1 &&& (9223372036854775807 : Int64)) - ((q1 &&& (9223372036854775807 : Int64)) / (1000000000 : Int64)) * (1000000000 : Int64))), (.long (1 : Int64))] _
    refine XS.ladd X0.here hx rfl (hb hby at_10) rfl ?_
    show own_S p e below s₁ m 11 #[.val (.long q1), .second, .val (.long q2), .second, .val (.long q3), .second, .val (.long q4), .second, .unset, .unset, .unset, .unset, .unset, .unset, .unset, .unset, .unset, .unset, .unset, .unset, .unset, .unset, .unset, .unset, .unset] [(.long ((1 : Int64) + ((q1 &&& (9223372036854775807 : Int64)) - ((q1 &&& (9223372036854775807 : Int64)) / (1000000000 : Int64)) * (1000000000 : Int64))))] _
    refine XS.lstore X0.here hx rfl (hb hby at_11) rfl (l' := #[.val (.long q1), .second, .val (.long q2), .second, .val (.long q3), .second, .val (.long q4), .second, .val (.long ((1 : Int64) + ((q1 &&& (9223372036854775807 : Int64)) - ((q1 &&& (9223372036854775807 : Int64)) / (1000000000 : Int64)) * (1000000000 : Int64)))), .second, .unset, .unset, .unset, .unset, .unset, .unset, .unset, .unset, .unset, .unset, .unset, .unset, .unset, .unset, .unset]) rfl ?_
    exact k)
  obtain ⟨P, eP⟩ : ∃ z, z = ((1 : Int64) + ((q1 &&& (9223372036854775807 : Int64)) - ((q1 &&& (9223372036854775807 : Int64)) / (1000000000 : Int64)) * (1000000000 : Int64))) := ⟨_, rfl⟩
  rw [← eP] at pre1
  have hP := own_P q1
  rw [← eP] at hP
  have pre2 : ∀ t, own_S p e below s₁ m 23 #[.val (.long q1), .second, .val (.long q2), .second, .val (.long q3), .second, .val (.long q4), .second, .val (.long P), .second, .val (.long ((q2 &&& (9223372036854775807 : Int64)) - ((q2 &&& (9223372036854775807 : Int64)) / P) * P)), .second, .unset, .unset, .unset, .unset, .unset, .unset, .unset, .unset, .unset, .unset, .unset, .unset, .unset] [] t → Steps p.tables e below (s₁.setTop (entryFrame m #[(.long q1), (.long q2), (.long q3), (.long q4)] maxLocals)) t := fun t k => pre1 t (by
    show own_S p e below s₁ m 13 #[.val (.long q1), .second, .val (.long q2), .second, .val (.long q3), .second, .val (.long q4), .second, .val (.long P), .second, .unset, .unset, .unset, .unset, .unset, .unset, .unset, .unset, .unset, .unset, .unset, .unset, .unset, .unset, .unset] [] _
    refine XS.lloadN X0.here hx rfl (hb hby at_13) rfl ?_
    show own_S p e below s₁ m 14 #[.val (.long q1), .second, .val (.long q2), .second, .val (.long q3), .second, .val (.long q4), .second, .val (.long P), .second, .unset, .unset, .unset, .unset, .unset, .unset, .unset, .unset, .unset, .unset, .unset, .unset, .unset, .unset, .unset] [(.long q2)] _
    refine X0.ldc2Long hx hown (mvT hZ (hw _ (List.mem_of_getElem? (i := 0) rfl))) (g := (mkF m 14 #[.val (.long q1), .second, .val (.long q2), .second, .val (.long q3), .second, .val (.long q4), .second, .val (.long P), .second, .unset, .unset, .unset, .unset, .unset, .unset, .unset, .unset, .unset, .unset, .unset, .unset, .unset, .unset, .unset] [(.long q2)])) rfl (hb hby at_14) _ ?_
    show own_S p e below s₁ m 17 #[.val (.long q1), .second, .val (.long q2), .second, .val (.long q3), .second, .val (.long q4), .second, .val (.long P), .second, .unset, .unset, .unset, .unset, .unset, .unset, .unset, .unset, .unset, .unset, .unset, .unset, .unset, .unset, .unset] [(.long (9223372036854775807 : Int64)), (.long q2)] _
    refine XS.land X0.here hx rfl (hb hby at_17) rfl ?_
    show own_S p e below s₁ m 18 #[.val (.long q1), .second, .val (.long q2), .second, .val (.long q3), .second, .val (.long q4), .second, .val (.long P), .second, .unset, .unset, .unset, .unset, .unset, .unset, .unset, .unset, .unset, .unset, .unset, .unset, .unset, .unset, .unset] [(.long (q2 &&& (9223372036854775807 : Int64)))] _
    refine XS.lload X0.here hx rfl (hb hby at_18) rfl ?_
    show own_S p e below s₁ m 20 #[.val (.long q1), .second, .val (.long q2), .second, .val (.long q3), .second, .val (.long q4), .second, .val (.long P), .second, .unset, .unset, .unset, .unset, .unset, .unset, .unset, .unset, .unset, .unset, .unset, .unset, .unset, .unset, .unset] [(.long P), (.long (q2 &&& (9223372036854775807 : Int64)))] _
    refine XS.lrem X0.here hx rfl (hb hby at_20) rfl (own_nz hP.1) ?_
    show own_S p e below s₁ m 21 #[.val (.long q1), .second, .val (.long q2), .second, .val (.long q3), .second, .val (.long q4), .second, .val (.long P), .second, .unset, .unset, .unset, .unset, .unset, .unset, .unset, .unset, .unset, .unset, .unset, .unset, .unset, .unset, .unset] [(.long ((q2 &&& (9223372036854775807 : Int64)) - ((q2 &&& (9223372036854775807 : Int64)) / P) * P))] _
    refine XS.lstore X0.here hx rfl (hb hby at_21) rfl (l' := #[.val (.long q1), .second, .val (.long q2), .second, .val (.long q3), .second, .val (.long q4), .second, .val (.long P), .second, .val (.long ((q2 &&& (9223372036854775807 : Int64)) - ((q2 &&& (9223372036854775807 : Int64)) / P) * P)), .second, .unset, .unset, .unset, .unset, .unset, .unset, .unset, .unset, .unset, .unset, .unset, .unset, .unset]) rfl ?_
    exact k)
  obtain ⟨R, eR⟩ : ∃ z, z = ((q2 &&& (9223372036854775807 : Int64)) - ((q2 &&& (9223372036854775807 : Int64)) / P) * P) := ⟨_, rfl⟩
  rw [← eR] at pre2
  have hR := own_R q2 P hP.1
  rw [← eR] at hR
  have pre3 : ∀ t, own_S p e below s₁ m 31 #[.val (.long q1), .second, .val (.long q2), .second, .val (.long q3), .second, .val (.long q4), .second, .val (.long P), .second, .val (.long R), .second, .val (.long (q3 &&& (8589934591 : Int64))), .second, .unset, .unset, .unset, .unset, .unset, .unset, .unset, .unset, .unset, .unset, .unset] [] t → Steps p.tables e below (s₁.setTop (entryFrame m #[(.long q1), (.long q2), (.long q3), (.long q4)] maxLocals)) t := fun t k => pre2 t (by
    show own_S p e below s₁ m 23 #[.val (.long q1), .second, .val (.long q2), .second, .val (.long q3), .second, .val (.long q4), .second, .val (.long P), .second, .val (.long R), .second, .unset, .unset, .unset, .unset, .unset, .unset, .unset, .unset, .unset, .unset, .unset, .unset, .unset] [] _
    refine XS.lload X0.here hx rfl (hb hby at_23) rfl ?_
    show own_S p e below s₁ m 25 #[.val (.long q1), .second, .val (.long q2), .second, .val (.long q3), .second, .val (.long q4), .second, .val (.long P), .second, .val (.long R), .second, .unset, .unset, .unset, .unset, .unset, .unset, .unset, .unset, .unset, .unset, .unset, .unset, .unset] [(.long q3)] _
    refine X0.ldc2Long hx hown (mvT hZ (hw _ (List.mem_of_getElem? (i := 2) rfl))) (g := (mkF m 25 #[.val (.long q1), .second, .val (.long q2), .second, .val (.long q3), .second, .val (.long q4), .second, .val (.long P), .second, .val (.long R), .second, .unset, .unset, .unset, .unset, .unset, .unset, .unset, .unset, .unset, .unset, .unset, .unset, .unset] [(.long q3)])) rfl (hb hby at_25) _ ?_
    show own_S p e below s₁ m 28 #[.val (.long q1), .second, .val (.long q2), .second, .val (.long q3), .second, .val (.long q4), .second, .val (.long P), .second, .val (.long R), .second, .unset, .unset, .unset, .unset, .unset, .unset, .unset, .unset, .unset, .unset, .unset, .unset, .unset] [(.long (8589934591 : Int64)), (.long q3)] _
    refine XS.land X0.here hx rfl (hb hby at_28) rfl ?_
    show own_S p e below s₁ m 29 #[.val (.long q1), .second, .val (.long q2), .second, .val (.long q3), .second, .val (.long q4), .second, .val (.long P), .second, .val (.long R), .second, .unset, .unset, .unset, .unset, .unset, .unset, .unset, .unset, .unset, .unset, .unset, .unset, .unset] [(.long (q3 &&& (8589934591 : Int64)))] _
    refine XS.lstore X0.here hx rfl (hb hby at_29) rfl (l' := #[.val (.long q1), .second, .val (.long q2), .second, .val (.long q3), .second, .val (.long q4), .second, .val (.long P), .second, .val (.long R), .second, .val (.long (q3 &&& (8589934591 : Int64))), .second, .unset, .unset, .unset, .unset, .unset, .unset, .unset, .unset, .unset, .unset, .unset]) rfl ?_
    exact k)
  obtain ⟨K, eK⟩ : ∃ z, z = (q3 &&& (8589934591 : Int64)) := ⟨_, rfl⟩
  rw [← eK] at pre3
  have hK := own_K q3
  rw [← eK] at hK
  obtain ⟨T4, h4, X4, e4, E4, A4, D4, -, st4⟩ := newO X0 hx hZ hown (hw _ (List.mem_of_getElem? (i := 3) rfl)) (hw _ (List.mem_of_getElem? (i := 4) rfl)) (hw _ (List.mem_of_getElem? (i := 5) rfl)) e0 (g := (mkF m 45 #[.val (.long q1), .second, .val (.long q2), .second, .val (.long q3), .second, .val (.long q4), .second, .val (.long P), .second, .val (.long R), .second, .val (.long K), .second, .val (.long q4), .second, .val (.long ((K * P) + R)), .second, .unset, .unset, .unset, .unset, .unset, .unset, .unset] [])) rfl (hb hby at_45) (by decide) (by decide)
  obtain ⟨b4, g4⟩ : ∃ z, z = h0.size := ⟨_, rfl⟩
  rw [← g4] at A4 D4 st4
  have g_b4 : n0 ≤ b4 := Nat.le_trans Z0 (Nat.le_of_eq g4.symm)
  have sz_b4 : h0.size ≤ b4 := Nat.le_trans ((Keep.refl h0 [])).1 (Nat.le_of_eq g4.symm)
  have F_perSecond_b4 : Fld Z h4 b4 "com/example/broker/broker/cli/Pace" "perSecond" "J" (.long (0 : Int64)) := D4 (Or.inr (hw _ (List.mem_of_getElem? (i := 15) rfl))) (ty := .long) (by decide)
  have F_startNanos_b4 : Fld Z h4 b4 "com/example/broker/broker/cli/Pace" "startNanos" "J" (.long (0 : Int64)) := D4 (Or.inr (hw _ (List.mem_of_getElem? (i := 17) rfl))) (ty := .long) (by decide)
  have Sn_5 := (S_M.ext E4)
  have Zs7 : n0 ≤ h4.size := (Nat.le_trans Z0 E4.1)
  obtain ⟨_, _, ⟨T6, L6, k6, n6⟩, -, X6, ⟨Lc6, hQ6, l6, y6, z6⟩, st6⟩ := X4.specialBack hx (y := (⟨"com/example/broker/broker/cli/Pace", "<init>", "(JJ)V"⟩ : MethodName)) rfl hown (mvT hZ (hw _ (List.mem_of_getElem? (i := 6) rfl))) (mvT hZ (hw _ (List.mem_of_getElem? (i := 7) rfl))) (mvT hZ (hw _ (List.mem_of_getElem? (i := 8) rfl))) (by decide) (backOf (W := 1) (rm1 l Z a0 hw [] b4 P q4 h4 n0 Zs7 A4 g_b4 F_perSecond_b4 F_startNanos_b4 Sn_5 (own_lo hP.1) (own_hi hP.2)) hZ (hw _ (List.mem_of_getElem? (i := 8) rfl)) (hw _ (List.mem_of_getElem? (i := 5) rfl)) (by decide) (by decide)) (g := (mkF m 53 #[.val (.long q1), .second, .val (.long q2), .second, .val (.long q3), .second, .val (.long q4), .second, .val (.long P), .second, .val (.long R), .second, .val (.long K), .second, .val (.long q4), .second, .val (.long ((K * P) + R)), .second, .unset, .unset, .unset, .unset, .unset, .unset, .unset] [(.long q4), (.long P), (.ref b4), (.ref b4)])) rfl (by rw [hml]; rfl) (Steps.refl _) (a := b4) (argsL := [(.long P), (.long q4)]) (rest := [(.ref b4)]) (lenOf pd_0 rfl) rfl (by show 2 * 0 + _ ≤ _; exact Nat.le_of_eq rfl) (hb hby at_53) (fun _ _ => ⟨rfl, e4, (by decide : 1 + 0 ≤ _), (by decide : 2 + 0 ≤ _)⟩)
  dsimp only [Pt.U, Pt.locs, Pt.cells, Pt.slots] at X6 l6 y6 z6 st6 hQ6
  subst l6 y6 z6
  obtain ⟨rfl, N6q, K6, E6c, Fp6, Fs6⟩ := hQ6
  have N6 := Fr.app N0 N6q
  have Sn_8 := (own_sta_keep (S_N.ext E4) K6 A4)
  have Zs10 : n0 ≤ T6.heap.size := (Nat.le_trans Zs7 K6.1)
  obtain ⟨cq9, kq9, q9a, q9b, q9c⟩ := isOf hZ rfl E6c
  obtain ⟨_, _, ⟨T9, L9, k9, n9⟩, -, X9, ⟨Lc9, hQ9, l9, y9, z9⟩, st9⟩ := X6.virtualBack hx (y := (⟨"com/example/broker/broker/cli/Pace", "due", "(J)J"⟩ : MethodName)) (z := (⟨"com/example/broker/broker/cli/Pace", "due", "(J)J"⟩ : MethodName)) hown (mvT hZ (hw _ (List.mem_of_getElem? (i := 18) rfl))) (mvT hZ (hw _ (List.mem_of_getElem? (i := 19) rfl))) (notFace_of_selects (args := #[]) (mvT hZ (hw _ (List.mem_of_getElem? (i := 21) rfl)))) (mvT hZ (hw _ (List.mem_of_getElem? (i := 21) rfl))) (mvT hZ (hw _ (List.mem_of_getElem? (i := 20) rfl))) (by decide) (backOf (W := 0) (rm3 l Z a0 hw [] b4 ((K * P) + R) P q4 T6.heap n0 Zs10 Fp6 Fs6 Sn_8 (own_nz hP.1)) hZ (hw _ (List.mem_of_getElem? (i := 22) rfl)) (hw _ (List.mem_of_getElem? (i := 5) rfl)) (by decide) (by decide)) q9a q9c (g := (mkF m 62 #[.val (.long q1), .second, .val (.long q2), .second, .val (.long q3), .second, .val (.long q4), .second, .val (.long P), .second, .val (.long R), .second, .val (.long K), .second, .val (.long q4), .second, .val (.long ((K * P) + R)), .second, rv b4, .unset, .unset, .unset, .unset, .unset, .unset] [(.long ((K * P) + R)), (.ref b4)])) rfl (by rw [hml]; rfl) (Steps.refl _) (argsL := [(.long ((K * P) + R))]) (rest := []) (lenOf pd_1 rfl) rfl (by show 2 * 0 + _ ≤ _; exact Nat.le_of_eq rfl) (hb hby at_62) (fun _ _ => ⟨rfl, rfl, (by decide : 1 + 0 ≤ _), (by decide : 2 + 0 ≤ _)⟩)
  dsimp only [Pt.U, Pt.locs, Pt.cells, Pt.slots] at X9 l9 y9 z9 st9 hQ9
  subst l9 y9 z9
  obtain ⟨rfl, N9q, e9q⟩ := hQ9
  have N9 := Fr.app N6 N9q
  have e9 : T9.heap = T6.heap := e9q
  have pre11 : ∀ t, own_S p e below T9 m 81 #[.val (.long q1), .second, .val (.long q2), .second, .val (.long q3), .second, .val (.long q4), .second, .val (.long P), .second, .val (.long R), .second, .val (.long K), .second, .val (.long q4), .second, .val (.long ((K * P) + R)), .second, rv b4, .val (.long ((q4 + ((((K * P) + R) / P) * (1000000000 : Int64))) + (((((K * P) + R) - (((K * P) + R) / P) * P) * (1000000000 : Int64)) / P))), .second, .val (.long ((((q4 + ((((K * P) + R) / P) * (1000000000 : Int64))) + (((((K * P) + R) - (((K * P) + R) / P) * P) * (1000000000 : Int64)) / P)) - q4) - (K * (1000000000 : Int64)))), .second, .unset, .unset] [] t → Steps p.tables e below (s₁.setTop (entryFrame m #[(.long q1), (.long q2), (.long q3), (.long q4)] maxLocals)) t := fun t k => pre3 t (by
    show own_S p e below s₁ m 31 #[.val (.long q1), .second, .val (.long q2), .second, .val (.long q3), .second, .val (.long q4), .second, .val (.long P), .second, .val (.long R), .second, .val (.long K), .second, .unset, .unset, .unset, .unset, .unset, .unset, .unset, .unset, .unset, .unset, .unset] [] _
    refine XS.lload X0.here hx rfl (hb hby at_31) rfl ?_
    show own_S p e below s₁ m 33 #[.val (.long q1), .second, .val (.long q2), .second, .val (.long q3), .second, .val (.long q4), .second, .val (.long P), .second, .val (.long R), .second, .val (.long K), .second, .unset, .unset, .unset, .unset, .unset, .unset, .unset, .unset, .unset, .unset, .unset] [(.long q4)] _
    refine XS.lstore X0.here hx rfl (hb hby at_33) rfl (l' := #[.val (.long q1), .second, .val (.long q2), .second, .val (.long q3), .second, .val (.long q4), .second, .val (.long P), .second, .val (.long R), .second, .val (.long K), .second, .val (.long q4), .second, .unset, .unset, .unset, .unset, .unset, .unset, .unset, .unset, .unset]) rfl ?_
    show own_S p e below s₁ m 35 #[.val (.long q1), .second, .val (.long q2), .second, .val (.long q3), .second, .val (.long q4), .second, .val (.long P), .second, .val (.long R), .second, .val (.long K), .second, .val (.long q4), .second, .unset, .unset, .unset, .unset, .unset, .unset, .unset, .unset, .unset] [] _
    refine XS.lload X0.here hx rfl (hb hby at_35) rfl ?_
    show own_S p e below s₁ m 37 #[.val (.long q1), .second, .val (.long q2), .second, .val (.long q3), .second, .val (.long q4), .second, .val (.long P), .second, .val (.long R), .second, .val (.long K), .second, .val (.long q4), .second, .unset, .unset, .unset, .unset, .unset, .unset, .unset, .unset, .unset] [(.long K)] _
    refine XS.lload X0.here hx rfl (hb hby at_37) rfl ?_
    show own_S p e below s₁ m 39 #[.val (.long q1), .second, .val (.long q2), .second, .val (.long q3), .second, .val (.long q4), .second, .val (.long P), .second, .val (.long R), .second, .val (.long K), .second, .val (.long q4), .second, .unset, .unset, .unset, .unset, .unset, .unset, .unset, .unset, .unset] [(.long P), (.long K)] _
    refine XS.lmul X0.here hx rfl (hb hby at_39) rfl ?_
    show own_S p e below s₁ m 40 #[.val (.long q1), .second, .val (.long q2), .second, .val (.long q3), .second, .val (.long q4), .second, .val (.long P), .second, .val (.long R), .second, .val (.long K), .second, .val (.long q4), .second, .unset, .unset, .unset, .unset, .unset, .unset, .unset, .unset, .unset] [(.long (K * P))] _
    refine XS.lload X0.here hx rfl (hb hby at_40) rfl ?_
    show own_S p e below s₁ m 42 #[.val (.long q1), .second, .val (.long q2), .second, .val (.long q3), .second, .val (.long q4), .second, .val (.long P), .second, .val (.long R), .second, .val (.long K), .second, .val (.long q4), .second, .unset, .unset, .unset, .unset, .unset, .unset, .unset, .unset, .unset] [(.long R), (.long (K * P))] _
    refine XS.ladd X0.here hx rfl (hb hby at_42) rfl ?_
    show own_S p e below s₁ m 43 #[.val (.long q1), .second, .val (.long q2), .second, .val (.long q3), .second, .val (.long q4), .second, .val (.long P), .second, .val (.long R), .second, .val (.long K), .second, .val (.long q4), .second, .unset, .unset, .unset, .unset, .unset, .unset, .unset, .unset, .unset] [(.long ((K * P) + R))] _
    refine XS.lstore X0.here hx rfl (hb hby at_43) rfl (l' := #[.val (.long q1), .second, .val (.long q2), .second, .val (.long q3), .second, .val (.long q4), .second, .val (.long P), .second, .val (.long R), .second, .val (.long K), .second, .val (.long q4), .second, .val (.long ((K * P) + R)), .second, .unset, .unset, .unset, .unset, .unset, .unset, .unset]) rfl ?_
    show own_S p e below s₁ m 45 #[.val (.long q1), .second, .val (.long q2), .second, .val (.long q3), .second, .val (.long q4), .second, .val (.long P), .second, .val (.long R), .second, .val (.long K), .second, .val (.long q4), .second, .val (.long ((K * P) + R)), .second, .unset, .unset, .unset, .unset, .unset, .unset, .unset] [] _
    refine st4 _ ?_
    show own_S p e below T4 m 48 #[.val (.long q1), .second, .val (.long q2), .second, .val (.long q3), .second, .val (.long q4), .second, .val (.long P), .second, .val (.long R), .second, .val (.long K), .second, .val (.long q4), .second, .val (.long ((K * P) + R)), .second, .unset, .unset, .unset, .unset, .unset, .unset, .unset] [(.ref b4)] _
    refine XS.dup X4.here hx rfl (hb hby at_48) rfl rfl ?_
    show own_S p e below T4 m 49 #[.val (.long q1), .second, .val (.long q2), .second, .val (.long q3), .second, .val (.long q4), .second, .val (.long P), .second, .val (.long R), .second, .val (.long K), .second, .val (.long q4), .second, .val (.long ((K * P) + R)), .second, .unset, .unset, .unset, .unset, .unset, .unset, .unset] [(.ref b4), (.ref b4)] _
    refine XS.lload X4.here hx rfl (hb hby at_49) rfl ?_
    show own_S p e below T4 m 51 #[.val (.long q1), .second, .val (.long q2), .second, .val (.long q3), .second, .val (.long q4), .second, .val (.long P), .second, .val (.long R), .second, .val (.long K), .second, .val (.long q4), .second, .val (.long ((K * P) + R)), .second, .unset, .unset, .unset, .unset, .unset, .unset, .unset] [(.long P), (.ref b4), (.ref b4)] _
    refine XS.lload X4.here hx rfl (hb hby at_51) rfl ?_
    show own_S p e below T4 m 53 #[.val (.long q1), .second, .val (.long q2), .second, .val (.long q3), .second, .val (.long q4), .second, .val (.long P), .second, .val (.long R), .second, .val (.long K), .second, .val (.long q4), .second, .val (.long ((K * P) + R)), .second, .unset, .unset, .unset, .unset, .unset, .unset, .unset] [(.long q4), (.long P), (.ref b4), (.ref b4)] _
    refine st6.trans ?_
    show own_S p e below T6 m 56 #[.val (.long q1), .second, .val (.long q2), .second, .val (.long q3), .second, .val (.long q4), .second, .val (.long P), .second, .val (.long R), .second, .val (.long K), .second, .val (.long q4), .second, .val (.long ((K * P) + R)), .second, .unset, .unset, .unset, .unset, .unset, .unset, .unset] [(.ref b4)] _
    refine XS.astore X6.here hx rfl (hb hby at_56) rfl rfl (l' := #[.val (.long q1), .second, .val (.long q2), .second, .val (.long q3), .second, .val (.long q4), .second, .val (.long P), .second, .val (.long R), .second, .val (.long K), .second, .val (.long q4), .second, .val (.long ((K * P) + R)), .second, rv b4, .unset, .unset, .unset, .unset, .unset, .unset]) rfl ?_
    show own_S p e below T6 m 58 #[.val (.long q1), .second, .val (.long q2), .second, .val (.long q3), .second, .val (.long q4), .second, .val (.long P), .second, .val (.long R), .second, .val (.long K), .second, .val (.long q4), .second, .val (.long ((K * P) + R)), .second, rv b4, .unset, .unset, .unset, .unset, .unset, .unset] [] _
    refine XS.aload X6.here hx rfl (hb hby at_58) rfl rfl ?_
    show own_S p e below T6 m 60 #[.val (.long q1), .second, .val (.long q2), .second, .val (.long q3), .second, .val (.long q4), .second, .val (.long P), .second, .val (.long R), .second, .val (.long K), .second, .val (.long q4), .second, .val (.long ((K * P) + R)), .second, rv b4, .unset, .unset, .unset, .unset, .unset, .unset] [(.ref b4)] _
    refine XS.lload X6.here hx rfl (hb hby at_60) rfl ?_
    show own_S p e below T6 m 62 #[.val (.long q1), .second, .val (.long q2), .second, .val (.long q3), .second, .val (.long q4), .second, .val (.long P), .second, .val (.long R), .second, .val (.long K), .second, .val (.long q4), .second, .val (.long ((K * P) + R)), .second, rv b4, .unset, .unset, .unset, .unset, .unset, .unset] [(.long ((K * P) + R)), (.ref b4)] _
    refine st9.trans ?_
    show own_S p e below T9 m 65 #[.val (.long q1), .second, .val (.long q2), .second, .val (.long q3), .second, .val (.long q4), .second, .val (.long P), .second, .val (.long R), .second, .val (.long K), .second, .val (.long q4), .second, .val (.long ((K * P) + R)), .second, rv b4, .unset, .unset, .unset, .unset, .unset, .unset] [(.long ((q4 + ((((K * P) + R) / P) * (1000000000 : Int64))) + (((((K * P) + R) - (((K * P) + R) / P) * P) * (1000000000 : Int64)) / P)))] _
    refine XS.lstore X9.here hx rfl (hb hby at_65) rfl (l' := #[.val (.long q1), .second, .val (.long q2), .second, .val (.long q3), .second, .val (.long q4), .second, .val (.long P), .second, .val (.long R), .second, .val (.long K), .second, .val (.long q4), .second, .val (.long ((K * P) + R)), .second, rv b4, .val (.long ((q4 + ((((K * P) + R) / P) * (1000000000 : Int64))) + (((((K * P) + R) - (((K * P) + R) / P) * P) * (1000000000 : Int64)) / P))), .second, .unset, .unset, .unset, .unset]) rfl ?_
    show own_S p e below T9 m 67 #[.val (.long q1), .second, .val (.long q2), .second, .val (.long q3), .second, .val (.long q4), .second, .val (.long P), .second, .val (.long R), .second, .val (.long K), .second, .val (.long q4), .second, .val (.long ((K * P) + R)), .second, rv b4, .val (.long ((q4 + ((((K * P) + R) / P) * (1000000000 : Int64))) + (((((K * P) + R) - (((K * P) + R) / P) * P) * (1000000000 : Int64)) / P))), .second, .unset, .unset, .unset, .unset] [] _
    refine XS.lload X9.here hx rfl (hb hby at_67) rfl ?_
    show own_S p e below T9 m 69 #[.val (.long q1), .second, .val (.long q2), .second, .val (.long q3), .second, .val (.long q4), .second, .val (.long P), .second, .val (.long R), .second, .val (.long K), .second, .val (.long q4), .second, .val (.long ((K * P) + R)), .second, rv b4, .val (.long ((q4 + ((((K * P) + R) / P) * (1000000000 : Int64))) + (((((K * P) + R) - (((K * P) + R) / P) * P) * (1000000000 : Int64)) / P))), .second, .unset, .unset, .unset, .unset] [(.long ((q4 + ((((K * P) + R) / P) * (1000000000 : Int64))) + (((((K * P) + R) - (((K * P) + R) / P) * P) * (1000000000 : Int64)) / P)))] _
    refine XS.lload X9.here hx rfl (hb hby at_69) rfl ?_
    show own_S p e below T9 m 71 #[.val (.long q1), .second, .val (.long q2), .second, .val (.long q3), .second, .val (.long q4), .second, .val (.long P), .second, .val (.long R), .second, .val (.long K), .second, .val (.long q4), .second, .val (.long ((K * P) + R)), .second, rv b4, .val (.long ((q4 + ((((K * P) + R) / P) * (1000000000 : Int64))) + (((((K * P) + R) - (((K * P) + R) / P) * P) * (1000000000 : Int64)) / P))), .second, .unset, .unset, .unset, .unset] [(.long q4), (.long ((q4 + ((((K * P) + R) / P) * (1000000000 : Int64))) + (((((K * P) + R) - (((K * P) + R) / P) * P) * (1000000000 : Int64)) / P)))] _
    refine XS.lsub X9.here hx rfl (hb hby at_71) rfl ?_
    show own_S p e below T9 m 72 #[.val (.long q1), .second, .val (.long q2), .second, .val (.long q3), .second, .val (.long q4), .second, .val (.long P), .second, .val (.long R), .second, .val (.long K), .second, .val (.long q4), .second, .val (.long ((K * P) + R)), .second, rv b4, .val (.long ((q4 + ((((K * P) + R) / P) * (1000000000 : Int64))) + (((((K * P) + R) - (((K * P) + R) / P) * P) * (1000000000 : Int64)) / P))), .second, .unset, .unset, .unset, .unset] [(.long (((q4 + ((((K * P) + R) / P) * (1000000000 : Int64))) + (((((K * P) + R) - (((K * P) + R) / P) * P) * (1000000000 : Int64)) / P)) - q4))] _
    refine XS.lload X9.here hx rfl (hb hby at_72) rfl ?_
    show own_S p e below T9 m 74 #[.val (.long q1), .second, .val (.long q2), .second, .val (.long q3), .second, .val (.long q4), .second, .val (.long P), .second, .val (.long R), .second, .val (.long K), .second, .val (.long q4), .second, .val (.long ((K * P) + R)), .second, rv b4, .val (.long ((q4 + ((((K * P) + R) / P) * (1000000000 : Int64))) + (((((K * P) + R) - (((K * P) + R) / P) * P) * (1000000000 : Int64)) / P))), .second, .unset, .unset, .unset, .unset] [(.long K), (.long (((q4 + ((((K * P) + R) / P) * (1000000000 : Int64))) + (((((K * P) + R) - (((K * P) + R) / P) * P) * (1000000000 : Int64)) / P)) - q4))] _
    refine X9.ldc2Long hx hown (mvT hZ (hw _ (List.mem_of_getElem? (i := 1) rfl))) (g := (mkF m 74 #[.val (.long q1), .second, .val (.long q2), .second, .val (.long q3), .second, .val (.long q4), .second, .val (.long P), .second, .val (.long R), .second, .val (.long K), .second, .val (.long q4), .second, .val (.long ((K * P) + R)), .second, rv b4, .val (.long ((q4 + ((((K * P) + R) / P) * (1000000000 : Int64))) + (((((K * P) + R) - (((K * P) + R) / P) * P) * (1000000000 : Int64)) / P))), .second, .unset, .unset, .unset, .unset] [(.long K), (.long (((q4 + ((((K * P) + R) / P) * (1000000000 : Int64))) + (((((K * P) + R) - (((K * P) + R) / P) * P) * (1000000000 : Int64)) / P)) - q4))])) rfl (hb hby at_74) _ ?_
    show own_S p e below T9 m 77 #[.val (.long q1), .second, .val (.long q2), .second, .val (.long q3), .second, .val (.long q4), .second, .val (.long P), .second, .val (.long R), .second, .val (.long K), .second, .val (.long q4), .second, .val (.long ((K * P) + R)), .second, rv b4, .val (.long ((q4 + ((((K * P) + R) / P) * (1000000000 : Int64))) + (((((K * P) + R) - (((K * P) + R) / P) * P) * (1000000000 : Int64)) / P))), .second, .unset, .unset, .unset, .unset] [(.long (1000000000 : Int64)), (.long K), (.long (((q4 + ((((K * P) + R) / P) * (1000000000 : Int64))) + (((((K * P) + R) - (((K * P) + R) / P) * P) * (1000000000 : Int64)) / P)) - q4))] _
    refine XS.lmul X9.here hx rfl (hb hby at_77) rfl ?_
    show own_S p e below T9 m 78 #[.val (.long q1), .second, .val (.long q2), .second, .val (.long q3), .second, .val (.long q4), .second, .val (.long P), .second, .val (.long R), .second, .val (.long K), .second, .val (.long q4), .second, .val (.long ((K * P) + R)), .second, rv b4, .val (.long ((q4 + ((((K * P) + R) / P) * (1000000000 : Int64))) + (((((K * P) + R) - (((K * P) + R) / P) * P) * (1000000000 : Int64)) / P))), .second, .unset, .unset, .unset, .unset] [(.long (K * (1000000000 : Int64))), (.long (((q4 + ((((K * P) + R) / P) * (1000000000 : Int64))) + (((((K * P) + R) - (((K * P) + R) / P) * P) * (1000000000 : Int64)) / P)) - q4))] _
    refine XS.lsub X9.here hx rfl (hb hby at_78) rfl ?_
    show own_S p e below T9 m 79 #[.val (.long q1), .second, .val (.long q2), .second, .val (.long q3), .second, .val (.long q4), .second, .val (.long P), .second, .val (.long R), .second, .val (.long K), .second, .val (.long q4), .second, .val (.long ((K * P) + R)), .second, rv b4, .val (.long ((q4 + ((((K * P) + R) / P) * (1000000000 : Int64))) + (((((K * P) + R) - (((K * P) + R) / P) * P) * (1000000000 : Int64)) / P))), .second, .unset, .unset, .unset, .unset] [(.long ((((q4 + ((((K * P) + R) / P) * (1000000000 : Int64))) + (((((K * P) + R) - (((K * P) + R) / P) * P) * (1000000000 : Int64)) / P)) - q4) - (K * (1000000000 : Int64))))] _
    refine XS.lstore X9.here hx rfl (hb hby at_79) rfl (l' := #[.val (.long q1), .second, .val (.long q2), .second, .val (.long q3), .second, .val (.long q4), .second, .val (.long P), .second, .val (.long R), .second, .val (.long K), .second, .val (.long q4), .second, .val (.long ((K * P) + R)), .second, rv b4, .val (.long ((q4 + ((((K * P) + R) / P) * (1000000000 : Int64))) + (((((K * P) + R) - (((K * P) + R) / P) * P) * (1000000000 : Int64)) / P))), .second, .val (.long ((((q4 + ((((K * P) + R) / P) * (1000000000 : Int64))) + (((((K * P) + R) - (((K * P) + R) / P) * P) * (1000000000 : Int64)) / P)) - q4) - (K * (1000000000 : Int64)))), .second, .unset, .unset]) rfl ?_
    exact k)
  have hdue := own_due P R K q4 hP.1 hP.2 hR.1 hR.2 hK.1 hK.2
  rw [hdue] at pre11
  have hq := own_q P R hP.1 hP.2 hR.1 hR.2
  have pre12 : ∀ t, own_S p e below T9 m 136 #[.val (.long q1), .second, .val (.long q2), .second, .val (.long q3), .second, .val (.long q4), .second, .val (.long P), .second, .val (.long R), .second, .val (.long K), .second, .val (.long q4), .second, .val (.long ((K * P) + R)), .second, rv b4, .val (.long ((q4 + ((((K * P) + R) / P) * (1000000000 : Int64))) + (((((K * P) + R) - (((K * P) + R) / P) * P) * (1000000000 : Int64)) / P))), .second, .val (.long ((R * (1000000000 : Int64)) / P)), .second, .val (.long (R * (1000000000 : Int64))), .second] [(.int (1 : Int32))] t → Steps p.tables e below (s₁.setTop (entryFrame m #[(.long q1), (.long q2), (.long q3), (.long q4)] maxLocals)) t := fun t k => pre11 t (by
    show own_S p e below T9 m 81 #[.val (.long q1), .second, .val (.long q2), .second, .val (.long q3), .second, .val (.long q4), .second, .val (.long P), .second, .val (.long R), .second, .val (.long K), .second, .val (.long q4), .second, .val (.long ((K * P) + R)), .second, rv b4, .val (.long ((q4 + ((((K * P) + R) / P) * (1000000000 : Int64))) + (((((K * P) + R) - (((K * P) + R) / P) * P) * (1000000000 : Int64)) / P))), .second, .val (.long ((R * (1000000000 : Int64)) / P)), .second, .unset, .unset] [] _
    refine XS.lload X9.here hx rfl (hb hby at_81) rfl ?_
    show own_S p e below T9 m 83 #[.val (.long q1), .second, .val (.long q2), .second, .val (.long q3), .second, .val (.long q4), .second, .val (.long P), .second, .val (.long R), .second, .val (.long K), .second, .val (.long q4), .second, .val (.long ((K * P) + R)), .second, rv b4, .val (.long ((q4 + ((((K * P) + R) / P) * (1000000000 : Int64))) + (((((K * P) + R) - (((K * P) + R) / P) * P) * (1000000000 : Int64)) / P))), .second, .val (.long ((R * (1000000000 : Int64)) / P)), .second, .unset, .unset] [(.long ((R * (1000000000 : Int64)) / P))] _
    refine XS.lconst X9.here hx rfl (hb hby at_83) ?_
    show own_S p e below T9 m 84 #[.val (.long q1), .second, .val (.long q2), .second, .val (.long q3), .second, .val (.long q4), .second, .val (.long P), .second, .val (.long R), .second, .val (.long K), .second, .val (.long q4), .second, .val (.long ((K * P) + R)), .second, rv b4, .val (.long ((q4 + ((((K * P) + R) / P) * (1000000000 : Int64))) + (((((K * P) + R) - (((K * P) + R) / P) * P) * (1000000000 : Int64)) / P))), .second, .val (.long ((R * (1000000000 : Int64)) / P)), .second, .unset, .unset] [(.long (0 : Int64)), (.long ((R * (1000000000 : Int64)) / P))] _
    refine XS.lcmp X9.here hx rfl (hb hby at_84) rfl ?_
    show own_S p e below T9 m 85 #[.val (.long q1), .second, .val (.long q2), .second, .val (.long q3), .second, .val (.long q4), .second, .val (.long P), .second, .val (.long R), .second, .val (.long K), .second, .val (.long q4), .second, .val (.long ((K * P) + R)), .second, rv b4, .val (.long ((q4 + ((((K * P) + R) / P) * (1000000000 : Int64))) + (((((K * P) + R) - (((K * P) + R) / P) * P) * (1000000000 : Int64)) / P))), .second, .val (.long ((R * (1000000000 : Int64)) / P)), .second, .unset, .unset] [(.int (lcmpW ((R * (1000000000 : Int64)) / P) (0 : Int64)))] _
    refine XS.ifNo X9.here hx rfl (hb hby at_85) rfl ((if0 _ _).trans (flt (fun q => hq.1 ((lw_lt _ _).mp q))).1) ?_
    show own_S p e below T9 m 88 #[.val (.long q1), .second, .val (.long q2), .second, .val (.long q3), .second, .val (.long q4), .second, .val (.long P), .second, .val (.long R), .second, .val (.long K), .second, .val (.long q4), .second, .val (.long ((K * P) + R)), .second, rv b4, .val (.long ((q4 + ((((K * P) + R) / P) * (1000000000 : Int64))) + (((((K * P) + R) - (((K * P) + R) / P) * P) * (1000000000 : Int64)) / P))), .second, .val (.long ((R * (1000000000 : Int64)) / P)), .second, .unset, .unset] [] _
    refine XS.lload X9.here hx rfl (hb hby at_88) rfl ?_
    show own_S p e below T9 m 90 #[.val (.long q1), .second, .val (.long q2), .second, .val (.long q3), .second, .val (.long q4), .second, .val (.long P), .second, .val (.long R), .second, .val (.long K), .second, .val (.long q4), .second, .val (.long ((K * P) + R)), .second, rv b4, .val (.long ((q4 + ((((K * P) + R) / P) * (1000000000 : Int64))) + (((((K * P) + R) - (((K * P) + R) / P) * P) * (1000000000 : Int64)) / P))), .second, .val (.long ((R * (1000000000 : Int64)) / P)), .second, .unset, .unset] [(.long ((R * (1000000000 : Int64)) / P))] _
    refine X9.ldc2Long hx hown (mvT hZ (hw _ (List.mem_of_getElem? (i := 1) rfl))) (g := (mkF m 90 #[.val (.long q1), .second, .val (.long q2), .second, .val (.long q3), .second, .val (.long q4), .second, .val (.long P), .second, .val (.long R), .second, .val (.long K), .second, .val (.long q4), .second, .val (.long ((K * P) + R)), .second, rv b4, .val (.long ((q4 + ((((K * P) + R) / P) * (1000000000 : Int64))) + (((((K * P) + R) - (((K * P) + R) / P) * P) * (1000000000 : Int64)) / P))), .second, .val (.long ((R * (1000000000 : Int64)) / P)), .second, .unset, .unset] [(.long ((R * (1000000000 : Int64)) / P))])) rfl (hb hby at_90) _ ?_
    show own_S p e below T9 m 93 #[.val (.long q1), .second, .val (.long q2), .second, .val (.long q3), .second, .val (.long q4), .second, .val (.long P), .second, .val (.long R), .second, .val (.long K), .second, .val (.long q4), .second, .val (.long ((K * P) + R)), .second, rv b4, .val (.long ((q4 + ((((K * P) + R) / P) * (1000000000 : Int64))) + (((((K * P) + R) - (((K * P) + R) / P) * P) * (1000000000 : Int64)) / P))), .second, .val (.long ((R * (1000000000 : Int64)) / P)), .second, .unset, .unset] [(.long (1000000000 : Int64)), (.long ((R * (1000000000 : Int64)) / P))] _
    refine XS.lcmp X9.here hx rfl (hb hby at_93) rfl ?_
    show own_S p e below T9 m 94 #[.val (.long q1), .second, .val (.long q2), .second, .val (.long q3), .second, .val (.long q4), .second, .val (.long P), .second, .val (.long R), .second, .val (.long K), .second, .val (.long q4), .second, .val (.long ((K * P) + R)), .second, rv b4, .val (.long ((q4 + ((((K * P) + R) / P) * (1000000000 : Int64))) + (((((K * P) + R) - (((K * P) + R) / P) * P) * (1000000000 : Int64)) / P))), .second, .val (.long ((R * (1000000000 : Int64)) / P)), .second, .unset, .unset] [(.int (lcmpW ((R * (1000000000 : Int64)) / P) (1000000000 : Int64)))] _
    refine XS.ifYes X9.here hx rfl (pc0 := 94) (pc' := 99) rfl (hb hby at_94) rfl ((if0 _ _).trans (tlt ((lw_lt _ _).mpr hq.2.1)).1) (by decide) (by decide) ?_
    show own_S p e below T9 m 99 #[.val (.long q1), .second, .val (.long q2), .second, .val (.long q3), .second, .val (.long q4), .second, .val (.long P), .second, .val (.long R), .second, .val (.long K), .second, .val (.long q4), .second, .val (.long ((K * P) + R)), .second, rv b4, .val (.long ((q4 + ((((K * P) + R) / P) * (1000000000 : Int64))) + (((((K * P) + R) - (((K * P) + R) / P) * P) * (1000000000 : Int64)) / P))), .second, .val (.long ((R * (1000000000 : Int64)) / P)), .second, .unset, .unset] [] _
    refine XS.lload X9.here hx rfl (hb hby at_99) rfl ?_
    show own_S p e below T9 m 101 #[.val (.long q1), .second, .val (.long q2), .second, .val (.long q3), .second, .val (.long q4), .second, .val (.long P), .second, .val (.long R), .second, .val (.long K), .second, .val (.long q4), .second, .val (.long ((K * P) + R)), .second, rv b4, .val (.long ((q4 + ((((K * P) + R) / P) * (1000000000 : Int64))) + (((((K * P) + R) - (((K * P) + R) / P) * P) * (1000000000 : Int64)) / P))), .second, .val (.long ((R * (1000000000 : Int64)) / P)), .second, .unset, .unset] [(.long R)] _
    refine X9.ldc2Long hx hown (mvT hZ (hw _ (List.mem_of_getElem? (i := 1) rfl))) (g := (mkF m 101 #[.val (.long q1), .second, .val (.long q2), .second, .val (.long q3), .second, .val (.long q4), .second, .val (.long P), .second, .val (.long R), .second, .val (.long K), .second, .val (.long q4), .second, .val (.long ((K * P) + R)), .second, rv b4, .val (.long ((q4 + ((((K * P) + R) / P) * (1000000000 : Int64))) + (((((K * P) + R) - (((K * P) + R) / P) * P) * (1000000000 : Int64)) / P))), .second, .val (.long ((R * (1000000000 : Int64)) / P)), .second, .unset, .unset] [(.long R)])) rfl (hb hby at_101) _ ?_
    show own_S p e below T9 m 104 #[.val (.long q1), .second, .val (.long q2), .second, .val (.long q3), .second, .val (.long q4), .second, .val (.long P), .second, .val (.long R), .second, .val (.long K), .second, .val (.long q4), .second, .val (.long ((K * P) + R)), .second, rv b4, .val (.long ((q4 + ((((K * P) + R) / P) * (1000000000 : Int64))) + (((((K * P) + R) - (((K * P) + R) / P) * P) * (1000000000 : Int64)) / P))), .second, .val (.long ((R * (1000000000 : Int64)) / P)), .second, .unset, .unset] [(.long (1000000000 : Int64)), (.long R)] _
    refine XS.lmul X9.here hx rfl (hb hby at_104) rfl ?_
    show own_S p e below T9 m 105 #[.val (.long q1), .second, .val (.long q2), .second, .val (.long q3), .second, .val (.long q4), .second, .val (.long P), .second, .val (.long R), .second, .val (.long K), .second, .val (.long q4), .second, .val (.long ((K * P) + R)), .second, rv b4, .val (.long ((q4 + ((((K * P) + R) / P) * (1000000000 : Int64))) + (((((K * P) + R) - (((K * P) + R) / P) * P) * (1000000000 : Int64)) / P))), .second, .val (.long ((R * (1000000000 : Int64)) / P)), .second, .unset, .unset] [(.long (R * (1000000000 : Int64)))] _
    refine XS.lstore X9.here hx rfl (hb hby at_105) rfl (l' := #[.val (.long q1), .second, .val (.long q2), .second, .val (.long q3), .second, .val (.long q4), .second, .val (.long P), .second, .val (.long R), .second, .val (.long K), .second, .val (.long q4), .second, .val (.long ((K * P) + R)), .second, rv b4, .val (.long ((q4 + ((((K * P) + R) / P) * (1000000000 : Int64))) + (((((K * P) + R) - (((K * P) + R) / P) * P) * (1000000000 : Int64)) / P))), .second, .val (.long ((R * (1000000000 : Int64)) / P)), .second, .val (.long (R * (1000000000 : Int64))), .second]) rfl ?_
    show own_S p e below T9 m 107 #[.val (.long q1), .second, .val (.long q2), .second, .val (.long q3), .second, .val (.long q4), .second, .val (.long P), .second, .val (.long R), .second, .val (.long K), .second, .val (.long q4), .second, .val (.long ((K * P) + R)), .second, rv b4, .val (.long ((q4 + ((((K * P) + R) / P) * (1000000000 : Int64))) + (((((K * P) + R) - (((K * P) + R) / P) * P) * (1000000000 : Int64)) / P))), .second, .val (.long ((R * (1000000000 : Int64)) / P)), .second, .val (.long (R * (1000000000 : Int64))), .second] [] _
    refine XS.lload X9.here hx rfl (hb hby at_107) rfl ?_
    show own_S p e below T9 m 109 #[.val (.long q1), .second, .val (.long q2), .second, .val (.long q3), .second, .val (.long q4), .second, .val (.long P), .second, .val (.long R), .second, .val (.long K), .second, .val (.long q4), .second, .val (.long ((K * P) + R)), .second, rv b4, .val (.long ((q4 + ((((K * P) + R) / P) * (1000000000 : Int64))) + (((((K * P) + R) - (((K * P) + R) / P) * P) * (1000000000 : Int64)) / P))), .second, .val (.long ((R * (1000000000 : Int64)) / P)), .second, .val (.long (R * (1000000000 : Int64))), .second] [(.long ((R * (1000000000 : Int64)) / P))] _
    refine XS.lload X9.here hx rfl (hb hby at_109) rfl ?_
    show own_S p e below T9 m 111 #[.val (.long q1), .second, .val (.long q2), .second, .val (.long q3), .second, .val (.long q4), .second, .val (.long P), .second, .val (.long R), .second, .val (.long K), .second, .val (.long q4), .second, .val (.long ((K * P) + R)), .second, rv b4, .val (.long ((q4 + ((((K * P) + R) / P) * (1000000000 : Int64))) + (((((K * P) + R) - (((K * P) + R) / P) * P) * (1000000000 : Int64)) / P))), .second, .val (.long ((R * (1000000000 : Int64)) / P)), .second, .val (.long (R * (1000000000 : Int64))), .second] [(.long P), (.long ((R * (1000000000 : Int64)) / P))] _
    refine XS.lmul X9.here hx rfl (hb hby at_111) rfl ?_
    show own_S p e below T9 m 112 #[.val (.long q1), .second, .val (.long q2), .second, .val (.long q3), .second, .val (.long q4), .second, .val (.long P), .second, .val (.long R), .second, .val (.long K), .second, .val (.long q4), .second, .val (.long ((K * P) + R)), .second, rv b4, .val (.long ((q4 + ((((K * P) + R) / P) * (1000000000 : Int64))) + (((((K * P) + R) - (((K * P) + R) / P) * P) * (1000000000 : Int64)) / P))), .second, .val (.long ((R * (1000000000 : Int64)) / P)), .second, .val (.long (R * (1000000000 : Int64))), .second] [(.long (((R * (1000000000 : Int64)) / P) * P))] _
    refine XS.lload X9.here hx rfl (hb hby at_112) rfl ?_
    show own_S p e below T9 m 114 #[.val (.long q1), .second, .val (.long q2), .second, .val (.long q3), .second, .val (.long q4), .second, .val (.long P), .second, .val (.long R), .second, .val (.long K), .second, .val (.long q4), .second, .val (.long ((K * P) + R)), .second, rv b4, .val (.long ((q4 + ((((K * P) + R) / P) * (1000000000 : Int64))) + (((((K * P) + R) - (((K * P) + R) / P) * P) * (1000000000 : Int64)) / P))), .second, .val (.long ((R * (1000000000 : Int64)) / P)), .second, .val (.long (R * (1000000000 : Int64))), .second] [(.long (R * (1000000000 : Int64))), (.long (((R * (1000000000 : Int64)) / P) * P))] _
    refine XS.lcmp X9.here hx rfl (hb hby at_114) rfl ?_
    show own_S p e below T9 m 115 #[.val (.long q1), .second, .val (.long q2), .second, .val (.long q3), .second, .val (.long q4), .second, .val (.long P), .second, .val (.long R), .second, .val (.long K), .second, .val (.long q4), .second, .val (.long ((K * P) + R)), .second, rv b4, .val (.long ((q4 + ((((K * P) + R) / P) * (1000000000 : Int64))) + (((((K * P) + R) - (((K * P) + R) / P) * P) * (1000000000 : Int64)) / P))), .second, .val (.long ((R * (1000000000 : Int64)) / P)), .second, .val (.long (R * (1000000000 : Int64))), .second] [(.int (lcmpW (((R * (1000000000 : Int64)) / P) * P) (R * (1000000000 : Int64))))] _
    refine XS.ifNo X9.here hx rfl (hb hby at_115) rfl ((if0 _ _).trans (flt (fun q => hq.2.2.1 ((lw_gt _ _).mp q))).2.2.1) ?_
    show own_S p e below T9 m 118 #[.val (.long q1), .second, .val (.long q2), .second, .val (.long q3), .second, .val (.long q4), .second, .val (.long P), .second, .val (.long R), .second, .val (.long K), .second, .val (.long q4), .second, .val (.long ((K * P) + R)), .second, rv b4, .val (.long ((q4 + ((((K * P) + R) / P) * (1000000000 : Int64))) + (((((K * P) + R) - (((K * P) + R) / P) * P) * (1000000000 : Int64)) / P))), .second, .val (.long ((R * (1000000000 : Int64)) / P)), .second, .val (.long (R * (1000000000 : Int64))), .second] [] _
    refine XS.lload X9.here hx rfl (hb hby at_118) rfl ?_
    show own_S p e below T9 m 120 #[.val (.long q1), .second, .val (.long q2), .second, .val (.long q3), .second, .val (.long q4), .second, .val (.long P), .second, .val (.long R), .second, .val (.long K), .second, .val (.long q4), .second, .val (.long ((K * P) + R)), .second, rv b4, .val (.long ((q4 + ((((K * P) + R) / P) * (1000000000 : Int64))) + (((((K * P) + R) - (((K * P) + R) / P) * P) * (1000000000 : Int64)) / P))), .second, .val (.long ((R * (1000000000 : Int64)) / P)), .second, .val (.long (R * (1000000000 : Int64))), .second] [(.long (R * (1000000000 : Int64)))] _
    refine XS.lload X9.here hx rfl (hb hby at_120) rfl ?_
    show own_S p e below T9 m 122 #[.val (.long q1), .second, .val (.long q2), .second, .val (.long q3), .second, .val (.long q4), .second, .val (.long P), .second, .val (.long R), .second, .val (.long K), .second, .val (.long q4), .second, .val (.long ((K * P) + R)), .second, rv b4, .val (.long ((q4 + ((((K * P) + R) / P) * (1000000000 : Int64))) + (((((K * P) + R) - (((K * P) + R) / P) * P) * (1000000000 : Int64)) / P))), .second, .val (.long ((R * (1000000000 : Int64)) / P)), .second, .val (.long (R * (1000000000 : Int64))), .second] [(.long ((R * (1000000000 : Int64)) / P)), (.long (R * (1000000000 : Int64)))] _
    refine XS.lconst X9.here hx rfl (hb hby at_122) ?_
    show own_S p e below T9 m 123 #[.val (.long q1), .second, .val (.long q2), .second, .val (.long q3), .second, .val (.long q4), .second, .val (.long P), .second, .val (.long R), .second, .val (.long K), .second, .val (.long q4), .second, .val (.long ((K * P) + R)), .second, rv b4, .val (.long ((q4 + ((((K * P) + R) / P) * (1000000000 : Int64))) + (((((K * P) + R) - (((K * P) + R) / P) * P) * (1000000000 : Int64)) / P))), .second, .val (.long ((R * (1000000000 : Int64)) / P)), .second, .val (.long (R * (1000000000 : Int64))), .second] [(.long (1 : Int64)), (.long ((R * (1000000000 : Int64)) / P)), (.long (R * (1000000000 : Int64)))] _
    refine XS.ladd X9.here hx rfl (hb hby at_123) rfl ?_
    show own_S p e below T9 m 124 #[.val (.long q1), .second, .val (.long q2), .second, .val (.long q3), .second, .val (.long q4), .second, .val (.long P), .second, .val (.long R), .second, .val (.long K), .second, .val (.long q4), .second, .val (.long ((K * P) + R)), .second, rv b4, .val (.long ((q4 + ((((K * P) + R) / P) * (1000000000 : Int64))) + (((((K * P) + R) - (((K * P) + R) / P) * P) * (1000000000 : Int64)) / P))), .second, .val (.long ((R * (1000000000 : Int64)) / P)), .second, .val (.long (R * (1000000000 : Int64))), .second] [(.long (((R * (1000000000 : Int64)) / P) + (1 : Int64))), (.long (R * (1000000000 : Int64)))] _
    refine XS.lload X9.here hx rfl (hb hby at_124) rfl ?_
    show own_S p e below T9 m 126 #[.val (.long q1), .second, .val (.long q2), .second, .val (.long q3), .second, .val (.long q4), .second, .val (.long P), .second, .val (.long R), .second, .val (.long K), .second, .val (.long q4), .second, .val (.long ((K * P) + R)), .second, rv b4, .val (.long ((q4 + ((((K * P) + R) / P) * (1000000000 : Int64))) + (((((K * P) + R) - (((K * P) + R) / P) * P) * (1000000000 : Int64)) / P))), .second, .val (.long ((R * (1000000000 : Int64)) / P)), .second, .val (.long (R * (1000000000 : Int64))), .second] [(.long P), (.long (((R * (1000000000 : Int64)) / P) + (1 : Int64))), (.long (R * (1000000000 : Int64)))] _
    refine XS.lmul X9.here hx rfl (hb hby at_126) rfl ?_
    show own_S p e below T9 m 127 #[.val (.long q1), .second, .val (.long q2), .second, .val (.long q3), .second, .val (.long q4), .second, .val (.long P), .second, .val (.long R), .second, .val (.long K), .second, .val (.long q4), .second, .val (.long ((K * P) + R)), .second, rv b4, .val (.long ((q4 + ((((K * P) + R) / P) * (1000000000 : Int64))) + (((((K * P) + R) - (((K * P) + R) / P) * P) * (1000000000 : Int64)) / P))), .second, .val (.long ((R * (1000000000 : Int64)) / P)), .second, .val (.long (R * (1000000000 : Int64))), .second] [(.long ((((R * (1000000000 : Int64)) / P) + (1 : Int64)) * P)), (.long (R * (1000000000 : Int64)))] _
    refine XS.lcmp X9.here hx rfl (hb hby at_127) rfl ?_
    show own_S p e below T9 m 128 #[.val (.long q1), .second, .val (.long q2), .second, .val (.long q3), .second, .val (.long q4), .second, .val (.long P), .second, .val (.long R), .second, .val (.long K), .second, .val (.long q4), .second, .val (.long ((K * P) + R)), .second, rv b4, .val (.long ((q4 + ((((K * P) + R) / P) * (1000000000 : Int64))) + (((((K * P) + R) - (((K * P) + R) / P) * P) * (1000000000 : Int64)) / P))), .second, .val (.long ((R * (1000000000 : Int64)) / P)), .second, .val (.long (R * (1000000000 : Int64))), .second] [(.int (lcmpW (R * (1000000000 : Int64)) ((((R * (1000000000 : Int64)) / P) + (1 : Int64)) * P)))] _
    refine XS.ifNo X9.here hx rfl (hb hby at_128) rfl ((if0 _ _).trans (tlt ((lw_lt _ _).mpr hq.2.2.2)).2.1) ?_
    show own_S p e below T9 m 131 #[.val (.long q1), .second, .val (.long q2), .second, .val (.long q3), .second, .val (.long q4), .second, .val (.long P), .second, .val (.long R), .second, .val (.long K), .second, .val (.long q4), .second, .val (.long ((K * P) + R)), .second, rv b4, .val (.long ((q4 + ((((K * P) + R) / P) * (1000000000 : Int64))) + (((((K * P) + R) - (((K * P) + R) / P) * P) * (1000000000 : Int64)) / P))), .second, .val (.long ((R * (1000000000 : Int64)) / P)), .second, .val (.long (R * (1000000000 : Int64))), .second] [] _
    refine XS.iconst X9.here hx rfl (hb hby at_131) ?_
    show own_S p e below T9 m 132 #[.val (.long q1), .second, .val (.long q2), .second, .val (.long q3), .second, .val (.long q4), .second, .val (.long P), .second, .val (.long R), .second, .val (.long K), .second, .val (.long q4), .second, .val (.long ((K * P) + R)), .second, rv b4, .val (.long ((q4 + ((((K * P) + R) / P) * (1000000000 : Int64))) + (((((K * P) + R) - (((K * P) + R) / P) * P) * (1000000000 : Int64)) / P))), .second, .val (.long ((R * (1000000000 : Int64)) / P)), .second, .val (.long (R * (1000000000 : Int64))), .second] [(.int (1 : Int32))] _
    refine XS.goto X9.here hx rfl (pc0 := 132) (pc' := 136) rfl (hb hby at_132) (by decide) (by decide) ?_
    exact k)
  obtain ⟨fs, hr, hrun, hended, hW, hsame⟩ := X9.leave (v := some (.int (nar .boolean (1 : Int32)))) (fun h => by rw [Bd.returns] at h; cases h)
  refine ⟨_, _, pre12 _ ?_, hrun, hended, _, _, rfl, ?_, ⟨_, rfl⟩, hW, hsame.mono (by decide) (by decide)⟩
  · show own_S p e below T9 m 136 #[.val (.long q1), .second, .val (.long q2), .second, .val (.long q3), .second, .val (.long q4), .second, .val (.long P), .second, .val (.long R), .second, .val (.long K), .second, .val (.long q4), .second, .val (.long ((K * P) + R)), .second, rv b4, .val (.long ((q4 + ((((K * P) + R) / P) * (1000000000 : Int64))) + (((((K * P) + R) - (((K * P) + R) / P) * P) * (1000000000 : Int64)) / P))), .second, .val (.long ((R * (1000000000 : Int64)) / P)), .second, .val (.long (R * (1000000000 : Int64))), .second] [(.int (1 : Int32))] _
    exact retN X9 hx (t := .boolean) Bd.returns (by simp) (hb hby at_136) hr
  · show Q0 Z q1 q2 q3 q4 h0 n0 _ T9.heap _
    rw [e9]
    exact ⟨rfl, N9⟩
set_option maxRecDepth 65536 in
set_option maxHeartbeats 40000000 in
theorem comes_1 {Post : Tables → Env → Array Value → State → Outcome → State → Prop} (hpost : ∀ tb e args s v u, (limb_1_1.after args s (.returned v) u = true ∧ limb_1_2.after args s (.returned v) u = true ∧ True) → FrameEnd s (.returned v) u (Jvm.fieldLocs frame_1_writes args s ++ Jvm.arrayLocs frame_1_arrays args s ++ Jvm.staticLocs frame_1_statics s) 16 128 → Post tb e args s (.returned v) u) :
    ArmFor flags0 classFile x code maxLocals ret World_1 tables_1 room_1 Calls_1 rest_1 Pre_1 Post := by
  intro l hfl _ _ p e ha hc hk s m args below hf hA hF happ hP
  obtain ⟨hcalls, hrest, hpre⟩ := hP
  obtain ⟨-, -, -, hnamed, -, -, -, hat⟩ := (Spec.applies_iff hf).mp happ
  obtain ⟨hg, hn⟩ := and_e (Cond.before_iff.mp (show (Jvm.Cond.and given_1 narrow_1).before args s = true from hpre))
  obtain ⟨g1, g2⟩ := and_e hg
  obtain ⟨g3, g4⟩ := and_e g2
  obtain ⟨g5, g6⟩ := and_e g4
  obtain ⟨g7, g8⟩ := and_e g6
  obtain ⟨w0, w1, w2, w3, rfl⟩ : ∃ w0 w1 w2 w3 : Value, args = #[w0, w1, w2, w3] := by
    have hs : args.size = 4 := by simpa [Cond.value, given_1] using g1
    obtain ⟨L⟩ := args
    match L, hs with
    | [w0, w1, w2, w3], _ => exact ⟨w0, w1, w2, w3, rfl⟩
  have hw := fun d (hd : d ∈ tables_1) => atoms_spec (ws := Jvm.Cond.code x code maxLocals ret :: tables_1) hat d (List.mem_cons_of_mem _ hd)
  have hfit : Fit s := fun {y c} hc i hi => by
    obtain ⟨ha, rfl⟩ := Array.getElem?_eq_some_iff.mp hc
    have q := List.all_eq_true.mp ((Array.all_eq_true_iff_forall_mem.mp hF) _ (Array.getElem_mem ha)) i (List.mem_range.mpr hi)
    simpa [Array.getElem?_eq_getElem hi] using q
  obtain ⟨i0, ei0⟩ := isL_v g3
  obtain rfl : w0 = (.long i0) := Option.some.inj ei0
  obtain ⟨i1, ei1⟩ := isL_v g5
  obtain rfl : w1 = (.long i1) := Option.some.inj ei1
  obtain ⟨i2, ei2⟩ := isL_v g7
  obtain rfl : w2 = (.long i2) := Option.some.inj ei2
  obtain ⟨i3, ei3⟩ := isL_v g8
  obtain rfl : w3 = (.long i3) := Option.some.inj ei3
  obtain ⟨n0, hn0⟩ := and_e hn
  have n1 := hn0
  have S_M := Sta.start (own_eqL n0) (Or.inr ⟨(hw _ (List.mem_of_getElem? (i := 5) rfl)), (hw _ (List.mem_of_getElem? (i := 13) rfl))⟩)
  have S_N := Sta.start (own_eqL n1) (Or.inr ⟨(hw _ (List.mem_of_getElem? (i := 5) rfl)), (hw _ (List.mem_of_getElem? (i := 24) rfl))⟩)
  obtain ⟨n, o, h1, h2, h3, _, L, rfl, ⟨rfl, N⟩, hq⟩ := rm0 l s _ hw tables_1 i0 i1 i2 i3 s.heap s.heap.size (Nat.le_refl _) S_M S_N p e ha hc hk s m _ below hf ((Spec.applies_iff_loose hf).mp happ).1 ⟨rfl, State.Warmed39.refl s, rfl⟩ trivial
  refine ⟨n, _, h1, h2, h3, hpost _ _ _ _ _ _ ⟨Cond.after_iff.mpr rfl, Cond.after_iff.mpr (eq_i res_at (Term.int_eval (1)) rfl), trivial⟩ ⟨hq.1, hq.2.1, (hq.2.2.sift fun y hy => Or.inr (N y hy)).mono (by decide) (by decide)⟩⟩
theorem main_1_1 : Claimed_1_1 := comes_1 fun _ _ _ _ _ _ h hF => ⟨h.1, hF⟩
theorem main_1_2 : Claimed_1_2 := comes_1 fun _ _ _ _ _ _ h hF => ⟨h.2.1, hF⟩
end Jvm.Pilot.@@N@@
namespace Jvm.Pilot.@@N@@
open Jvm Jvm.ClassFile Sem Op Lib Jvm.Free Jvm.Stand Jvm.Pilot.@@N@@.Jvm.D
/-! MADE BY PROGRAM (witnessworld.py) out of the Statement's table words and the real class files: 9 classes; the members and pool entries that the words name. The judged class is class 1, her method 1. -/
namespace start1
open Jvm.ClassFile
def u (s : String) : CpInfo := .utf8 (stringToUtf16 s)
/-- a pool by its gaps: so many unusable entries, then the entry; so many at the end -/
def gap : Nat → List CpInfo → List CpInfo
  | 0, r => r
  | n + 1, r => .unusable :: gap n r
def poolList (es : List (Nat × CpInfo)) (last : Nat) : List CpInfo := es.foldr (fun e r => gap e.1 (e.2 :: r)) (gap last [])
def pool (es : List (Nat × CpInfo)) (last : Nat) : Array CpInfo := ⟨poolList es last⟩
def fileOf (pool : Array CpInfo) (this : Nat) (attrs : Array Attribute := #[]) (ms : Array MethodInfo := #[]) (fl : Nat := 33) (sup : Nat := 0) (ifs : Array Nat := #[]) (fds : Array FieldInfo := #[]) : ClassFile where
  minorVersion := 0
  majorVersion := 65
  constantPool := pool
  accessFlags := fl
  thisClass := this
  superClass := sup
  interfaces := ifs
  fields := fds
  methods := ms
  attributes := attrs
def plain (name : String) (sup : Option ClassId) : Class where
  name := name
  kind := .ordinary
  loader := none
  accessFlags := 33
  super := sup
  interfaces := #[]
  cf := none
  fields := #[]
  methods := #[]
  instanceTypes := #[]
  staticTypes := #[]
  resolved := #[]
  callSites := []
  init := .initialized
  statics := none
  mirror := none

def pool0 : Array CpInfo := pool [(5, u "<init>"), (0, u "()V"), (1, .class_ 10), (1, u "java/lang/Object")] 113

def k0c0 : Code := { maxStack := 0, maxLocals := 1, code := object_method_1_code, exceptionTable := #[], attributes := #[] }
def k0m0 : Method := { name := "<init>", desc := "()V", sig := { parameters := [], returnType := none }, accessFlags := 1, code := some k0c0 }
/-- java/lang/Object -/
def k0 : Class := { plain "java/lang/Object" none with
  accessFlags := 33
  interfaces := #[]
  cf := some (fileOf pool0 8 #[] #[{ accessFlags := 1, nameIndex := 5, descriptorIndex := 6, attributes := #[] }] 33 0 #[] #[])
  fields := #[]
  methods := #[k0m0]
  instanceTypes := #[]
  staticTypes := #[]
  resolved := Array.replicate 124 none
  statics := none }

def pool1 : Array CpInfo := pool [(2, .class_ 4), (1, u "java/lang/Object"), (0, u "<init>"), (0, u "()V"), (2, .long 9223372036854775807), (1, .class_ 12), (0, u "com/example/broker/broker/cli/PaceDuePinLaw"), (0, .long 1000000000), (1, .long 8589934591), (1, .class_ 18), (0, u "com/example/broker/broker/cli/Pace"), (0, .methodref 17 20), (0, .nameAndType 5 21), (0, u "(JJ)V"), (0, .methodref 17 23), (0, .nameAndType 24 25), (0, u "due"), (0, u "(J)J"), (0, u "NANOS"), (0, u "J"), (3, u "law"), (0, u "(JJJJ)Z")] 3

def k1m0 : Method := { name := "<init>", desc := "()V", sig := { parameters := [], returnType := none }, accessFlags := 1, code := none }
def k1c1 : Code := { maxStack := 6, maxLocals := 25, code := code, exceptionTable := #[], attributes := #[] }
def k1m1 : Method := { name := "law", desc := "(JJJJ)Z", sig := { parameters := [.long, .long, .long, .long], returnType := some .boolean }, accessFlags := 9, code := some k1c1 }
/-- com/example/broker/broker/cli/PaceDuePinLaw -/
def k1 : Class := { plain "com/example/broker/broker/cli/PaceDuePinLaw" (some 0) with
  accessFlags := 49
  interfaces := #[]
  cf := some (fileOf pool1 11 #[] #[{ accessFlags := 1, nameIndex := 5, descriptorIndex := 6, attributes := #[] }, { accessFlags := 9, nameIndex := 31, descriptorIndex := 32, attributes := #[] }] 49 2 #[] #[{ accessFlags := 26, nameIndex := 26, descriptorIndex := 27, attributes := #[] }])
  fields := #[{ name := "NANOS", type := .long, accessFlags := 26, slot := 0, constantValue := 0 }]
  methods := #[k1m0, k1m1]
  instanceTypes := #[]
  staticTypes := #[.long]
  resolved := Array.replicate 36 none
  statics := none }

def pool2 : Array CpInfo := pool [(1, .methodref 2 3), (0, .class_ 4), (0, .nameAndType 5 6), (0, u "java/lang/Object"), (0, u "<init>"), (0, u "()V"), (0, .fieldref 8 9), (0, .class_ 10), (0, .nameAndType 11 12), (0, u "com/example/broker/broker/cli/Pace"), (0, u "MAX_RATE"), (0, u "J"), (9, .fieldref 8 23), (0, .nameAndType 24 12), (0, u "perSecond"), (0, .fieldref 8 26), (0, .nameAndType 27 12), (0, u "startNanos"), (0, .fieldref 8 29), (0, .nameAndType 30 12), (0, u "NANOS_PER_SECOND"), (2, u "due"), (0, u "(J)J"), (21, u "(JJ)V")] 22

def k2c0 : Code := { maxStack := 6, maxLocals := 5, code := prog_2_method_1_code, exceptionTable := #[], attributes := #[] }
def k2m0 : Method := { name := "<init>", desc := "(JJ)V", sig := { parameters := [.long, .long], returnType := none }, accessFlags := 0, code := some k2c0 }
def k2c1 : Code := { maxStack := 6, maxLocals := 7, code := prog_2_method_2_code, exceptionTable := #[], attributes := #[] }
def k2m1 : Method := { name := "due", desc := "(J)J", sig := { parameters := [.long], returnType := some .long }, accessFlags := 0, code := some k2c1 }
/-- com/example/broker/broker/cli/Pace -/
def k2 : Class := { plain "com/example/broker/broker/cli/Pace" (some 0) with
  accessFlags := 48
  interfaces := #[]
  cf := some (fileOf pool2 8 #[] #[{ accessFlags := 0, nameIndex := 5, descriptorIndex := 56, attributes := #[] }, { accessFlags := 0, nameIndex := 33, descriptorIndex := 34, attributes := #[] }] 48 2 #[] #[{ accessFlags := 26, nameIndex := 30, descriptorIndex := 12, attributes := #[] }, { accessFlags := 24, nameIndex := 11, descriptorIndex := 12, attributes := #[] }, { accessFlags := 18, nameIndex := 24, descriptorIndex := 12, attributes := #[] }, { accessFlags := 18, nameIndex := 27, descriptorIndex := 12, attributes := #[] }])
  fields := #[{ name := "NANOS_PER_SECOND", type := .long, accessFlags := 26, slot := 0, constantValue := 0 }, { name := "MAX_RATE", type := .long, accessFlags := 24, slot := 1, constantValue := 0 }, { name := "perSecond", type := .long, accessFlags := 18, slot := 0, constantValue := 0 }, { name := "startNanos", type := .long, accessFlags := 18, slot := 1, constantValue := 0 }]
  methods := #[k2m0, k2m1]
  instanceTypes := #[.long, .long]
  staticTypes := #[.long, .long]
  resolved := Array.replicate 79 none
  statics := some 0 }

def pool3 : Array CpInfo := pool [(1, u "java/lang/Cloneable"), (0, .class_ 1), (0, u "java/lang/Object"), (0, .class_ 3)] 3

/-- java/lang/Cloneable -/
def k3 : Class := { plain "java/lang/Cloneable" (some 0) with
  accessFlags := 1537
  interfaces := #[]
  cf := some (fileOf pool3 2 #[] #[] 1537 4 #[] #[])
  fields := #[]
  methods := #[]
  instanceTypes := #[]
  staticTypes := #[]
  resolved := Array.replicate 8 none
  statics := none }

def pool4 : Array CpInfo := pool [(1, u "java/io/Serializable"), (0, .class_ 1), (0, u "java/lang/Object"), (0, .class_ 3)] 3

/-- java/io/Serializable -/
def k4 : Class := { plain "java/io/Serializable" (some 0) with
  accessFlags := 1537
  interfaces := #[]
  cf := some (fileOf pool4 2 #[] #[] 1537 4 #[] #[])
  fields := #[]
  methods := #[]
  instanceTypes := #[]
  staticTypes := #[]
  resolved := Array.replicate 8 none
  statics := none }

/-- the primitive byte -/
def k5 : Class := { plain "byte" none with kind := .primitive 'B', accessFlags := 0x411 }
/-- [B -/
def k6 : Class := { plain "[B" (some 0) with kind := .array 5 .byte, interfaces := #[3, 4], accessFlags := 1041 }

/-- the primitive int -/
def k7 : Class := { plain "int" none with kind := .primitive 'I', accessFlags := 0x411 }
/-- [I -/
def k8 : Class := { plain "[I" (some 0) with kind := .array 7 .int, interfaces := #[3, 4], accessFlags := 1041 }

def heap : Heap := #[{ cls := 2, slots := #[.long 1000000000, .long 1000000000], vm := .statics 2 }]
def classes : Array Class := #[k0, k1, k2, k3, k4, k5, k6, k7, k8]
def interned : List (Array UInt16 × Addr) := []
def slotsUsed : Nat := 2
def theMethod : MethodId := ⟨1, 1⟩
def args0 : Array Value := #[.long 5, .long 6, .long 7, .long 8]
def aboutOver (below : List Frame) : State where
  vm := { classes := classes, interned := interned.toArray }
  heap := heap
  slotsUsed := slotsUsed
  threads := #[{ frames := .invoking theMethod args0 :: below }]
def below0 : List Frame := [.native { method := ⟨0, 0⟩, args := #[] }]
def about1 : State := aboutOver below0
def p0 : Program := .bare "" "" ""
def e0 : Env := launch0.env 0 0 0
theorem w_frames : about1.frames = Frame.invoking theMethod args0 :: below0 := rfl
set_option maxRecDepth 65536 in
theorem w_args : argsFit about1.vm theMethod args0 = true := by decide +kernel
set_option maxRecDepth 65536 in
theorem w_heap : heapFits about1 = true := by decide +kernel
set_option maxRecDepth 65536 in
theorem w_runnable : about1.curStatus? = some .runnable := by decide +kernel
set_option maxRecDepth 65536 in
theorem w_alone : about1.alone = true := by decide +kernel
set_option maxRecDepth 65536 in
theorem w_named : about1.methodNamed? x = some theMethod := by decide +kernel
set_option maxRecDepth 65536 in
theorem w_hears : about1.hears theMethod below0 = true := by decide +kernel
set_option maxRecDepth 65536 in
theorem w_ripe : about1.ripe theMethod args0 below0 = true := by decide +kernel
theorem w_running : about1.status = .running := rfl
set_option maxRecDepth 65536 in
theorem w_room : about1.hasRoom e0.platform room_1 = true :=
  launch0.hasRoom_least _ room_1 (by decide +kernel) (by decide +kernel) (by decide +kernel) (by decide +kernel) (by decide +kernel) (by decide +kernel)
theorem allAtoms_all (ts : List Jvm.Cond) (a : Array Jvm.Value) (st : Jvm.State) : (allAtoms ts).before a st = ts.all (fun c => c.before a st) := by
  induction ts with
  | nil => rfl
  | cons c t ih =>
    show (Jvm.Cond.and c (allAtoms t)).before a st = _
    rw [Jvm.Cond.before_and, ih, List.all_cons]
def words1 : List Jvm.Cond := Jvm.Cond.code x code maxLocals ret :: tables_1
/-- a 'code' word, met by the world's own term for the bytes: nothing is compared byte by byte -/
theorem code_word {y : MethodName} {bytes : ByteArray} {mx : Nat} {rt : Option FieldType} {a : Array Value} {s : State} {m : MethodId} {meth : Method} {c : Code} (h1 : s.methodNamed? y = some m) (h2 : s.vm.method? m = some meth) (h3 : meth.code = some c) (h4 : c.code = bytes)
    (h5 : (c.maxLocals == mx && c.exceptionTable.isEmpty && decide (c.maxStack ≤ mostOperands) && decide (meth.sig.returnType = rt) && !meth.locks && decide (parseMethodDescriptor y.desc = some meth.sig)) = true) : (Jvm.Cond.code y bytes mx rt).before a s = true := by
  simp only [Bool.and_eq_true, beq_iff_eq, Bool.not_eq_true', decide_eq_true_eq] at h5
  obtain ⟨⟨⟨⟨⟨g1, g2⟩, g3⟩, g4⟩, g5⟩, g6⟩ := h5
  simp [Cond.before, Cond.holds, Cond.value, h1, h2, h3, h4, g1, g2, g3, g4, g5, g6]
def isCode : Jvm.Cond → Bool
  | .code _ _ _ _ => true
  | _ => false
theorem all_split {L : List Jvm.Cond} {P : Jvm.Cond → Bool} (h1 : L.all (fun c => isCode c || P c) = true) (h2 : ∀ c ∈ L.filter isCode, P c = true) : L.all P = true := by
  refine List.all_eq_true.mpr fun c hc => ?_
  have h := List.all_eq_true.mp h1 c hc
  rcases Bool.eq_false_or_eq_true (isCode c) with hi | hi
  · exact h2 c (List.mem_filter.mpr ⟨hc, hi⟩)
  · simpa [hi] using h
set_option maxRecDepth 65536 in
theorem w_c0 : (Jvm.Cond.code x code maxLocals ret).before args0 about1 = true := code_word (m := ⟨1, 1⟩) (meth := k1m1) (c := k1c1) (by decide +kernel) rfl rfl rfl (by decide +kernel)
set_option maxRecDepth 65536 in
theorem w_c1 : (Jvm.Cond.code ({ cls := "com/example/broker/broker/cli/Pace", name := "<init>", desc := "(JJ)V" } : Jvm.MethodName) prog_2_method_1_code (5 : Nat) (Option.none : Option Jvm.ClassFile.FieldType)).before args0 about1 = true := code_word (m := ⟨2, 0⟩) (meth := k2m0) (c := k2c0) (by decide +kernel) rfl rfl rfl (by decide +kernel)
set_option maxRecDepth 65536 in
theorem w_c2 : (Jvm.Cond.code ({ cls := "java/lang/Object", name := "<init>", desc := "()V" } : Jvm.MethodName) object_method_1_code (1 : Nat) (Option.none : Option Jvm.ClassFile.FieldType)).before args0 about1 = true := code_word (m := ⟨0, 0⟩) (meth := k0m0) (c := k0c0) (by decide +kernel) rfl rfl rfl (by decide +kernel)
set_option maxRecDepth 65536 in
theorem w_c3 : (Jvm.Cond.code ({ cls := "com/example/broker/broker/cli/Pace", name := "due", desc := "(J)J" } : Jvm.MethodName) prog_2_method_2_code (7 : Nat) (Option.some Jvm.ClassFile.FieldType.long)).before args0 about1 = true := code_word (m := ⟨2, 1⟩) (meth := k2m1) (c := k2c1) (by decide +kernel) rfl rfl rfl (by decide +kernel)
def codes1 : List Jvm.Cond := [Jvm.Cond.code x code maxLocals ret, Jvm.Cond.code ({ cls := "com/example/broker/broker/cli/Pace", name := "<init>", desc := "(JJ)V" } : Jvm.MethodName) prog_2_method_1_code (5 : Nat) (Option.none : Option Jvm.ClassFile.FieldType), Jvm.Cond.code ({ cls := "java/lang/Object", name := "<init>", desc := "()V" } : Jvm.MethodName) object_method_1_code (1 : Nat) (Option.none : Option Jvm.ClassFile.FieldType), Jvm.Cond.code ({ cls := "com/example/broker/broker/cli/Pace", name := "due", desc := "(J)J" } : Jvm.MethodName) prog_2_method_2_code (7 : Nat) (Option.some Jvm.ClassFile.FieldType.long)]
set_option maxRecDepth 65536 in
theorem codes_eq : words1.filter isCode = codes1 := rfl
theorem w_codes : ∀ c ∈ words1.filter isCode, c.before args0 about1 = true := by
  rw [codes_eq]
  intro c hc
  simp only [codes1, List.mem_cons, List.not_mem_nil, or_false] at hc
  rcases hc with rfl | rfl | rfl | rfl
  · exact w_c0
  · exact w_c1
  · exact w_c2
  · exact w_c3
set_option maxRecDepth 65536 in
theorem w_t1 : (words1.take 24).all (fun c => isCode c || c.before args0 about1) = true := by decide +kernel
set_option maxRecDepth 65536 in
theorem w_t2 : (words1.drop 24).all (fun c => isCode c || c.before args0 about1) = true := by decide +kernel
theorem w_tables : (allAtoms (Jvm.Cond.code x code maxLocals ret :: tables_1)).before args0 about1 = true := by
  rw [allAtoms_all]
  show words1.all (fun c => c.before args0 about1) = true
  refine all_split ?_ w_codes
  rw [← List.take_append_drop 24 words1, List.all_append, w_t1, w_t2]
  rfl
set_option maxRecDepth 65536 in
theorem w_case : (Jvm.Cond.and given_1 narrow_1).before args0 about1 = true := by decide +kernel
theorem w_applies : (headSpec (Jvm.Cond.code x code maxLocals ret :: tables_1) room_1).applies x e0.platform about1 = true :=
  (Spec.applies_iff w_frames).mpr ⟨w_running, w_runnable, w_alone, w_named, w_hears, w_ripe, w_room, w_tables⟩
theorem atStart : AtStart classFile x code maxLocals ret World_1 tables_1 room_1 Calls_1 rest_1 Pre_1 launch0 p0 e0 about1 theMethod args0 below0 :=
  ⟨lists_1, trivial, launch0.admits_env _ _ _, launch0.least_env, fairChoices_fair.cas, fairChoices_fair.clock, w_frames, w_args, w_heap, w_applies, trivial, trivial, w_case⟩
end start1
theorem witness_1 : WitnessClaimed_1 := ⟨start1.p0, start1.e0, start1.about1, start1.theMethod, start1.args0, start1.below0, start1.atStart⟩
end Jvm.Pilot.@@N@@
