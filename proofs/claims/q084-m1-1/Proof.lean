import JvmDerived
import JvmDerived.Pilot.@@N@@Statement
import JvmDerived.Pilot.@@N@@Code
set_option linter.unusedVariables false
set_option linter.unusedSimpArgs false
namespace Jvm.RoadKit
open Sem ClassFile Op Lib Jvm.Stand Jvm.Free Jvm.LawKit
section New
variable {p : Program} {l : Launch} {e : Env} {R : Room} {s : State} {m : MethodId} {args : Array Value} {below : List Frame} {meth : Method} {c : Code} {T : State} {locs : List Loc} {cells slots : Nat}
theorem retI (X : Stand p l e R s m args below meth c T locs cells slots) (hx : p.tables.exec = Jvm.exec) {pc : Nat} {Ls : Array Slot} {z : Int32} {rest : List Value} (hret : meth.sig.returnType = some .int) (hd : decode c.code pc = .ok (.ireturn, 1)) {fs : List Frame}
    (hl : ∀ (f : JFrame) (acts : List Action), f.method = m → f.locked = none → f.entered = [] → (doReturn e (T.setTop f) acts (some (.int z))).1 = T.setFrames fs) : Steps p.tables e below (T.setTop (mkF m pc Ls (.int z :: rest))) (T.setFrames fs) := by
  have hm' : T.vm.method? m = some meth := X.method'
  have hn : narrow .int (.int z) = .int z := rfl
  show Steps p.tables e below (T.setTop { method := m, pc := pc, locals := Ls, stack := _ :: rest, locked := none }) _
  jvm_step X.here [X.here.top, hx, hd, hm', hret, hn]
  first | (intro acts; rw [hl _ acts rfl rfl rfl]) | rw [hl _ _ rfl rfl rfl]
  exact Steps.refl _
end New
end Jvm.RoadKit
namespace Jvm.Pilot.@@N@@
open Jvm Jvm.ClassFile Sem Op Lib Jvm.Free Jvm.Stand Jvm.LawKit Jvm.RoadKit Bundle Jvm.Pilot.@@N@@.Jvm.D
abbrev own_S (p : Program) (e : Env) (b : List Frame) (T : State) (m : MethodId) (pc : Nat) (L : Array Slot) (S : List Value) (t : State) : Prop := Steps p.tables e b (T.setTop (mkF m pc L S)) t
def own_alnum (n : Int) : Prop := (97 ≤ n ∧ n ≤ 122) ∨ (65 ≤ n ∧ n ≤ 90) ∨ (48 ≤ n ∧ n ≤ 57) ∨ n = 36 ∨ n = 95
def own_is (b : Int32) (P : Prop) : Prop := (b = 1 ∧ P) ∨ (b = 0 ∧ ¬ P)
theorem own_fold (v : Int32) (h0 : 0 ≤ v.toInt) (h1 : v.toInt < 128) : (97 ≤ (v ||| (32 : Int32)).toInt ∧ (v ||| (32 : Int32)).toInt ≤ 122) ↔ ((97 ≤ v.toInt ∧ v.toInt ≤ 122) ∨ (65 ≤ v.toInt ∧ v.toInt ≤ 90)) := by
  have H : ∀ k : Fin 128, (97 ≤ (Int32.ofInt (k.val : Int) ||| (32 : Int32)).toInt ∧ (Int32.ofInt (k.val : Int) ||| (32 : Int32)).toInt ≤ 122) ↔ ((97 ≤ (Int32.ofInt (k.val : Int)).toInt ∧ (Int32.ofInt (k.val : Int)).toInt ≤ 122) ∨ (65 ≤ (Int32.ofInt (k.val : Int)).toInt ∧ (Int32.ofInt (k.val : Int)).toInt ≤ 90)) := by decide +kernel
  have e : Int32.ofInt ((⟨v.toInt.toNat, by omega⟩ : Fin 128).val : Int) = v := by
    show Int32.ofInt ((v.toInt.toNat : Nat) : Int) = v
    rw [Int.toNat_of_nonneg h0]; exact Int32.ofInt_toInt v
  have := H ⟨v.toInt.toNat, by omega⟩
  rw [e] at this; exact this
theorem own_l (n : Int) (x y : Int32) (h : x < y) : x.toInt < y.toInt := Int32.lt_iff_toInt_lt.mp h
theorem own_nl (x y : Int32) (h : ¬ x < y) : ¬ x.toInt < y.toInt := fun q => h (Int32.lt_iff_toInt_lt.mpr q)
theorem own_lit97 : (97 : Int32).toInt = 97 := by decide
theorem own_lit122 : (122 : Int32).toInt = 122 := by decide
theorem own_lit65 : (65 : Int32).toInt = 65 := by decide
theorem own_lit90 : (90 : Int32).toInt = 90 := by decide
theorem own_lit48 : (48 : Int32).toInt = 48 := by decide
theorem own_lit57 : (57 : Int32).toInt = 57 := by decide
theorem own_lit36 : (36 : Int32).toInt = 36 := by decide
theorem own_lit95 : (95 : Int32).toInt = 95 := by decide
theorem own_lit128 : (128 : Int32).toInt = 128 := by decide
theorem own_lit0 : (0 : Int32).toInt = 0 := by decide
theorem own_lit1 : (1 : Int32).toInt = 1 := by decide
theorem own_eqi (x y : Int32) : x = y ↔ x.toInt = y.toInt := Int32.toInt_inj.symm
theorem pn_0 : plainName "com/example/garter/garter/schema/Identifier" = true := by first | (simp [plainName, overriddenIn]; done) | decide +kernel
theorem ef_1 (m : MethodId) (p1 : Int32) : entryFrame m #[(.int p1)] 3 = mkF m 0 #[iv p1, .unset, .unset] [] := by first | (simp [entryFrame, mkF, argsToLocals, Value.category]; done) | rfl
def Q1 (Z : State) (p1 : Int32) (h0 : Heap) (n0 : Nat) (v : Option Value) (h : Heap) (L : List Loc) : Prop := ∃ b : Int32, v = some (.int b) ∧ Fr n0 L ∧ h = h0 ∧ own_is b (own_alnum p1.toInt ∨ 128 ≤ p1.toInt)
theorem d1_0 : decode prog_112_method_6_code 0 = .ok (.iload_n 0, 1) := by decide +kernel
theorem d1_1 : decode prog_112_method_6_code 1 = .ok (.bipush 97, 2) := by decide +kernel
theorem d1_3 : decode prog_112_method_6_code 3 = .ok (.if_icmp .lt 9, 3) := by decide +kernel
theorem d1_12 : decode prog_112_method_6_code 12 = .ok (.iload_n 0, 1) := by decide +kernel
theorem d1_13 : decode prog_112_method_6_code 13 = .ok (.bipush 65, 2) := by decide +kernel
theorem d1_15 : decode prog_112_method_6_code 15 = .ok (.if_icmp .lt 9, 3) := by decide +kernel
theorem d1_24 : decode prog_112_method_6_code 24 = .ok (.iload_n 0, 1) := by decide +kernel
theorem d1_25 : decode prog_112_method_6_code 25 = .ok (.bipush 48, 2) := by decide +kernel
theorem d1_27 : decode prog_112_method_6_code 27 = .ok (.if_icmp .lt 9, 3) := by decide +kernel
theorem d1_36 : decode prog_112_method_6_code 36 = .ok (.iload_n 0, 1) := by decide +kernel
theorem d1_37 : decode prog_112_method_6_code 37 = .ok (.bipush 36, 2) := by decide +kernel
theorem d1_39 : decode prog_112_method_6_code 39 = .ok (.if_icmp .eq 9, 3) := by decide +kernel
theorem d1_48 : decode prog_112_method_6_code 48 = .ok (.iconst 1, 1) := by decide +kernel
theorem d1_49 : decode prog_112_method_6_code 49 = .ok (.goto 4, 3) := by decide +kernel
theorem d1_42 : decode prog_112_method_6_code 42 = .ok (.iload_n 0, 1) := by decide +kernel
theorem d1_43 : decode prog_112_method_6_code 43 = .ok (.bipush 95, 2) := by decide +kernel
theorem d1_45 : decode prog_112_method_6_code 45 = .ok (.if_icmp .ne 7, 3) := by decide +kernel
theorem d1_52 : decode prog_112_method_6_code 52 = .ok (.iconst 0, 1) := by decide +kernel
theorem d1_30 : decode prog_112_method_6_code 30 = .ok (.iload_n 0, 1) := by decide +kernel
theorem d1_31 : decode prog_112_method_6_code 31 = .ok (.bipush 57, 2) := by decide +kernel
theorem d1_33 : decode prog_112_method_6_code 33 = .ok (.if_icmp .le 15, 3) := by decide +kernel
theorem d1_18 : decode prog_112_method_6_code 18 = .ok (.iload_n 0, 1) := by decide +kernel
theorem d1_19 : decode prog_112_method_6_code 19 = .ok (.bipush 90, 2) := by decide +kernel
theorem d1_21 : decode prog_112_method_6_code 21 = .ok (.if_icmp .le 27, 3) := by decide +kernel
theorem d1_6 : decode prog_112_method_6_code 6 = .ok (.iload_n 0, 1) := by decide +kernel
theorem d1_7 : decode prog_112_method_6_code 7 = .ok (.bipush 122, 2) := by decide +kernel
theorem d1_9 : decode prog_112_method_6_code 9 = .ok (.if_icmp .le 39, 3) := by decide +kernel
theorem d1_53 : decode prog_112_method_6_code 53 = .ok (.istore_n 1, 1) := by decide +kernel
theorem d1_54 : decode prog_112_method_6_code 54 = .ok (.iload_n 0, 1) := by decide +kernel
theorem d1_55 : decode prog_112_method_6_code 55 = .ok (.sipush 128, 3) := by decide +kernel
theorem d1_58 : decode prog_112_method_6_code 58 = .ok (.if_icmp .lt 7, 3) := by decide +kernel
theorem d1_65 : decode prog_112_method_6_code 65 = .ok (.iconst 0, 1) := by decide +kernel
theorem d1_61 : decode prog_112_method_6_code 61 = .ok (.iconst 1, 1) := by decide +kernel
theorem d1_62 : decode prog_112_method_6_code 62 = .ok (.goto 4, 3) := by decide +kernel
theorem d1_66 : decode prog_112_method_6_code 66 = .ok (.istore_n 2, 1) := by decide +kernel
theorem d1_67 : decode prog_112_method_6_code 67 = .ok (.iload_n 1, 1) := by decide +kernel
theorem d1_68 : decode prog_112_method_6_code 68 = .ok (.ifCond .ne 7, 3) := by decide +kernel
theorem d1_71 : decode prog_112_method_6_code 71 = .ok (.iload_n 2, 1) := by decide +kernel
theorem d1_72 : decode prog_112_method_6_code 72 = .ok (.ifCond .eq 7, 3) := by decide +kernel
theorem d1_79 : decode prog_112_method_6_code 79 = .ok (.iconst 0, 1) := by decide +kernel
theorem d1_80 : decode prog_112_method_6_code 80 = .ok (.ireturn, 1) := by decide +kernel
theorem d1_75 : decode prog_112_method_6_code 75 = .ok (.iconst 1, 1) := by decide +kernel
theorem d1_76 : decode prog_112_method_6_code 76 = .ok (.goto 4, 3) := by decide +kernel
set_option maxRecDepth 65536 in
set_option maxHeartbeats 40000000 in
theorem rm1 (l : Launch) (Z : State) (a0 : Array Value) (hw : ∀ d ∈ tables_1, d.before a0 Z = true) (ws : List Jvm.Cond) (p1 : Int32) (h0 : Heap) (n0 : Nat) (Z0 : n0 ≤ h0.size)  :
    MetFree l (⟨"com/example/garter/garter/schema/Identifier", "isBare", "(C)Z"⟩ : MethodName) (head1 (Jvm.Cond.code (⟨"com/example/garter/garter/schema/Identifier", "isBare", "(C)Z"⟩ : MethodName) prog_112_method_6_code 3 (some .boolean) :: ws) ({ frames := 0, cells := 0, slots := 0, locals := 0 } : Room)) (fun a U => a = #[(.int p1)] ∧ Z.Warmed39 U.vm ∧ U.heap = h0) (fun _ _ _ _ _ => True) (fun _ U o U' => ∃ v L, o = .returned v ∧ Q1 Z p1 h0 n0 v U'.heap L ∧ FrameEnd U o U' L ({ frames := 0, cells := 0, slots := 0, locals := 0 } : Room).cells ({ frames := 0, cells := 0, slots := 0, locals := 0 } : Room).slots) := by
  refine MetFree.of_bodySF (plainFor_of_name pn_0) hisR ?_
  intro p e s m args below meth c s₁ Bd hml0 hP hK
  obtain ⟨rfl, hZ, hh⟩ := hP
  have hx := Bd.exec
  have hby := Bd.bytes
  have hml : c.maxLocals = 3 := hml0
  have hown : s.vm.findClass "com/example/garter/garter/schema/Identifier" = some m.cls := findClass_of_methodNamed Bd.named
  have hnm := (name_of_methodNamed Bd.named Bd.method).1
  have X0 : Stand p l e ({ frames := 0, cells := 0, slots := 0, locals := 0 } : Room) s m #[(.int p1)] below meth c s₁ [] 0 0 := Stand.of_body Bd
  have e0 : s₁.heap = h0 := by rw [← hh, Bd.state]; rfl
  have N0 := Fr.nil n0
  have pre0 : ∀ t, Steps p.tables e below (s₁.setTop (mkF m 0 #[iv p1, .unset, .unset] [])) t → Steps p.tables e below (s₁.setTop (entryFrame m #[(.int p1)] 3)) t := fun t k => castTop (ef_1 m p1) k
  obtain ⟨bA, h_bA, prej1⟩ : ∃ bA : Int32, (own_is bA (own_alnum p1.toInt)) ∧ ∀ t, own_S p e below s₁ m 53 #[iv p1, .unset, .unset] [(.int bA)] t → Steps p.tables e below (s₁.setTop (entryFrame m #[(.int p1)] 3)) t := by
    have pre3 : ∀ t, own_S p e below s₁ m 3 #[iv p1, .unset, .unset] [(.int (97 : Int32)), (.int p1)] t → Steps p.tables e below (s₁.setTop (entryFrame m #[(.int p1)] 3)) t := fun t k => pre0 t (by
      show own_S p e below s₁ m 0 #[iv p1, .unset, .unset] [] _
      refine XS.iloadN X0.here hx rfl (hb hby d1_0) rfl ?_
      show own_S p e below s₁ m 1 #[iv p1, .unset, .unset] [(.int p1)] _
      refine XS.bipush X0.here hx rfl (hb hby d1_1) ?_
      exact k)
    by_cases hc3_2 : p1 < (97 : Int32)
    ·  -- pc 3 yes
      have pre5 : ∀ t, own_S p e below s₁ m 15 #[iv p1, .unset, .unset] [(.int (65 : Int32)), (.int p1)] t → Steps p.tables e below (s₁.setTop (entryFrame m #[(.int p1)] 3)) t := fun t k => pre3 t (by
        show own_S p e below s₁ m 3 #[iv p1, .unset, .unset] [(.int (97 : Int32)), (.int p1)] _
        refine XS.icmpYes X0.here hx rfl (pc0 := 3) (pc' := 12) rfl (hb hby d1_3) rfl (tlt hc3_2).1 (by decide) (by decide) ?_
        show own_S p e below s₁ m 12 #[iv p1, .unset, .unset] [] _
        refine XS.iloadN X0.here hx rfl (hb hby d1_12) rfl ?_
        show own_S p e below s₁ m 13 #[iv p1, .unset, .unset] [(.int p1)] _
        refine XS.bipush X0.here hx rfl (hb hby d1_13) ?_
        exact k)
      by_cases hc15_4 : p1 < (65 : Int32)
      ·  -- pc 15 yes
        have pre7 : ∀ t, own_S p e below s₁ m 27 #[iv p1, .unset, .unset] [(.int (48 : Int32)), (.int p1)] t → Steps p.tables e below (s₁.setTop (entryFrame m #[(.int p1)] 3)) t := fun t k => pre5 t (by
          show own_S p e below s₁ m 15 #[iv p1, .unset, .unset] [(.int (65 : Int32)), (.int p1)] _
          refine XS.icmpYes X0.here hx rfl (pc0 := 15) (pc' := 24) rfl (hb hby d1_15) rfl (tlt hc15_4).1 (by decide) (by decide) ?_
          show own_S p e below s₁ m 24 #[iv p1, .unset, .unset] [] _
          refine XS.iloadN X0.here hx rfl (hb hby d1_24) rfl ?_
          show own_S p e below s₁ m 25 #[iv p1, .unset, .unset] [(.int p1)] _
          refine XS.bipush X0.here hx rfl (hb hby d1_25) ?_
          exact k)
        by_cases hc27_6 : p1 < (48 : Int32)
        ·  -- pc 27 yes
          have pre9 : ∀ t, own_S p e below s₁ m 39 #[iv p1, .unset, .unset] [(.int (36 : Int32)), (.int p1)] t → Steps p.tables e below (s₁.setTop (entryFrame m #[(.int p1)] 3)) t := fun t k => pre7 t (by
            show own_S p e below s₁ m 27 #[iv p1, .unset, .unset] [(.int (48 : Int32)), (.int p1)] _
            refine XS.icmpYes X0.here hx rfl (pc0 := 27) (pc' := 36) rfl (hb hby d1_27) rfl (tlt hc27_6).1 (by decide) (by decide) ?_
            show own_S p e below s₁ m 36 #[iv p1, .unset, .unset] [] _
            refine XS.iloadN X0.here hx rfl (hb hby d1_36) rfl ?_
            show own_S p e below s₁ m 37 #[iv p1, .unset, .unset] [(.int p1)] _
            refine XS.bipush X0.here hx rfl (hb hby d1_37) ?_
            exact k)
          by_cases hc39_8 : p1 = (36 : Int32)
          ·  -- pc 39 yes
            have pre10 : ∀ t, own_S p e below s₁ m 53 #[iv p1, .unset, .unset] [(.int (1 : Int32))] t → Steps p.tables e below (s₁.setTop (entryFrame m #[(.int p1)] 3)) t := fun t k => pre9 t (by
              show own_S p e below s₁ m 39 #[iv p1, .unset, .unset] [(.int (36 : Int32)), (.int p1)] _
              refine XS.icmpYes X0.here hx rfl (pc0 := 39) (pc' := 48) rfl (hb hby d1_39) rfl (teq hc39_8).1 (by decide) (by decide) ?_
              show own_S p e below s₁ m 48 #[iv p1, .unset, .unset] [] _
              refine XS.iconst X0.here hx rfl (hb hby d1_48) ?_
              show own_S p e below s₁ m 49 #[iv p1, .unset, .unset] [(.int (1 : Int32))] _
              refine XS.goto X0.here hx rfl (pc0 := 49) (pc' := 53) rfl (hb hby d1_49) (by decide) (by decide) ?_
              exact k)
            exact ⟨(1 : Int32), (by
                            (try simp only [true_and, false_and, or_false, false_or, not_true_eq_false, not_false_eq_true, Int32.lt_iff_toInt_lt, own_eqi, own_lit97, own_lit122, own_lit65, own_lit90, own_lit48, own_lit57, own_lit36, own_lit95, own_lit128, own_lit0, own_lit1] at hc3_2 hc15_4 hc27_6 hc39_8); simp only [own_is, own_alnum, true_and, false_and, or_false, false_or, not_true_eq_false, not_false_eq_true, Int32.lt_iff_toInt_lt, own_eqi, own_lit97, own_lit122, own_lit65, own_lit90, own_lit48, own_lit57, own_lit36, own_lit95, own_lit128, own_lit0, own_lit1]; omega), pre10⟩
          ·  -- pc 39 no
            have pre12 : ∀ t, own_S p e below s₁ m 45 #[iv p1, .unset, .unset] [(.int (95 : Int32)), (.int p1)] t → Steps p.tables e below (s₁.setTop (entryFrame m #[(.int p1)] 3)) t := fun t k => pre9 t (by
              show own_S p e below s₁ m 39 #[iv p1, .unset, .unset] [(.int (36 : Int32)), (.int p1)] _
              refine XS.icmpNo X0.here hx rfl (hb hby d1_39) rfl (feq hc39_8).1 ?_
              show own_S p e below s₁ m 42 #[iv p1, .unset, .unset] [] _
              refine XS.iloadN X0.here hx rfl (hb hby d1_42) rfl ?_
              show own_S p e below s₁ m 43 #[iv p1, .unset, .unset] [(.int p1)] _
              refine XS.bipush X0.here hx rfl (hb hby d1_43) ?_
              exact k)
            by_cases hc45_11 : p1 = (95 : Int32)
            ·  -- pc 45 yes
              have pre13 : ∀ t, own_S p e below s₁ m 53 #[iv p1, .unset, .unset] [(.int (1 : Int32))] t → Steps p.tables e below (s₁.setTop (entryFrame m #[(.int p1)] 3)) t := fun t k => pre12 t (by
                show own_S p e below s₁ m 45 #[iv p1, .unset, .unset] [(.int (95 : Int32)), (.int p1)] _
                refine XS.icmpNo X0.here hx rfl (hb hby d1_45) rfl (teq hc45_11).2 ?_
                show own_S p e below s₁ m 48 #[iv p1, .unset, .unset] [] _
                refine XS.iconst X0.here hx rfl (hb hby d1_48) ?_
                show own_S p e below s₁ m 49 #[iv p1, .unset, .unset] [(.int (1 : Int32))] _
                refine XS.goto X0.here hx rfl (pc0 := 49) (pc' := 53) rfl (hb hby d1_49) (by decide) (by decide) ?_
                exact k)
              exact ⟨(1 : Int32), (by
                                (try simp only [true_and, false_and, or_false, false_or, not_true_eq_false, not_false_eq_true, Int32.lt_iff_toInt_lt, own_eqi, own_lit97, own_lit122, own_lit65, own_lit90, own_lit48, own_lit57, own_lit36, own_lit95, own_lit128, own_lit0, own_lit1] at hc3_2 hc15_4 hc27_6 hc39_8 hc45_11); simp only [own_is, own_alnum, true_and, false_and, or_false, false_or, not_true_eq_false, not_false_eq_true, Int32.lt_iff_toInt_lt, own_eqi, own_lit97, own_lit122, own_lit65, own_lit90, own_lit48, own_lit57, own_lit36, own_lit95, own_lit128, own_lit0, own_lit1]; omega), pre13⟩
            ·  -- pc 45 no
              have pre14 : ∀ t, own_S p e below s₁ m 53 #[iv p1, .unset, .unset] [(.int (0 : Int32))] t → Steps p.tables e below (s₁.setTop (entryFrame m #[(.int p1)] 3)) t := fun t k => pre12 t (by
                show own_S p e below s₁ m 45 #[iv p1, .unset, .unset] [(.int (95 : Int32)), (.int p1)] _
                refine XS.icmpYes X0.here hx rfl (pc0 := 45) (pc' := 52) rfl (hb hby d1_45) rfl (feq hc45_11).2 (by decide) (by decide) ?_
                show own_S p e below s₁ m 52 #[iv p1, .unset, .unset] [] _
                refine XS.iconst X0.here hx rfl (hb hby d1_52) ?_
                exact k)
              exact ⟨(0 : Int32), (by
                                (try simp only [true_and, false_and, or_false, false_or, not_true_eq_false, not_false_eq_true, Int32.lt_iff_toInt_lt, own_eqi, own_lit97, own_lit122, own_lit65, own_lit90, own_lit48, own_lit57, own_lit36, own_lit95, own_lit128, own_lit0, own_lit1] at hc3_2 hc15_4 hc27_6 hc39_8 hc45_11); simp only [own_is, own_alnum, true_and, false_and, or_false, false_or, not_true_eq_false, not_false_eq_true, Int32.lt_iff_toInt_lt, own_eqi, own_lit97, own_lit122, own_lit65, own_lit90, own_lit48, own_lit57, own_lit36, own_lit95, own_lit128, own_lit0, own_lit1]; omega), pre14⟩
        ·  -- pc 27 no
          have pre16 : ∀ t, own_S p e below s₁ m 33 #[iv p1, .unset, .unset] [(.int (57 : Int32)), (.int p1)] t → Steps p.tables e below (s₁.setTop (entryFrame m #[(.int p1)] 3)) t := fun t k => pre7 t (by
            show own_S p e below s₁ m 27 #[iv p1, .unset, .unset] [(.int (48 : Int32)), (.int p1)] _
            refine XS.icmpNo X0.here hx rfl (hb hby d1_27) rfl (flt hc27_6).1 ?_
            show own_S p e below s₁ m 30 #[iv p1, .unset, .unset] [] _
            refine XS.iloadN X0.here hx rfl (hb hby d1_30) rfl ?_
            show own_S p e below s₁ m 31 #[iv p1, .unset, .unset] [(.int p1)] _
            refine XS.bipush X0.here hx rfl (hb hby d1_31) ?_
            exact k)
          by_cases hc33_15 : (57 : Int32) < p1
          ·  -- pc 33 yes
            have pre18 : ∀ t, own_S p e below s₁ m 39 #[iv p1, .unset, .unset] [(.int (36 : Int32)), (.int p1)] t → Steps p.tables e below (s₁.setTop (entryFrame m #[(.int p1)] 3)) t := fun t k => pre16 t (by
              show own_S p e below s₁ m 33 #[iv p1, .unset, .unset] [(.int (57 : Int32)), (.int p1)] _
              refine XS.icmpNo X0.here hx rfl (hb hby d1_33) rfl (tlt hc33_15).2.2.2 ?_
              show own_S p e below s₁ m 36 #[iv p1, .unset, .unset] [] _
              refine XS.iloadN X0.here hx rfl (hb hby d1_36) rfl ?_
              show own_S p e below s₁ m 37 #[iv p1, .unset, .unset] [(.int p1)] _
              refine XS.bipush X0.here hx rfl (hb hby d1_37) ?_
              exact k)
            by_cases hc39_17 : p1 = (36 : Int32)
            ·  -- pc 39 yes
              have pre19 : ∀ t, own_S p e below s₁ m 53 #[iv p1, .unset, .unset] [(.int (1 : Int32))] t → Steps p.tables e below (s₁.setTop (entryFrame m #[(.int p1)] 3)) t := fun t k => pre18 t (by
                show own_S p e below s₁ m 39 #[iv p1, .unset, .unset] [(.int (36 : Int32)), (.int p1)] _
                refine XS.icmpYes X0.here hx rfl (pc0 := 39) (pc' := 48) rfl (hb hby d1_39) rfl (teq hc39_17).1 (by decide) (by decide) ?_
                show own_S p e below s₁ m 48 #[iv p1, .unset, .unset] [] _
                refine XS.iconst X0.here hx rfl (hb hby d1_48) ?_
                show own_S p e below s₁ m 49 #[iv p1, .unset, .unset] [(.int (1 : Int32))] _
                refine XS.goto X0.here hx rfl (pc0 := 49) (pc' := 53) rfl (hb hby d1_49) (by decide) (by decide) ?_
                exact k)
              exact ⟨(1 : Int32), (by
                                (try simp only [true_and, false_and, or_false, false_or, not_true_eq_false, not_false_eq_true, Int32.lt_iff_toInt_lt, own_eqi, own_lit97, own_lit122, own_lit65, own_lit90, own_lit48, own_lit57, own_lit36, own_lit95, own_lit128, own_lit0, own_lit1] at hc3_2 hc15_4 hc27_6 hc33_15 hc39_17); simp only [own_is, own_alnum, true_and, false_and, or_false, false_or, not_true_eq_false, not_false_eq_true, Int32.lt_iff_toInt_lt, own_eqi, own_lit97, own_lit122, own_lit65, own_lit90, own_lit48, own_lit57, own_lit36, own_lit95, own_lit128, own_lit0, own_lit1]; omega), pre19⟩
            ·  -- pc 39 no
              have pre21 : ∀ t, own_S p e below s₁ m 45 #[iv p1, .unset, .unset] [(.int (95 : Int32)), (.int p1)] t → Steps p.tables e below (s₁.setTop (entryFrame m #[(.int p1)] 3)) t := fun t k => pre18 t (by
                show own_S p e below s₁ m 39 #[iv p1, .unset, .unset] [(.int (36 : Int32)), (.int p1)] _
                refine XS.icmpNo X0.here hx rfl (hb hby d1_39) rfl (feq hc39_17).1 ?_
                show own_S p e below s₁ m 42 #[iv p1, .unset, .unset] [] _
                refine XS.iloadN X0.here hx rfl (hb hby d1_42) rfl ?_
                show own_S p e below s₁ m 43 #[iv p1, .unset, .unset] [(.int p1)] _
                refine XS.bipush X0.here hx rfl (hb hby d1_43) ?_
                exact k)
              by_cases hc45_20 : p1 = (95 : Int32)
              ·  -- pc 45 yes
                have pre22 : ∀ t, own_S p e below s₁ m 53 #[iv p1, .unset, .unset] [(.int (1 : Int32))] t → Steps p.tables e below (s₁.setTop (entryFrame m #[(.int p1)] 3)) t := fun t k => pre21 t (by
                  show own_S p e below s₁ m 45 #[iv p1, .unset, .unset] [(.int (95 : Int32)), (.int p1)] _
                  refine XS.icmpNo X0.here hx rfl (hb hby d1_45) rfl (teq hc45_20).2 ?_
                  show own_S p e below s₁ m 48 #[iv p1, .unset, .unset] [] _
                  refine XS.iconst X0.here hx rfl (hb hby d1_48) ?_
                  show own_S p e below s₁ m 49 #[iv p1, .unset, .unset] [(.int (1 : Int32))] _
                  refine XS.goto X0.here hx rfl (pc0 := 49) (pc' := 53) rfl (hb hby d1_49) (by decide) (by decide) ?_
                  exact k)
                exact ⟨(1 : Int32), (by
                                    (try simp only [true_and, false_and, or_false, false_or, not_true_eq_false, not_false_eq_true, Int32.lt_iff_toInt_lt, own_eqi, own_lit97, own_lit122, own_lit65, own_lit90, own_lit48, own_lit57, own_lit36, own_lit95, own_lit128, own_lit0, own_lit1] at hc3_2 hc15_4 hc27_6 hc33_15 hc39_17 hc45_20); simp only [own_is, own_alnum, true_and, false_and, or_false, false_or, not_true_eq_false, not_false_eq_true, Int32.lt_iff_toInt_lt, own_eqi, own_lit97, own_lit122, own_lit65, own_lit90, own_lit48, own_lit57, own_lit36, own_lit95, own_lit128, own_lit0, own_lit1]; omega), pre22⟩
              ·  -- pc 45 no
                have pre23 : ∀ t, own_S p e below s₁ m 53 #[iv p1, .unset, .unset] [(.int (0 : Int32))] t → Steps p.tables e below (s₁.setTop (entryFrame m #[(.int p1)] 3)) t := fun t k => pre21 t (by
                  show own_S p e below s₁ m 45 #[iv p1, .unset, .unset] [(.int (95 : Int32)), (.int p1)] _
                  refine XS.icmpYes X0.here hx rfl (pc0 := 45) (pc' := 52) rfl (hb hby d1_45) rfl (feq hc45_20).2 (by decide) (by decide) ?_
                  show own_S p e below s₁ m 52 #[iv p1, .unset, .unset] [] _
                  refine XS.iconst X0.here hx rfl (hb hby d1_52) ?_
                  exact k)
                exact ⟨(0 : Int32), (by
                                    (try simp only [true_and, false_and, or_false, false_or, not_true_eq_false, not_false_eq_true, Int32.lt_iff_toInt_lt, own_eqi, own_lit97, own_lit122, own_lit65, own_lit90, own_lit48, own_lit57, own_lit36, own_lit95, own_lit128, own_lit0, own_lit1] at hc3_2 hc15_4 hc27_6 hc33_15 hc39_17 hc45_20); simp only [own_is, own_alnum, true_and, false_and, or_false, false_or, not_true_eq_false, not_false_eq_true, Int32.lt_iff_toInt_lt, own_eqi, own_lit97, own_lit122, own_lit65, own_lit90, own_lit48, own_lit57, own_lit36, own_lit95, own_lit128, own_lit0, own_lit1]; omega), pre23⟩
          ·  -- pc 33 no
            have pre24 : ∀ t, own_S p e below s₁ m 53 #[iv p1, .unset, .unset] [(.int (1 : Int32))] t → Steps p.tables e below (s₁.setTop (entryFrame m #[(.int p1)] 3)) t := fun t k => pre16 t (by
              show own_S p e below s₁ m 33 #[iv p1, .unset, .unset] [(.int (57 : Int32)), (.int p1)] _
              refine XS.icmpYes X0.here hx rfl (pc0 := 33) (pc' := 48) rfl (hb hby d1_33) rfl (flt hc33_15).2.2.2 (by decide) (by decide) ?_
              show own_S p e below s₁ m 48 #[iv p1, .unset, .unset] [] _
              refine XS.iconst X0.here hx rfl (hb hby d1_48) ?_
              show own_S p e below s₁ m 49 #[iv p1, .unset, .unset] [(.int (1 : Int32))] _
              refine XS.goto X0.here hx rfl (pc0 := 49) (pc' := 53) rfl (hb hby d1_49) (by decide) (by decide) ?_
              exact k)
            exact ⟨(1 : Int32), (by
                            (try simp only [true_and, false_and, or_false, false_or, not_true_eq_false, not_false_eq_true, Int32.lt_iff_toInt_lt, own_eqi, own_lit97, own_lit122, own_lit65, own_lit90, own_lit48, own_lit57, own_lit36, own_lit95, own_lit128, own_lit0, own_lit1] at hc3_2 hc15_4 hc27_6 hc33_15); simp only [own_is, own_alnum, true_and, false_and, or_false, false_or, not_true_eq_false, not_false_eq_true, Int32.lt_iff_toInt_lt, own_eqi, own_lit97, own_lit122, own_lit65, own_lit90, own_lit48, own_lit57, own_lit36, own_lit95, own_lit128, own_lit0, own_lit1]; omega), pre24⟩
      ·  -- pc 15 no
        have pre26 : ∀ t, own_S p e below s₁ m 21 #[iv p1, .unset, .unset] [(.int (90 : Int32)), (.int p1)] t → Steps p.tables e below (s₁.setTop (entryFrame m #[(.int p1)] 3)) t := fun t k => pre5 t (by
          show own_S p e below s₁ m 15 #[iv p1, .unset, .unset] [(.int (65 : Int32)), (.int p1)] _
          refine XS.icmpNo X0.here hx rfl (hb hby d1_15) rfl (flt hc15_4).1 ?_
          show own_S p e below s₁ m 18 #[iv p1, .unset, .unset] [] _
          refine XS.iloadN X0.here hx rfl (hb hby d1_18) rfl ?_
          show own_S p e below s₁ m 19 #[iv p1, .unset, .unset] [(.int p1)] _
          refine XS.bipush X0.here hx rfl (hb hby d1_19) ?_
          exact k)
        by_cases hc21_25 : (90 : Int32) < p1
        ·  -- pc 21 yes
          have pre28 : ∀ t, own_S p e below s₁ m 27 #[iv p1, .unset, .unset] [(.int (48 : Int32)), (.int p1)] t → Steps p.tables e below (s₁.setTop (entryFrame m #[(.int p1)] 3)) t := fun t k => pre26 t (by
            show own_S p e below s₁ m 21 #[iv p1, .unset, .unset] [(.int (90 : Int32)), (.int p1)] _
            refine XS.icmpNo X0.here hx rfl (hb hby d1_21) rfl (tlt hc21_25).2.2.2 ?_
            show own_S p e below s₁ m 24 #[iv p1, .unset, .unset] [] _
            refine XS.iloadN X0.here hx rfl (hb hby d1_24) rfl ?_
            show own_S p e below s₁ m 25 #[iv p1, .unset, .unset] [(.int p1)] _
            refine XS.bipush X0.here hx rfl (hb hby d1_25) ?_
            exact k)
          by_cases hc27_27 : p1 < (48 : Int32)
          ·  -- pc 27 yes
            have pre30 : ∀ t, own_S p e below s₁ m 39 #[iv p1, .unset, .unset] [(.int (36 : Int32)), (.int p1)] t → Steps p.tables e below (s₁.setTop (entryFrame m #[(.int p1)] 3)) t := fun t k => pre28 t (by
              show own_S p e below s₁ m 27 #[iv p1, .unset, .unset] [(.int (48 : Int32)), (.int p1)] _
              refine XS.icmpYes X0.here hx rfl (pc0 := 27) (pc' := 36) rfl (hb hby d1_27) rfl (tlt hc27_27).1 (by decide) (by decide) ?_
              show own_S p e below s₁ m 36 #[iv p1, .unset, .unset] [] _
              refine XS.iloadN X0.here hx rfl (hb hby d1_36) rfl ?_
              show own_S p e below s₁ m 37 #[iv p1, .unset, .unset] [(.int p1)] _
              refine XS.bipush X0.here hx rfl (hb hby d1_37) ?_
              exact k)
            by_cases hc39_29 : p1 = (36 : Int32)
            ·  -- pc 39 yes
              have pre31 : ∀ t, own_S p e below s₁ m 53 #[iv p1, .unset, .unset] [(.int (1 : Int32))] t → Steps p.tables e below (s₁.setTop (entryFrame m #[(.int p1)] 3)) t := fun t k => pre30 t (by
                show own_S p e below s₁ m 39 #[iv p1, .unset, .unset] [(.int (36 : Int32)), (.int p1)] _
                refine XS.icmpYes X0.here hx rfl (pc0 := 39) (pc' := 48) rfl (hb hby d1_39) rfl (teq hc39_29).1 (by decide) (by decide) ?_
                show own_S p e below s₁ m 48 #[iv p1, .unset, .unset] [] _
                refine XS.iconst X0.here hx rfl (hb hby d1_48) ?_
                show own_S p e below s₁ m 49 #[iv p1, .unset, .unset] [(.int (1 : Int32))] _
                refine XS.goto X0.here hx rfl (pc0 := 49) (pc' := 53) rfl (hb hby d1_49) (by decide) (by decide) ?_
                exact k)
              exact ⟨(1 : Int32), (by
                                (try simp only [true_and, false_and, or_false, false_or, not_true_eq_false, not_false_eq_true, Int32.lt_iff_toInt_lt, own_eqi, own_lit97, own_lit122, own_lit65, own_lit90, own_lit48, own_lit57, own_lit36, own_lit95, own_lit128, own_lit0, own_lit1] at hc3_2 hc15_4 hc21_25 hc27_27 hc39_29); simp only [own_is, own_alnum, true_and, false_and, or_false, false_or, not_true_eq_false, not_false_eq_true, Int32.lt_iff_toInt_lt, own_eqi, own_lit97, own_lit122, own_lit65, own_lit90, own_lit48, own_lit57, own_lit36, own_lit95, own_lit128, own_lit0, own_lit1]; omega), pre31⟩
            ·  -- pc 39 no
              have pre33 : ∀ t, own_S p e below s₁ m 45 #[iv p1, .unset, .unset] [(.int (95 : Int32)), (.int p1)] t → Steps p.tables e below (s₁.setTop (entryFrame m #[(.int p1)] 3)) t := fun t k => pre30 t (by
                show own_S p e below s₁ m 39 #[iv p1, .unset, .unset] [(.int (36 : Int32)), (.int p1)] _
                refine XS.icmpNo X0.here hx rfl (hb hby d1_39) rfl (feq hc39_29).1 ?_
                show own_S p e below s₁ m 42 #[iv p1, .unset, .unset] [] _
                refine XS.iloadN X0.here hx rfl (hb hby d1_42) rfl ?_
                show own_S p e below s₁ m 43 #[iv p1, .unset, .unset] [(.int p1)] _
                refine XS.bipush X0.here hx rfl (hb hby d1_43) ?_
                exact k)
              by_cases hc45_32 : p1 = (95 : Int32)
              ·  -- pc 45 yes
                have pre34 : ∀ t, own_S p e below s₁ m 53 #[iv p1, .unset, .unset] [(.int (1 : Int32))] t → Steps p.tables e below (s₁.setTop (entryFrame m #[(.int p1)] 3)) t := fun t k => pre33 t (by
                  show own_S p e below s₁ m 45 #[iv p1, .unset, .unset] [(.int (95 : Int32)), (.int p1)] _
                  refine XS.icmpNo X0.here hx rfl (hb hby d1_45) rfl (teq hc45_32).2 ?_
                  show own_S p e below s₁ m 48 #[iv p1, .unset, .unset] [] _
                  refine XS.iconst X0.here hx rfl (hb hby d1_48) ?_
                  show own_S p e below s₁ m 49 #[iv p1, .unset, .unset] [(.int (1 : Int32))] _
                  refine XS.goto X0.here hx rfl (pc0 := 49) (pc' := 53) rfl (hb hby d1_49) (by decide) (by decide) ?_
                  exact k)
                exact ⟨(1 : Int32), (by
                                    (try simp only [true_and, false_and, or_false, false_or, not_true_eq_false, not_false_eq_true, Int32.lt_iff_toInt_lt, own_eqi, own_lit97, own_lit122, own_lit65, own_lit90, own_lit48, own_lit57, own_lit36, own_lit95, own_lit128, own_lit0, own_lit1] at hc3_2 hc15_4 hc21_25 hc27_27 hc39_29 hc45_32); simp only [own_is, own_alnum, true_and, false_and, or_false, false_or, not_true_eq_false, not_false_eq_true, Int32.lt_iff_toInt_lt, own_eqi, own_lit97, own_lit122, own_lit65, own_lit90, own_lit48, own_lit57, own_lit36, own_lit95, own_lit128, own_lit0, own_lit1]; omega), pre34⟩
              ·  -- pc 45 no
                have pre35 : ∀ t, own_S p e below s₁ m 53 #[iv p1, .unset, .unset] [(.int (0 : Int32))] t → Steps p.tables e below (s₁.setTop (entryFrame m #[(.int p1)] 3)) t := fun t k => pre33 t (by
                  show own_S p e below s₁ m 45 #[iv p1, .unset, .unset] [(.int (95 : Int32)), (.int p1)] _
                  refine XS.icmpYes X0.here hx rfl (pc0 := 45) (pc' := 52) rfl (hb hby d1_45) rfl (feq hc45_32).2 (by decide) (by decide) ?_
                  show own_S p e below s₁ m 52 #[iv p1, .unset, .unset] [] _
                  refine XS.iconst X0.here hx rfl (hb hby d1_52) ?_
                  exact k)
                exact ⟨(0 : Int32), (by
                                    (try simp only [true_and, false_and, or_false, false_or, not_true_eq_false, not_false_eq_true, Int32.lt_iff_toInt_lt, own_eqi, own_lit97, own_lit122, own_lit65, own_lit90, own_lit48, own_lit57, own_lit36, own_lit95, own_lit128, own_lit0, own_lit1] at hc3_2 hc15_4 hc21_25 hc27_27 hc39_29 hc45_32); simp only [own_is, own_alnum, true_and, false_and, or_false, false_or, not_true_eq_false, not_false_eq_true, Int32.lt_iff_toInt_lt, own_eqi, own_lit97, own_lit122, own_lit65, own_lit90, own_lit48, own_lit57, own_lit36, own_lit95, own_lit128, own_lit0, own_lit1]; omega), pre35⟩
          ·  -- pc 27 no
            have pre37 : ∀ t, own_S p e below s₁ m 33 #[iv p1, .unset, .unset] [(.int (57 : Int32)), (.int p1)] t → Steps p.tables e below (s₁.setTop (entryFrame m #[(.int p1)] 3)) t := fun t k => pre28 t (by
              show own_S p e below s₁ m 27 #[iv p1, .unset, .unset] [(.int (48 : Int32)), (.int p1)] _
              refine XS.icmpNo X0.here hx rfl (hb hby d1_27) rfl (flt hc27_27).1 ?_
              show own_S p e below s₁ m 30 #[iv p1, .unset, .unset] [] _
              refine XS.iloadN X0.here hx rfl (hb hby d1_30) rfl ?_
              show own_S p e below s₁ m 31 #[iv p1, .unset, .unset] [(.int p1)] _
              refine XS.bipush X0.here hx rfl (hb hby d1_31) ?_
              exact k)
            by_cases hc33_36 : (57 : Int32) < p1
            ·  -- pc 33 yes
              have pre39 : ∀ t, own_S p e below s₁ m 39 #[iv p1, .unset, .unset] [(.int (36 : Int32)), (.int p1)] t → Steps p.tables e below (s₁.setTop (entryFrame m #[(.int p1)] 3)) t := fun t k => pre37 t (by
                show own_S p e below s₁ m 33 #[iv p1, .unset, .unset] [(.int (57 : Int32)), (.int p1)] _
                refine XS.icmpNo X0.here hx rfl (hb hby d1_33) rfl (tlt hc33_36).2.2.2 ?_
                show own_S p e below s₁ m 36 #[iv p1, .unset, .unset] [] _
                refine XS.iloadN X0.here hx rfl (hb hby d1_36) rfl ?_
                show own_S p e below s₁ m 37 #[iv p1, .unset, .unset] [(.int p1)] _
                refine XS.bipush X0.here hx rfl (hb hby d1_37) ?_
                exact k)
              by_cases hc39_38 : p1 = (36 : Int32)
              ·  -- pc 39 yes
                have pre40 : ∀ t, own_S p e below s₁ m 53 #[iv p1, .unset, .unset] [(.int (1 : Int32))] t → Steps p.tables e below (s₁.setTop (entryFrame m #[(.int p1)] 3)) t := fun t k => pre39 t (by
                  show own_S p e below s₁ m 39 #[iv p1, .unset, .unset] [(.int (36 : Int32)), (.int p1)] _
                  refine XS.icmpYes X0.here hx rfl (pc0 := 39) (pc' := 48) rfl (hb hby d1_39) rfl (teq hc39_38).1 (by decide) (by decide) ?_
                  show own_S p e below s₁ m 48 #[iv p1, .unset, .unset] [] _
                  refine XS.iconst X0.here hx rfl (hb hby d1_48) ?_
                  show own_S p e below s₁ m 49 #[iv p1, .unset, .unset] [(.int (1 : Int32))] _
                  refine XS.goto X0.here hx rfl (pc0 := 49) (pc' := 53) rfl (hb hby d1_49) (by decide) (by decide) ?_
                  exact k)
                exact ⟨(1 : Int32), (by
                                    (try simp only [true_and, false_and, or_false, false_or, not_true_eq_false, not_false_eq_true, Int32.lt_iff_toInt_lt, own_eqi, own_lit97, own_lit122, own_lit65, own_lit90, own_lit48, own_lit57, own_lit36, own_lit95, own_lit128, own_lit0, own_lit1] at hc3_2 hc15_4 hc21_25 hc27_27 hc33_36 hc39_38); simp only [own_is, own_alnum, true_and, false_and, or_false, false_or, not_true_eq_false, not_false_eq_true, Int32.lt_iff_toInt_lt, own_eqi, own_lit97, own_lit122, own_lit65, own_lit90, own_lit48, own_lit57, own_lit36, own_lit95, own_lit128, own_lit0, own_lit1]; omega), pre40⟩
              ·  -- pc 39 no
                have pre42 : ∀ t, own_S p e below s₁ m 45 #[iv p1, .unset, .unset] [(.int (95 : Int32)), (.int p1)] t → Steps p.tables e below (s₁.setTop (entryFrame m #[(.int p1)] 3)) t := fun t k => pre39 t (by
                  show own_S p e below s₁ m 39 #[iv p1, .unset, .unset] [(.int (36 : Int32)), (.int p1)] _
                  refine XS.icmpNo X0.here hx rfl (hb hby d1_39) rfl (feq hc39_38).1 ?_
                  show own_S p e below s₁ m 42 #[iv p1, .unset, .unset] [] _
                  refine XS.iloadN X0.here hx rfl (hb hby d1_42) rfl ?_
                  show own_S p e below s₁ m 43 #[iv p1, .unset, .unset] [(.int p1)] _
                  refine XS.bipush X0.here hx rfl (hb hby d1_43) ?_
                  exact k)
                by_cases hc45_41 : p1 = (95 : Int32)
                ·  -- pc 45 yes
                  have pre43 : ∀ t, own_S p e below s₁ m 53 #[iv p1, .unset, .unset] [(.int (1 : Int32))] t → Steps p.tables e below (s₁.setTop (entryFrame m #[(.int p1)] 3)) t := fun t k => pre42 t (by
                    show own_S p e below s₁ m 45 #[iv p1, .unset, .unset] [(.int (95 : Int32)), (.int p1)] _
                    refine XS.icmpNo X0.here hx rfl (hb hby d1_45) rfl (teq hc45_41).2 ?_
                    show own_S p e below s₁ m 48 #[iv p1, .unset, .unset] [] _
                    refine XS.iconst X0.here hx rfl (hb hby d1_48) ?_
                    show own_S p e below s₁ m 49 #[iv p1, .unset, .unset] [(.int (1 : Int32))] _
                    refine XS.goto X0.here hx rfl (pc0 := 49) (pc' := 53) rfl (hb hby d1_49) (by decide) (by decide) ?_
                    exact k)
                  exact ⟨(1 : Int32), (by
                                        (try simp only [true_and, false_and, or_false, false_or, not_true_eq_false, not_false_eq_true, Int32.lt_iff_toInt_lt, own_eqi, own_lit97, own_lit122, own_lit65, own_lit90, own_lit48, own_lit57, own_lit36, own_lit95, own_lit128, own_lit0, own_lit1] at hc3_2 hc15_4 hc21_25 hc27_27 hc33_36 hc39_38 hc45_41); simp only [own_is, own_alnum, true_and, false_and, or_false, false_or, not_true_eq_false, not_false_eq_true, Int32.lt_iff_toInt_lt, own_eqi, own_lit97, own_lit122, own_lit65, own_lit90, own_lit48, own_lit57, own_lit36, own_lit95, own_lit128, own_lit0, own_lit1]; omega), pre43⟩
                ·  -- pc 45 no
                  have pre44 : ∀ t, own_S p e below s₁ m 53 #[iv p1, .unset, .unset] [(.int (0 : Int32))] t → Steps p.tables e below (s₁.setTop (entryFrame m #[(.int p1)] 3)) t := fun t k => pre42 t (by
                    show own_S p e below s₁ m 45 #[iv p1, .unset, .unset] [(.int (95 : Int32)), (.int p1)] _
                    refine XS.icmpYes X0.here hx rfl (pc0 := 45) (pc' := 52) rfl (hb hby d1_45) rfl (feq hc45_41).2 (by decide) (by decide) ?_
                    show own_S p e below s₁ m 52 #[iv p1, .unset, .unset] [] _
                    refine XS.iconst X0.here hx rfl (hb hby d1_52) ?_
                    exact k)
                  exact ⟨(0 : Int32), (by
                                        (try simp only [true_and, false_and, or_false, false_or, not_true_eq_false, not_false_eq_true, Int32.lt_iff_toInt_lt, own_eqi, own_lit97, own_lit122, own_lit65, own_lit90, own_lit48, own_lit57, own_lit36, own_lit95, own_lit128, own_lit0, own_lit1] at hc3_2 hc15_4 hc21_25 hc27_27 hc33_36 hc39_38 hc45_41); simp only [own_is, own_alnum, true_and, false_and, or_false, false_or, not_true_eq_false, not_false_eq_true, Int32.lt_iff_toInt_lt, own_eqi, own_lit97, own_lit122, own_lit65, own_lit90, own_lit48, own_lit57, own_lit36, own_lit95, own_lit128, own_lit0, own_lit1]; omega), pre44⟩
            ·  -- pc 33 no
              have pre45 : ∀ t, own_S p e below s₁ m 53 #[iv p1, .unset, .unset] [(.int (1 : Int32))] t → Steps p.tables e below (s₁.setTop (entryFrame m #[(.int p1)] 3)) t := fun t k => pre37 t (by
                show own_S p e below s₁ m 33 #[iv p1, .unset, .unset] [(.int (57 : Int32)), (.int p1)] _
                refine XS.icmpYes X0.here hx rfl (pc0 := 33) (pc' := 48) rfl (hb hby d1_33) rfl (flt hc33_36).2.2.2 (by decide) (by decide) ?_
                show own_S p e below s₁ m 48 #[iv p1, .unset, .unset] [] _
                refine XS.iconst X0.here hx rfl (hb hby d1_48) ?_
                show own_S p e below s₁ m 49 #[iv p1, .unset, .unset] [(.int (1 : Int32))] _
                refine XS.goto X0.here hx rfl (pc0 := 49) (pc' := 53) rfl (hb hby d1_49) (by decide) (by decide) ?_
                exact k)
              exact ⟨(1 : Int32), (by
                                (try simp only [true_and, false_and, or_false, false_or, not_true_eq_false, not_false_eq_true, Int32.lt_iff_toInt_lt, own_eqi, own_lit97, own_lit122, own_lit65, own_lit90, own_lit48, own_lit57, own_lit36, own_lit95, own_lit128, own_lit0, own_lit1] at hc3_2 hc15_4 hc21_25 hc27_27 hc33_36); simp only [own_is, own_alnum, true_and, false_and, or_false, false_or, not_true_eq_false, not_false_eq_true, Int32.lt_iff_toInt_lt, own_eqi, own_lit97, own_lit122, own_lit65, own_lit90, own_lit48, own_lit57, own_lit36, own_lit95, own_lit128, own_lit0, own_lit1]; omega), pre45⟩
        ·  -- pc 21 no
          have pre46 : ∀ t, own_S p e below s₁ m 53 #[iv p1, .unset, .unset] [(.int (1 : Int32))] t → Steps p.tables e below (s₁.setTop (entryFrame m #[(.int p1)] 3)) t := fun t k => pre26 t (by
            show own_S p e below s₁ m 21 #[iv p1, .unset, .unset] [(.int (90 : Int32)), (.int p1)] _
            refine XS.icmpYes X0.here hx rfl (pc0 := 21) (pc' := 48) rfl (hb hby d1_21) rfl (flt hc21_25).2.2.2 (by decide) (by decide) ?_
            show own_S p e below s₁ m 48 #[iv p1, .unset, .unset] [] _
            refine XS.iconst X0.here hx rfl (hb hby d1_48) ?_
            show own_S p e below s₁ m 49 #[iv p1, .unset, .unset] [(.int (1 : Int32))] _
            refine XS.goto X0.here hx rfl (pc0 := 49) (pc' := 53) rfl (hb hby d1_49) (by decide) (by decide) ?_
            exact k)
          exact ⟨(1 : Int32), (by
                        (try simp only [true_and, false_and, or_false, false_or, not_true_eq_false, not_false_eq_true, Int32.lt_iff_toInt_lt, own_eqi, own_lit97, own_lit122, own_lit65, own_lit90, own_lit48, own_lit57, own_lit36, own_lit95, own_lit128, own_lit0, own_lit1] at hc3_2 hc15_4 hc21_25); simp only [own_is, own_alnum, true_and, false_and, or_false, false_or, not_true_eq_false, not_false_eq_true, Int32.lt_iff_toInt_lt, own_eqi, own_lit97, own_lit122, own_lit65, own_lit90, own_lit48, own_lit57, own_lit36, own_lit95, own_lit128, own_lit0, own_lit1]; omega), pre46⟩
    ·  -- pc 3 no
      have pre48 : ∀ t, own_S p e below s₁ m 9 #[iv p1, .unset, .unset] [(.int (122 : Int32)), (.int p1)] t → Steps p.tables e below (s₁.setTop (entryFrame m #[(.int p1)] 3)) t := fun t k => pre3 t (by
        show own_S p e below s₁ m 3 #[iv p1, .unset, .unset] [(.int (97 : Int32)), (.int p1)] _
        refine XS.icmpNo X0.here hx rfl (hb hby d1_3) rfl (flt hc3_2).1 ?_
        show own_S p e below s₁ m 6 #[iv p1, .unset, .unset] [] _
        refine XS.iloadN X0.here hx rfl (hb hby d1_6) rfl ?_
        show own_S p e below s₁ m 7 #[iv p1, .unset, .unset] [(.int p1)] _
        refine XS.bipush X0.here hx rfl (hb hby d1_7) ?_
        exact k)
      by_cases hc9_47 : (122 : Int32) < p1
      ·  -- pc 9 yes
        have pre50 : ∀ t, own_S p e below s₁ m 15 #[iv p1, .unset, .unset] [(.int (65 : Int32)), (.int p1)] t → Steps p.tables e below (s₁.setTop (entryFrame m #[(.int p1)] 3)) t := fun t k => pre48 t (by
          show own_S p e below s₁ m 9 #[iv p1, .unset, .unset] [(.int (122 : Int32)), (.int p1)] _
          refine XS.icmpNo X0.here hx rfl (hb hby d1_9) rfl (tlt hc9_47).2.2.2 ?_
          show own_S p e below s₁ m 12 #[iv p1, .unset, .unset] [] _
          refine XS.iloadN X0.here hx rfl (hb hby d1_12) rfl ?_
          show own_S p e below s₁ m 13 #[iv p1, .unset, .unset] [(.int p1)] _
          refine XS.bipush X0.here hx rfl (hb hby d1_13) ?_
          exact k)
        by_cases hc15_49 : p1 < (65 : Int32)
        ·  -- pc 15 yes
          have pre52 : ∀ t, own_S p e below s₁ m 27 #[iv p1, .unset, .unset] [(.int (48 : Int32)), (.int p1)] t → Steps p.tables e below (s₁.setTop (entryFrame m #[(.int p1)] 3)) t := fun t k => pre50 t (by
            show own_S p e below s₁ m 15 #[iv p1, .unset, .unset] [(.int (65 : Int32)), (.int p1)] _
            refine XS.icmpYes X0.here hx rfl (pc0 := 15) (pc' := 24) rfl (hb hby d1_15) rfl (tlt hc15_49).1 (by decide) (by decide) ?_
            show own_S p e below s₁ m 24 #[iv p1, .unset, .unset] [] _
            refine XS.iloadN X0.here hx rfl (hb hby d1_24) rfl ?_
            show own_S p e below s₁ m 25 #[iv p1, .unset, .unset] [(.int p1)] _
            refine XS.bipush X0.here hx rfl (hb hby d1_25) ?_
            exact k)
          by_cases hc27_51 : p1 < (48 : Int32)
          ·  -- pc 27 yes
            have pre54 : ∀ t, own_S p e below s₁ m 39 #[iv p1, .unset, .unset] [(.int (36 : Int32)), (.int p1)] t → Steps p.tables e below (s₁.setTop (entryFrame m #[(.int p1)] 3)) t := fun t k => pre52 t (by
              show own_S p e below s₁ m 27 #[iv p1, .unset, .unset] [(.int (48 : Int32)), (.int p1)] _
              refine XS.icmpYes X0.here hx rfl (pc0 := 27) (pc' := 36) rfl (hb hby d1_27) rfl (tlt hc27_51).1 (by decide) (by decide) ?_
              show own_S p e below s₁ m 36 #[iv p1, .unset, .unset] [] _
              refine XS.iloadN X0.here hx rfl (hb hby d1_36) rfl ?_
              show own_S p e below s₁ m 37 #[iv p1, .unset, .unset] [(.int p1)] _
              refine XS.bipush X0.here hx rfl (hb hby d1_37) ?_
              exact k)
            by_cases hc39_53 : p1 = (36 : Int32)
            ·  -- pc 39 yes
              have pre55 : ∀ t, own_S p e below s₁ m 53 #[iv p1, .unset, .unset] [(.int (1 : Int32))] t → Steps p.tables e below (s₁.setTop (entryFrame m #[(.int p1)] 3)) t := fun t k => pre54 t (by
                show own_S p e below s₁ m 39 #[iv p1, .unset, .unset] [(.int (36 : Int32)), (.int p1)] _
                refine XS.icmpYes X0.here hx rfl (pc0 := 39) (pc' := 48) rfl (hb hby d1_39) rfl (teq hc39_53).1 (by decide) (by decide) ?_
                show own_S p e below s₁ m 48 #[iv p1, .unset, .unset] [] _
                refine XS.iconst X0.here hx rfl (hb hby d1_48) ?_
                show own_S p e below s₁ m 49 #[iv p1, .unset, .unset] [(.int (1 : Int32))] _
                refine XS.goto X0.here hx rfl (pc0 := 49) (pc' := 53) rfl (hb hby d1_49) (by decide) (by decide) ?_
                exact k)
              exact ⟨(1 : Int32), (by
                                (try simp only [true_and, false_and, or_false, false_or, not_true_eq_false, not_false_eq_true, Int32.lt_iff_toInt_lt, own_eqi, own_lit97, own_lit122, own_lit65, own_lit90, own_lit48, own_lit57, own_lit36, own_lit95, own_lit128, own_lit0, own_lit1] at hc3_2 hc9_47 hc15_49 hc27_51 hc39_53); simp only [own_is, own_alnum, true_and, false_and, or_false, false_or, not_true_eq_false, not_false_eq_true, Int32.lt_iff_toInt_lt, own_eqi, own_lit97, own_lit122, own_lit65, own_lit90, own_lit48, own_lit57, own_lit36, own_lit95, own_lit128, own_lit0, own_lit1]; omega), pre55⟩
            ·  -- pc 39 no
              have pre57 : ∀ t, own_S p e below s₁ m 45 #[iv p1, .unset, .unset] [(.int (95 : Int32)), (.int p1)] t → Steps p.tables e below (s₁.setTop (entryFrame m #[(.int p1)] 3)) t := fun t k => pre54 t (by
                show own_S p e below s₁ m 39 #[iv p1, .unset, .unset] [(.int (36 : Int32)), (.int p1)] _
                refine XS.icmpNo X0.here hx rfl (hb hby d1_39) rfl (feq hc39_53).1 ?_
                show own_S p e below s₁ m 42 #[iv p1, .unset, .unset] [] _
                refine XS.iloadN X0.here hx rfl (hb hby d1_42) rfl ?_
                show own_S p e below s₁ m 43 #[iv p1, .unset, .unset] [(.int p1)] _
                refine XS.bipush X0.here hx rfl (hb hby d1_43) ?_
                exact k)
              by_cases hc45_56 : p1 = (95 : Int32)
              ·  -- pc 45 yes
                have pre58 : ∀ t, own_S p e below s₁ m 53 #[iv p1, .unset, .unset] [(.int (1 : Int32))] t → Steps p.tables e below (s₁.setTop (entryFrame m #[(.int p1)] 3)) t := fun t k => pre57 t (by
                  show own_S p e below s₁ m 45 #[iv p1, .unset, .unset] [(.int (95 : Int32)), (.int p1)] _
                  refine XS.icmpNo X0.here hx rfl (hb hby d1_45) rfl (teq hc45_56).2 ?_
                  show own_S p e below s₁ m 48 #[iv p1, .unset, .unset] [] _
                  refine XS.iconst X0.here hx rfl (hb hby d1_48) ?_
                  show own_S p e below s₁ m 49 #[iv p1, .unset, .unset] [(.int (1 : Int32))] _
                  refine XS.goto X0.here hx rfl (pc0 := 49) (pc' := 53) rfl (hb hby d1_49) (by decide) (by decide) ?_
                  exact k)
                exact ⟨(1 : Int32), (by
                                    (try simp only [true_and, false_and, or_false, false_or, not_true_eq_false, not_false_eq_true, Int32.lt_iff_toInt_lt, own_eqi, own_lit97, own_lit122, own_lit65, own_lit90, own_lit48, own_lit57, own_lit36, own_lit95, own_lit128, own_lit0, own_lit1] at hc3_2 hc9_47 hc15_49 hc27_51 hc39_53 hc45_56); simp only [own_is, own_alnum, true_and, false_and, or_false, false_or, not_true_eq_false, not_false_eq_true, Int32.lt_iff_toInt_lt, own_eqi, own_lit97, own_lit122, own_lit65, own_lit90, own_lit48, own_lit57, own_lit36, own_lit95, own_lit128, own_lit0, own_lit1]; omega), pre58⟩
              ·  -- pc 45 no
                have pre59 : ∀ t, own_S p e below s₁ m 53 #[iv p1, .unset, .unset] [(.int (0 : Int32))] t → Steps p.tables e below (s₁.setTop (entryFrame m #[(.int p1)] 3)) t := fun t k => pre57 t (by
                  show own_S p e below s₁ m 45 #[iv p1, .unset, .unset] [(.int (95 : Int32)), (.int p1)] _
                  refine XS.icmpYes X0.here hx rfl (pc0 := 45) (pc' := 52) rfl (hb hby d1_45) rfl (feq hc45_56).2 (by decide) (by decide) ?_
                  show own_S p e below s₁ m 52 #[iv p1, .unset, .unset] [] _
                  refine XS.iconst X0.here hx rfl (hb hby d1_52) ?_
                  exact k)
                exact ⟨(0 : Int32), (by
                                    (try simp only [true_and, false_and, or_false, false_or, not_true_eq_false, not_false_eq_true, Int32.lt_iff_toInt_lt, own_eqi, own_lit97, own_lit122, own_lit65, own_lit90, own_lit48, own_lit57, own_lit36, own_lit95, own_lit128, own_lit0, own_lit1] at hc3_2 hc9_47 hc15_49 hc27_51 hc39_53 hc45_56); simp only [own_is, own_alnum, true_and, false_and, or_false, false_or, not_true_eq_false, not_false_eq_true, Int32.lt_iff_toInt_lt, own_eqi, own_lit97, own_lit122, own_lit65, own_lit90, own_lit48, own_lit57, own_lit36, own_lit95, own_lit128, own_lit0, own_lit1]; omega), pre59⟩
          ·  -- pc 27 no
            have pre61 : ∀ t, own_S p e below s₁ m 33 #[iv p1, .unset, .unset] [(.int (57 : Int32)), (.int p1)] t → Steps p.tables e below (s₁.setTop (entryFrame m #[(.int p1)] 3)) t := fun t k => pre52 t (by
              show own_S p e below s₁ m 27 #[iv p1, .unset, .unset] [(.int (48 : Int32)), (.int p1)] _
              refine XS.icmpNo X0.here hx rfl (hb hby d1_27) rfl (flt hc27_51).1 ?_
              show own_S p e below s₁ m 30 #[iv p1, .unset, .unset] [] _
              refine XS.iloadN X0.here hx rfl (hb hby d1_30) rfl ?_
              show own_S p e below s₁ m 31 #[iv p1, .unset, .unset] [(.int p1)] _
              refine XS.bipush X0.here hx rfl (hb hby d1_31) ?_
              exact k)
            by_cases hc33_60 : (57 : Int32) < p1
            ·  -- pc 33 yes
              have pre63 : ∀ t, own_S p e below s₁ m 39 #[iv p1, .unset, .unset] [(.int (36 : Int32)), (.int p1)] t → Steps p.tables e below (s₁.setTop (entryFrame m #[(.int p1)] 3)) t := fun t k => pre61 t (by
                show own_S p e below s₁ m 33 #[iv p1, .unset, .unset] [(.int (57 : Int32)), (.int p1)] _
                refine XS.icmpNo X0.here hx rfl (hb hby d1_33) rfl (tlt hc33_60).2.2.2 ?_
                show own_S p e below s₁ m 36 #[iv p1, .unset, .unset] [] _
                refine XS.iloadN X0.here hx rfl (hb hby d1_36) rfl ?_
                show own_S p e below s₁ m 37 #[iv p1, .unset, .unset] [(.int p1)] _
                refine XS.bipush X0.here hx rfl (hb hby d1_37) ?_
                exact k)
              by_cases hc39_62 : p1 = (36 : Int32)
              ·  -- pc 39 yes
                have pre64 : ∀ t, own_S p e below s₁ m 53 #[iv p1, .unset, .unset] [(.int (1 : Int32))] t → Steps p.tables e below (s₁.setTop (entryFrame m #[(.int p1)] 3)) t := fun t k => pre63 t (by
                  show own_S p e below s₁ m 39 #[iv p1, .unset, .unset] [(.int (36 : Int32)), (.int p1)] _
                  refine XS.icmpYes X0.here hx rfl (pc0 := 39) (pc' := 48) rfl (hb hby d1_39) rfl (teq hc39_62).1 (by decide) (by decide) ?_
                  show own_S p e below s₁ m 48 #[iv p1, .unset, .unset] [] _
                  refine XS.iconst X0.here hx rfl (hb hby d1_48) ?_
                  show own_S p e below s₁ m 49 #[iv p1, .unset, .unset] [(.int (1 : Int32))] _
                  refine XS.goto X0.here hx rfl (pc0 := 49) (pc' := 53) rfl (hb hby d1_49) (by decide) (by decide) ?_
                  exact k)
                exact ⟨(1 : Int32), (by
                                    (try simp only [true_and, false_and, or_false, false_or, not_true_eq_false, not_false_eq_true, Int32.lt_iff_toInt_lt, own_eqi, own_lit97, own_lit122, own_lit65, own_lit90, own_lit48, own_lit57, own_lit36, own_lit95, own_lit128, own_lit0, own_lit1] at hc3_2 hc9_47 hc15_49 hc27_51 hc33_60 hc39_62); simp only [own_is, own_alnum, true_and, false_and, or_false, false_or, not_true_eq_false, not_false_eq_true, Int32.lt_iff_toInt_lt, own_eqi, own_lit97, own_lit122, own_lit65, own_lit90, own_lit48, own_lit57, own_lit36, own_lit95, own_lit128, own_lit0, own_lit1]; omega), pre64⟩
              ·  -- pc 39 no
                have pre66 : ∀ t, own_S p e below s₁ m 45 #[iv p1, .unset, .unset] [(.int (95 : Int32)), (.int p1)] t → Steps p.tables e below (s₁.setTop (entryFrame m #[(.int p1)] 3)) t := fun t k => pre63 t (by
                  show own_S p e below s₁ m 39 #[iv p1, .unset, .unset] [(.int (36 : Int32)), (.int p1)] _
                  refine XS.icmpNo X0.here hx rfl (hb hby d1_39) rfl (feq hc39_62).1 ?_
                  show own_S p e below s₁ m 42 #[iv p1, .unset, .unset] [] _
                  refine XS.iloadN X0.here hx rfl (hb hby d1_42) rfl ?_
                  show own_S p e below s₁ m 43 #[iv p1, .unset, .unset] [(.int p1)] _
                  refine XS.bipush X0.here hx rfl (hb hby d1_43) ?_
                  exact k)
                by_cases hc45_65 : p1 = (95 : Int32)
                ·  -- pc 45 yes
                  have pre67 : ∀ t, own_S p e below s₁ m 53 #[iv p1, .unset, .unset] [(.int (1 : Int32))] t → Steps p.tables e below (s₁.setTop (entryFrame m #[(.int p1)] 3)) t := fun t k => pre66 t (by
                    show own_S p e below s₁ m 45 #[iv p1, .unset, .unset] [(.int (95 : Int32)), (.int p1)] _
                    refine XS.icmpNo X0.here hx rfl (hb hby d1_45) rfl (teq hc45_65).2 ?_
                    show own_S p e below s₁ m 48 #[iv p1, .unset, .unset] [] _
                    refine XS.iconst X0.here hx rfl (hb hby d1_48) ?_
                    show own_S p e below s₁ m 49 #[iv p1, .unset, .unset] [(.int (1 : Int32))] _
                    refine XS.goto X0.here hx rfl (pc0 := 49) (pc' := 53) rfl (hb hby d1_49) (by decide) (by decide) ?_
                    exact k)
                  exact ⟨(1 : Int32), (by
                                        (try simp only [true_and, false_and, or_false, false_or, not_true_eq_false, not_false_eq_true, Int32.lt_iff_toInt_lt, own_eqi, own_lit97, own_lit122, own_lit65, own_lit90, own_lit48, own_lit57, own_lit36, own_lit95, own_lit128, own_lit0, own_lit1] at hc3_2 hc9_47 hc15_49 hc27_51 hc33_60 hc39_62 hc45_65); simp only [own_is, own_alnum, true_and, false_and, or_false, false_or, not_true_eq_false, not_false_eq_true, Int32.lt_iff_toInt_lt, own_eqi, own_lit97, own_lit122, own_lit65, own_lit90, own_lit48, own_lit57, own_lit36, own_lit95, own_lit128, own_lit0, own_lit1]; omega), pre67⟩
                ·  -- pc 45 no
                  have pre68 : ∀ t, own_S p e below s₁ m 53 #[iv p1, .unset, .unset] [(.int (0 : Int32))] t → Steps p.tables e below (s₁.setTop (entryFrame m #[(.int p1)] 3)) t := fun t k => pre66 t (by
                    show own_S p e below s₁ m 45 #[iv p1, .unset, .unset] [(.int (95 : Int32)), (.int p1)] _
                    refine XS.icmpYes X0.here hx rfl (pc0 := 45) (pc' := 52) rfl (hb hby d1_45) rfl (feq hc45_65).2 (by decide) (by decide) ?_
                    show own_S p e below s₁ m 52 #[iv p1, .unset, .unset] [] _
                    refine XS.iconst X0.here hx rfl (hb hby d1_52) ?_
                    exact k)
                  exact ⟨(0 : Int32), (by
                                        (try simp only [true_and, false_and, or_false, false_or, not_true_eq_false, not_false_eq_true, Int32.lt_iff_toInt_lt, own_eqi, own_lit97, own_lit122, own_lit65, own_lit90, own_lit48, own_lit57, own_lit36, own_lit95, own_lit128, own_lit0, own_lit1] at hc3_2 hc9_47 hc15_49 hc27_51 hc33_60 hc39_62 hc45_65); simp only [own_is, own_alnum, true_and, false_and, or_false, false_or, not_true_eq_false, not_false_eq_true, Int32.lt_iff_toInt_lt, own_eqi, own_lit97, own_lit122, own_lit65, own_lit90, own_lit48, own_lit57, own_lit36, own_lit95, own_lit128, own_lit0, own_lit1]; omega), pre68⟩
            ·  -- pc 33 no
              have pre69 : ∀ t, own_S p e below s₁ m 53 #[iv p1, .unset, .unset] [(.int (1 : Int32))] t → Steps p.tables e below (s₁.setTop (entryFrame m #[(.int p1)] 3)) t := fun t k => pre61 t (by
                show own_S p e below s₁ m 33 #[iv p1, .unset, .unset] [(.int (57 : Int32)), (.int p1)] _
                refine XS.icmpYes X0.here hx rfl (pc0 := 33) (pc' := 48) rfl (hb hby d1_33) rfl (flt hc33_60).2.2.2 (by decide) (by decide) ?_
                show own_S p e below s₁ m 48 #[iv p1, .unset, .unset] [] _
                refine XS.iconst X0.here hx rfl (hb hby d1_48) ?_
                show own_S p e below s₁ m 49 #[iv p1, .unset, .unset] [(.int (1 : Int32))] _
                refine XS.goto X0.here hx rfl (pc0 := 49) (pc' := 53) rfl (hb hby d1_49) (by decide) (by decide) ?_
                exact k)
              exact ⟨(1 : Int32), (by
                                (try simp only [true_and, false_and, or_false, false_or, not_true_eq_false, not_false_eq_true, Int32.lt_iff_toInt_lt, own_eqi, own_lit97, own_lit122, own_lit65, own_lit90, own_lit48, own_lit57, own_lit36, own_lit95, own_lit128, own_lit0, own_lit1] at hc3_2 hc9_47 hc15_49 hc27_51 hc33_60); simp only [own_is, own_alnum, true_and, false_and, or_false, false_or, not_true_eq_false, not_false_eq_true, Int32.lt_iff_toInt_lt, own_eqi, own_lit97, own_lit122, own_lit65, own_lit90, own_lit48, own_lit57, own_lit36, own_lit95, own_lit128, own_lit0, own_lit1]; omega), pre69⟩
        ·  -- pc 15 no
          have pre71 : ∀ t, own_S p e below s₁ m 21 #[iv p1, .unset, .unset] [(.int (90 : Int32)), (.int p1)] t → Steps p.tables e below (s₁.setTop (entryFrame m #[(.int p1)] 3)) t := fun t k => pre50 t (by
            show own_S p e below s₁ m 15 #[iv p1, .unset, .unset] [(.int (65 : Int32)), (.int p1)] _
            refine XS.icmpNo X0.here hx rfl (hb hby d1_15) rfl (flt hc15_49).1 ?_
            show own_S p e below s₁ m 18 #[iv p1, .unset, .unset] [] _
            refine XS.iloadN X0.here hx rfl (hb hby d1_18) rfl ?_
            show own_S p e below s₁ m 19 #[iv p1, .unset, .unset] [(.int p1)] _
            refine XS.bipush X0.here hx rfl (hb hby d1_19) ?_
            exact k)
          by_cases hc21_70 : (90 : Int32) < p1
          ·  -- pc 21 yes
            have pre73 : ∀ t, own_S p e below s₁ m 27 #[iv p1, .unset, .unset] [(.int (48 : Int32)), (.int p1)] t → Steps p.tables e below (s₁.setTop (entryFrame m #[(.int p1)] 3)) t := fun t k => pre71 t (by
              show own_S p e below s₁ m 21 #[iv p1, .unset, .unset] [(.int (90 : Int32)), (.int p1)] _
              refine XS.icmpNo X0.here hx rfl (hb hby d1_21) rfl (tlt hc21_70).2.2.2 ?_
              show own_S p e below s₁ m 24 #[iv p1, .unset, .unset] [] _
              refine XS.iloadN X0.here hx rfl (hb hby d1_24) rfl ?_
              show own_S p e below s₁ m 25 #[iv p1, .unset, .unset] [(.int p1)] _
              refine XS.bipush X0.here hx rfl (hb hby d1_25) ?_
              exact k)
            by_cases hc27_72 : p1 < (48 : Int32)
            ·  -- pc 27 yes
              have pre75 : ∀ t, own_S p e below s₁ m 39 #[iv p1, .unset, .unset] [(.int (36 : Int32)), (.int p1)] t → Steps p.tables e below (s₁.setTop (entryFrame m #[(.int p1)] 3)) t := fun t k => pre73 t (by
                show own_S p e below s₁ m 27 #[iv p1, .unset, .unset] [(.int (48 : Int32)), (.int p1)] _
                refine XS.icmpYes X0.here hx rfl (pc0 := 27) (pc' := 36) rfl (hb hby d1_27) rfl (tlt hc27_72).1 (by decide) (by decide) ?_
                show own_S p e below s₁ m 36 #[iv p1, .unset, .unset] [] _
                refine XS.iloadN X0.here hx rfl (hb hby d1_36) rfl ?_
                show own_S p e below s₁ m 37 #[iv p1, .unset, .unset] [(.int p1)] _
                refine XS.bipush X0.here hx rfl (hb hby d1_37) ?_
                exact k)
              by_cases hc39_74 : p1 = (36 : Int32)
              ·  -- pc 39 yes
                have pre76 : ∀ t, own_S p e below s₁ m 53 #[iv p1, .unset, .unset] [(.int (1 : Int32))] t → Steps p.tables e below (s₁.setTop (entryFrame m #[(.int p1)] 3)) t := fun t k => pre75 t (by
                  show own_S p e below s₁ m 39 #[iv p1, .unset, .unset] [(.int (36 : Int32)), (.int p1)] _
                  refine XS.icmpYes X0.here hx rfl (pc0 := 39) (pc' := 48) rfl (hb hby d1_39) rfl (teq hc39_74).1 (by decide) (by decide) ?_
                  show own_S p e below s₁ m 48 #[iv p1, .unset, .unset] [] _
                  refine XS.iconst X0.here hx rfl (hb hby d1_48) ?_
                  show own_S p e below s₁ m 49 #[iv p1, .unset, .unset] [(.int (1 : Int32))] _
                  refine XS.goto X0.here hx rfl (pc0 := 49) (pc' := 53) rfl (hb hby d1_49) (by decide) (by decide) ?_
                  exact k)
                exact ⟨(1 : Int32), (by
                                    (try simp only [true_and, false_and, or_false, false_or, not_true_eq_false, not_false_eq_true, Int32.lt_iff_toInt_lt, own_eqi, own_lit97, own_lit122, own_lit65, own_lit90, own_lit48, own_lit57, own_lit36, own_lit95, own_lit128, own_lit0, own_lit1] at hc3_2 hc9_47 hc15_49 hc21_70 hc27_72 hc39_74); simp only [own_is, own_alnum, true_and, false_and, or_false, false_or, not_true_eq_false, not_false_eq_true, Int32.lt_iff_toInt_lt, own_eqi, own_lit97, own_lit122, own_lit65, own_lit90, own_lit48, own_lit57, own_lit36, own_lit95, own_lit128, own_lit0, own_lit1]; omega), pre76⟩
              ·  -- pc 39 no
                have pre78 : ∀ t, own_S p e below s₁ m 45 #[iv p1, .unset, .unset] [(.int (95 : Int32)), (.int p1)] t → Steps p.tables e below (s₁.setTop (entryFrame m #[(.int p1)] 3)) t := fun t k => pre75 t (by
                  show own_S p e below s₁ m 39 #[iv p1, .unset, .unset] [(.int (36 : Int32)), (.int p1)] _
                  refine XS.icmpNo X0.here hx rfl (hb hby d1_39) rfl (feq hc39_74).1 ?_
                  show own_S p e below s₁ m 42 #[iv p1, .unset, .unset] [] _
                  refine XS.iloadN X0.here hx rfl (hb hby d1_42) rfl ?_
                  show own_S p e below s₁ m 43 #[iv p1, .unset, .unset] [(.int p1)] _
                  refine XS.bipush X0.here hx rfl (hb hby d1_43) ?_
                  exact k)
                by_cases hc45_77 : p1 = (95 : Int32)
                ·  -- pc 45 yes
                  have pre79 : ∀ t, own_S p e below s₁ m 53 #[iv p1, .unset, .unset] [(.int (1 : Int32))] t → Steps p.tables e below (s₁.setTop (entryFrame m #[(.int p1)] 3)) t := fun t k => pre78 t (by
                    show own_S p e below s₁ m 45 #[iv p1, .unset, .unset] [(.int (95 : Int32)), (.int p1)] _
                    refine XS.icmpNo X0.here hx rfl (hb hby d1_45) rfl (teq hc45_77).2 ?_
                    show own_S p e below s₁ m 48 #[iv p1, .unset, .unset] [] _
                    refine XS.iconst X0.here hx rfl (hb hby d1_48) ?_
                    show own_S p e below s₁ m 49 #[iv p1, .unset, .unset] [(.int (1 : Int32))] _
                    refine XS.goto X0.here hx rfl (pc0 := 49) (pc' := 53) rfl (hb hby d1_49) (by decide) (by decide) ?_
                    exact k)
                  exact ⟨(1 : Int32), (by
                                        (try simp only [true_and, false_and, or_false, false_or, not_true_eq_false, not_false_eq_true, Int32.lt_iff_toInt_lt, own_eqi, own_lit97, own_lit122, own_lit65, own_lit90, own_lit48, own_lit57, own_lit36, own_lit95, own_lit128, own_lit0, own_lit1] at hc3_2 hc9_47 hc15_49 hc21_70 hc27_72 hc39_74 hc45_77); simp only [own_is, own_alnum, true_and, false_and, or_false, false_or, not_true_eq_false, not_false_eq_true, Int32.lt_iff_toInt_lt, own_eqi, own_lit97, own_lit122, own_lit65, own_lit90, own_lit48, own_lit57, own_lit36, own_lit95, own_lit128, own_lit0, own_lit1]; omega), pre79⟩
                ·  -- pc 45 no
                  have pre80 : ∀ t, own_S p e below s₁ m 53 #[iv p1, .unset, .unset] [(.int (0 : Int32))] t → Steps p.tables e below (s₁.setTop (entryFrame m #[(.int p1)] 3)) t := fun t k => pre78 t (by
                    show own_S p e below s₁ m 45 #[iv p1, .unset, .unset] [(.int (95 : Int32)), (.int p1)] _
                    refine XS.icmpYes X0.here hx rfl (pc0 := 45) (pc' := 52) rfl (hb hby d1_45) rfl (feq hc45_77).2 (by decide) (by decide) ?_
                    show own_S p e below s₁ m 52 #[iv p1, .unset, .unset] [] _
                    refine XS.iconst X0.here hx rfl (hb hby d1_52) ?_
                    exact k)
                  exact ⟨(0 : Int32), (by
                                        (try simp only [true_and, false_and, or_false, false_or, not_true_eq_false, not_false_eq_true, Int32.lt_iff_toInt_lt, own_eqi, own_lit97, own_lit122, own_lit65, own_lit90, own_lit48, own_lit57, own_lit36, own_lit95, own_lit128, own_lit0, own_lit1] at hc3_2 hc9_47 hc15_49 hc21_70 hc27_72 hc39_74 hc45_77); simp only [own_is, own_alnum, true_and, false_and, or_false, false_or, not_true_eq_false, not_false_eq_true, Int32.lt_iff_toInt_lt, own_eqi, own_lit97, own_lit122, own_lit65, own_lit90, own_lit48, own_lit57, own_lit36, own_lit95, own_lit128, own_lit0, own_lit1]; omega), pre80⟩
            ·  -- pc 27 no
              have pre82 : ∀ t, own_S p e below s₁ m 33 #[iv p1, .unset, .unset] [(.int (57 : Int32)), (.int p1)] t → Steps p.tables e below (s₁.setTop (entryFrame m #[(.int p1)] 3)) t := fun t k => pre73 t (by
                show own_S p e below s₁ m 27 #[iv p1, .unset, .unset] [(.int (48 : Int32)), (.int p1)] _
                refine XS.icmpNo X0.here hx rfl (hb hby d1_27) rfl (flt hc27_72).1 ?_
                show own_S p e below s₁ m 30 #[iv p1, .unset, .unset] [] _
                refine XS.iloadN X0.here hx rfl (hb hby d1_30) rfl ?_
                show own_S p e below s₁ m 31 #[iv p1, .unset, .unset] [(.int p1)] _
                refine XS.bipush X0.here hx rfl (hb hby d1_31) ?_
                exact k)
              by_cases hc33_81 : (57 : Int32) < p1
              ·  -- pc 33 yes
                have pre84 : ∀ t, own_S p e below s₁ m 39 #[iv p1, .unset, .unset] [(.int (36 : Int32)), (.int p1)] t → Steps p.tables e below (s₁.setTop (entryFrame m #[(.int p1)] 3)) t := fun t k => pre82 t (by
                  show own_S p e below s₁ m 33 #[iv p1, .unset, .unset] [(.int (57 : Int32)), (.int p1)] _
                  refine XS.icmpNo X0.here hx rfl (hb hby d1_33) rfl (tlt hc33_81).2.2.2 ?_
                  show own_S p e below s₁ m 36 #[iv p1, .unset, .unset] [] _
                  refine XS.iloadN X0.here hx rfl (hb hby d1_36) rfl ?_
                  show own_S p e below s₁ m 37 #[iv p1, .unset, .unset] [(.int p1)] _
                  refine XS.bipush X0.here hx rfl (hb hby d1_37) ?_
                  exact k)
                by_cases hc39_83 : p1 = (36 : Int32)
                ·  -- pc 39 yes
                  have pre85 : ∀ t, own_S p e below s₁ m 53 #[iv p1, .unset, .unset] [(.int (1 : Int32))] t → Steps p.tables e below (s₁.setTop (entryFrame m #[(.int p1)] 3)) t := fun t k => pre84 t (by
                    show own_S p e below s₁ m 39 #[iv p1, .unset, .unset] [(.int (36 : Int32)), (.int p1)] _
                    refine XS.icmpYes X0.here hx rfl (pc0 := 39) (pc' := 48) rfl (hb hby d1_39) rfl (teq hc39_83).1 (by decide) (by decide) ?_
                    show own_S p e below s₁ m 48 #[iv p1, .unset, .unset] [] _
                    refine XS.iconst X0.here hx rfl (hb hby d1_48) ?_
                    show own_S p e below s₁ m 49 #[iv p1, .unset, .unset] [(.int (1 : Int32))] _
                    refine XS.goto X0.here hx rfl (pc0 := 49) (pc' := 53) rfl (hb hby d1_49) (by decide) (by decide) ?_
                    exact k)
                  exact ⟨(1 : Int32), (by
                                        (try simp only [true_and, false_and, or_false, false_or, not_true_eq_false, not_false_eq_true, Int32.lt_iff_toInt_lt, own_eqi, own_lit97, own_lit122, own_lit65, own_lit90, own_lit48, own_lit57, own_lit36, own_lit95, own_lit128, own_lit0, own_lit1] at hc3_2 hc9_47 hc15_49 hc21_70 hc27_72 hc33_81 hc39_83); simp only [own_is, own_alnum, true_and, false_and, or_false, false_or, not_true_eq_false, not_false_eq_true, Int32.lt_iff_toInt_lt, own_eqi, own_lit97, own_lit122, own_lit65, own_lit90, own_lit48, own_lit57, own_lit36, own_lit95, own_lit128, own_lit0, own_lit1]; omega), pre85⟩
                ·  -- pc 39 no
                  have pre87 : ∀ t, own_S p e below s₁ m 45 #[iv p1, .unset, .unset] [(.int (95 : Int32)), (.int p1)] t → Steps p.tables e below (s₁.setTop (entryFrame m #[(.int p1)] 3)) t := fun t k => pre84 t (by
                    show own_S p e below s₁ m 39 #[iv p1, .unset, .unset] [(.int (36 : Int32)), (.int p1)] _
                    refine XS.icmpNo X0.here hx rfl (hb hby d1_39) rfl (feq hc39_83).1 ?_
                    show own_S p e below s₁ m 42 #[iv p1, .unset, .unset] [] _
                    refine XS.iloadN X0.here hx rfl (hb hby d1_42) rfl ?_
                    show own_S p e below s₁ m 43 #[iv p1, .unset, .unset] [(.int p1)] _
                    refine XS.bipush X0.here hx rfl (hb hby d1_43) ?_
                    exact k)
                  by_cases hc45_86 : p1 = (95 : Int32)
                  ·  -- pc 45 yes
                    have pre88 : ∀ t, own_S p e below s₁ m 53 #[iv p1, .unset, .unset] [(.int (1 : Int32))] t → Steps p.tables e below (s₁.setTop (entryFrame m #[(.int p1)] 3)) t := fun t k => pre87 t (by
                      show own_S p e below s₁ m 45 #[iv p1, .unset, .unset] [(.int (95 : Int32)), (.int p1)] _
                      refine XS.icmpNo X0.here hx rfl (hb hby d1_45) rfl (teq hc45_86).2 ?_
                      show own_S p e below s₁ m 48 #[iv p1, .unset, .unset] [] _
                      refine XS.iconst X0.here hx rfl (hb hby d1_48) ?_
                      show own_S p e below s₁ m 49 #[iv p1, .unset, .unset] [(.int (1 : Int32))] _
                      refine XS.goto X0.here hx rfl (pc0 := 49) (pc' := 53) rfl (hb hby d1_49) (by decide) (by decide) ?_
                      exact k)
                    exact ⟨(1 : Int32), (by
                                            (try simp only [true_and, false_and, or_false, false_or, not_true_eq_false, not_false_eq_true, Int32.lt_iff_toInt_lt, own_eqi, own_lit97, own_lit122, own_lit65, own_lit90, own_lit48, own_lit57, own_lit36, own_lit95, own_lit128, own_lit0, own_lit1] at hc3_2 hc9_47 hc15_49 hc21_70 hc27_72 hc33_81 hc39_83 hc45_86); simp only [own_is, own_alnum, true_and, false_and, or_false, false_or, not_true_eq_false, not_false_eq_true, Int32.lt_iff_toInt_lt, own_eqi, own_lit97, own_lit122, own_lit65, own_lit90, own_lit48, own_lit57, own_lit36, own_lit95, own_lit128, own_lit0, own_lit1]; omega), pre88⟩
                  ·  -- pc 45 no
                    have pre89 : ∀ t, own_S p e below s₁ m 53 #[iv p1, .unset, .unset] [(.int (0 : Int32))] t → Steps p.tables e below (s₁.setTop (entryFrame m #[(.int p1)] 3)) t := fun t k => pre87 t (by
                      show own_S p e below s₁ m 45 #[iv p1, .unset, .unset] [(.int (95 : Int32)), (.int p1)] _
                      refine XS.icmpYes X0.here hx rfl (pc0 := 45) (pc' := 52) rfl (hb hby d1_45) rfl (feq hc45_86).2 (by decide) (by decide) ?_
                      show own_S p e below s₁ m 52 #[iv p1, .unset, .unset] [] _
                      refine XS.iconst X0.here hx rfl (hb hby d1_52) ?_
                      exact k)
                    exact ⟨(0 : Int32), (by
                                            (try simp only [true_and, false_and, or_false, false_or, not_true_eq_false, not_false_eq_true, Int32.lt_iff_toInt_lt, own_eqi, own_lit97, own_lit122, own_lit65, own_lit90, own_lit48, own_lit57, own_lit36, own_lit95, own_lit128, own_lit0, own_lit1] at hc3_2 hc9_47 hc15_49 hc21_70 hc27_72 hc33_81 hc39_83 hc45_86); simp only [own_is, own_alnum, true_and, false_and, or_false, false_or, not_true_eq_false, not_false_eq_true, Int32.lt_iff_toInt_lt, own_eqi, own_lit97, own_lit122, own_lit65, own_lit90, own_lit48, own_lit57, own_lit36, own_lit95, own_lit128, own_lit0, own_lit1]; omega), pre89⟩
              ·  -- pc 33 no
                have pre90 : ∀ t, own_S p e below s₁ m 53 #[iv p1, .unset, .unset] [(.int (1 : Int32))] t → Steps p.tables e below (s₁.setTop (entryFrame m #[(.int p1)] 3)) t := fun t k => pre82 t (by
                  show own_S p e below s₁ m 33 #[iv p1, .unset, .unset] [(.int (57 : Int32)), (.int p1)] _
                  refine XS.icmpYes X0.here hx rfl (pc0 := 33) (pc' := 48) rfl (hb hby d1_33) rfl (flt hc33_81).2.2.2 (by decide) (by decide) ?_
                  show own_S p e below s₁ m 48 #[iv p1, .unset, .unset] [] _
                  refine XS.iconst X0.here hx rfl (hb hby d1_48) ?_
                  show own_S p e below s₁ m 49 #[iv p1, .unset, .unset] [(.int (1 : Int32))] _
                  refine XS.goto X0.here hx rfl (pc0 := 49) (pc' := 53) rfl (hb hby d1_49) (by decide) (by decide) ?_
                  exact k)
                exact ⟨(1 : Int32), (by
                                    (try simp only [true_and, false_and, or_false, false_or, not_true_eq_false, not_false_eq_true, Int32.lt_iff_toInt_lt, own_eqi, own_lit97, own_lit122, own_lit65, own_lit90, own_lit48, own_lit57, own_lit36, own_lit95, own_lit128, own_lit0, own_lit1] at hc3_2 hc9_47 hc15_49 hc21_70 hc27_72 hc33_81); simp only [own_is, own_alnum, true_and, false_and, or_false, false_or, not_true_eq_false, not_false_eq_true, Int32.lt_iff_toInt_lt, own_eqi, own_lit97, own_lit122, own_lit65, own_lit90, own_lit48, own_lit57, own_lit36, own_lit95, own_lit128, own_lit0, own_lit1]; omega), pre90⟩
          ·  -- pc 21 no
            have pre91 : ∀ t, own_S p e below s₁ m 53 #[iv p1, .unset, .unset] [(.int (1 : Int32))] t → Steps p.tables e below (s₁.setTop (entryFrame m #[(.int p1)] 3)) t := fun t k => pre71 t (by
              show own_S p e below s₁ m 21 #[iv p1, .unset, .unset] [(.int (90 : Int32)), (.int p1)] _
              refine XS.icmpYes X0.here hx rfl (pc0 := 21) (pc' := 48) rfl (hb hby d1_21) rfl (flt hc21_70).2.2.2 (by decide) (by decide) ?_
              show own_S p e below s₁ m 48 #[iv p1, .unset, .unset] [] _
              refine XS.iconst X0.here hx rfl (hb hby d1_48) ?_
              show own_S p e below s₁ m 49 #[iv p1, .unset, .unset] [(.int (1 : Int32))] _
              refine XS.goto X0.here hx rfl (pc0 := 49) (pc' := 53) rfl (hb hby d1_49) (by decide) (by decide) ?_
              exact k)
            exact ⟨(1 : Int32), (by
                            (try simp only [true_and, false_and, or_false, false_or, not_true_eq_false, not_false_eq_true, Int32.lt_iff_toInt_lt, own_eqi, own_lit97, own_lit122, own_lit65, own_lit90, own_lit48, own_lit57, own_lit36, own_lit95, own_lit128, own_lit0, own_lit1] at hc3_2 hc9_47 hc15_49 hc21_70); simp only [own_is, own_alnum, true_and, false_and, or_false, false_or, not_true_eq_false, not_false_eq_true, Int32.lt_iff_toInt_lt, own_eqi, own_lit97, own_lit122, own_lit65, own_lit90, own_lit48, own_lit57, own_lit36, own_lit95, own_lit128, own_lit0, own_lit1]; omega), pre91⟩
      ·  -- pc 9 no
        have pre92 : ∀ t, own_S p e below s₁ m 53 #[iv p1, .unset, .unset] [(.int (1 : Int32))] t → Steps p.tables e below (s₁.setTop (entryFrame m #[(.int p1)] 3)) t := fun t k => pre48 t (by
          show own_S p e below s₁ m 9 #[iv p1, .unset, .unset] [(.int (122 : Int32)), (.int p1)] _
          refine XS.icmpYes X0.here hx rfl (pc0 := 9) (pc' := 48) rfl (hb hby d1_9) rfl (flt hc9_47).2.2.2 (by decide) (by decide) ?_
          show own_S p e below s₁ m 48 #[iv p1, .unset, .unset] [] _
          refine XS.iconst X0.here hx rfl (hb hby d1_48) ?_
          show own_S p e below s₁ m 49 #[iv p1, .unset, .unset] [(.int (1 : Int32))] _
          refine XS.goto X0.here hx rfl (pc0 := 49) (pc' := 53) rfl (hb hby d1_49) (by decide) (by decide) ?_
          exact k)
        exact ⟨(1 : Int32), (by
                    (try simp only [true_and, false_and, or_false, false_or, not_true_eq_false, not_false_eq_true, Int32.lt_iff_toInt_lt, own_eqi, own_lit97, own_lit122, own_lit65, own_lit90, own_lit48, own_lit57, own_lit36, own_lit95, own_lit128, own_lit0, own_lit1] at hc3_2 hc9_47); simp only [own_is, own_alnum, true_and, false_and, or_false, false_or, not_true_eq_false, not_false_eq_true, Int32.lt_iff_toInt_lt, own_eqi, own_lit97, own_lit122, own_lit65, own_lit90, own_lit48, own_lit57, own_lit36, own_lit95, own_lit128, own_lit0, own_lit1]; omega), pre92⟩
  obtain ⟨bB, h_bB, prej93⟩ : ∃ bB : Int32, (own_is bB (128 ≤ p1.toInt)) ∧ ∀ t, own_S p e below s₁ m 66 #[iv p1, iv bA, .unset] [(.int bB)] t → Steps p.tables e below (s₁.setTop (entryFrame m #[(.int p1)] 3)) t := by
    have pre95 : ∀ t, own_S p e below s₁ m 58 #[iv p1, iv bA, .unset] [(.int (128 : Int32)), (.int p1)] t → Steps p.tables e below (s₁.setTop (entryFrame m #[(.int p1)] 3)) t := fun t k => prej1 t (by
      show own_S p e below s₁ m 53 #[iv p1, .unset, .unset] [(.int bA)] _
      refine XS.istoreN X0.here hx rfl (hb hby d1_53) rfl (l' := #[iv p1, iv bA, .unset]) rfl ?_
      show own_S p e below s₁ m 54 #[iv p1, iv bA, .unset] [] _
      refine XS.iloadN X0.here hx rfl (hb hby d1_54) rfl ?_
      show own_S p e below s₁ m 55 #[iv p1, iv bA, .unset] [(.int p1)] _
      refine XS.sipush X0.here hx rfl (hb hby d1_55) ?_
      exact k)
    by_cases hc58_94 : p1 < (128 : Int32)
    ·  -- pc 58 yes
      have pre96 : ∀ t, own_S p e below s₁ m 66 #[iv p1, iv bA, .unset] [(.int (0 : Int32))] t → Steps p.tables e below (s₁.setTop (entryFrame m #[(.int p1)] 3)) t := fun t k => pre95 t (by
        show own_S p e below s₁ m 58 #[iv p1, iv bA, .unset] [(.int (128 : Int32)), (.int p1)] _
        refine XS.icmpYes X0.here hx rfl (pc0 := 58) (pc' := 65) rfl (hb hby d1_58) rfl (tlt hc58_94).1 (by decide) (by decide) ?_
        show own_S p e below s₁ m 65 #[iv p1, iv bA, .unset] [] _
        refine XS.iconst X0.here hx rfl (hb hby d1_65) ?_
        exact k)
      exact ⟨(0 : Int32), (by
                (try simp only [true_and, false_and, or_false, false_or, not_true_eq_false, not_false_eq_true, Int32.lt_iff_toInt_lt, own_eqi, own_lit97, own_lit122, own_lit65, own_lit90, own_lit48, own_lit57, own_lit36, own_lit95, own_lit128, own_lit0, own_lit1] at h_bA hc58_94); simp only [own_is, true_and, false_and, or_false, false_or, not_true_eq_false, not_false_eq_true, Int32.lt_iff_toInt_lt, own_eqi, own_lit97, own_lit122, own_lit65, own_lit90, own_lit48, own_lit57, own_lit36, own_lit95, own_lit128, own_lit0, own_lit1]; omega), pre96⟩
    ·  -- pc 58 no
      have pre97 : ∀ t, own_S p e below s₁ m 66 #[iv p1, iv bA, .unset] [(.int (1 : Int32))] t → Steps p.tables e below (s₁.setTop (entryFrame m #[(.int p1)] 3)) t := fun t k => pre95 t (by
        show own_S p e below s₁ m 58 #[iv p1, iv bA, .unset] [(.int (128 : Int32)), (.int p1)] _
        refine XS.icmpNo X0.here hx rfl (hb hby d1_58) rfl (flt hc58_94).1 ?_
        show own_S p e below s₁ m 61 #[iv p1, iv bA, .unset] [] _
        refine XS.iconst X0.here hx rfl (hb hby d1_61) ?_
        show own_S p e below s₁ m 62 #[iv p1, iv bA, .unset] [(.int (1 : Int32))] _
        refine XS.goto X0.here hx rfl (pc0 := 62) (pc' := 66) rfl (hb hby d1_62) (by decide) (by decide) ?_
        exact k)
      exact ⟨(1 : Int32), (by
                (try simp only [true_and, false_and, or_false, false_or, not_true_eq_false, not_false_eq_true, Int32.lt_iff_toInt_lt, own_eqi, own_lit97, own_lit122, own_lit65, own_lit90, own_lit48, own_lit57, own_lit36, own_lit95, own_lit128, own_lit0, own_lit1] at h_bA hc58_94); simp only [own_is, true_and, false_and, or_false, false_or, not_true_eq_false, not_false_eq_true, Int32.lt_iff_toInt_lt, own_eqi, own_lit97, own_lit122, own_lit65, own_lit90, own_lit48, own_lit57, own_lit36, own_lit95, own_lit128, own_lit0, own_lit1]; omega), pre97⟩
  have pre99 : ∀ t, own_S p e below s₁ m 68 #[iv p1, iv bA, iv bB] [(.int bA)] t → Steps p.tables e below (s₁.setTop (entryFrame m #[(.int p1)] 3)) t := fun t k => prej93 t (by
    show own_S p e below s₁ m 66 #[iv p1, iv bA, .unset] [(.int bB)] _
    refine XS.istoreN X0.here hx rfl (hb hby d1_66) rfl (l' := #[iv p1, iv bA, iv bB]) rfl ?_
    show own_S p e below s₁ m 67 #[iv p1, iv bA, iv bB] [] _
    refine XS.iloadN X0.here hx rfl (hb hby d1_67) rfl ?_
    exact k)
  by_cases hc68_98 : bA = (0 : Int32)
  ·  -- pc 68 yes
    have pre101 : ∀ t, own_S p e below s₁ m 72 #[iv p1, iv bA, iv bB] [(.int bB)] t → Steps p.tables e below (s₁.setTop (entryFrame m #[(.int p1)] 3)) t := fun t k => pre99 t (by
      show own_S p e below s₁ m 68 #[iv p1, iv bA, iv bB] [(.int bA)] _
      refine XS.ifNo X0.here hx rfl (hb hby d1_68) rfl ((if0 _ _).trans (teq hc68_98).2) ?_
      show own_S p e below s₁ m 71 #[iv p1, iv bA, iv bB] [] _
      refine XS.iloadN X0.here hx rfl (hb hby d1_71) rfl ?_
      exact k)
    by_cases hc72_100 : bB = (0 : Int32)
    ·  -- pc 72 yes
      have pre102 : ∀ t, own_S p e below s₁ m 80 #[iv p1, iv bA, iv bB] [(.int (0 : Int32))] t → Steps p.tables e below (s₁.setTop (entryFrame m #[(.int p1)] 3)) t := fun t k => pre101 t (by
        show own_S p e below s₁ m 72 #[iv p1, iv bA, iv bB] [(.int bB)] _
        refine XS.ifYes X0.here hx rfl (pc0 := 72) (pc' := 79) rfl (hb hby d1_72) rfl ((if0 _ _).trans (teq hc72_100).1) (by decide) (by decide) ?_
        show own_S p e below s₁ m 79 #[iv p1, iv bA, iv bB] [] _
        refine XS.iconst X0.here hx rfl (hb hby d1_79) ?_
        exact k)
      obtain ⟨fs, hr, hrun, hended, hW, hsame⟩ := X0.leave (v := some (.int (nar .boolean (0 : Int32)))) (fun h => by rw [Bd.returns] at h; cases h)
      refine ⟨_, _, pre102 _ ?_, hrun, hended, _, _, rfl, ?_, ⟨_, rfl⟩, hW, hsame.mono (by decide) (by decide)⟩
      · show own_S p e below s₁ m 80 #[iv p1, iv bA, iv bB] [(.int (0 : Int32))] _
        exact retN X0 hx (t := .boolean) Bd.returns (by simp) (hb hby d1_80) hr
      · show Q1 Z p1 h0 n0 _ s₁.heap _
        rw [e0]
        refine ⟨_, rfl, N0, rfl, ?_⟩
        simp only [own_is, own_alnum, true_and, false_and, or_false, false_or, not_true_eq_false, not_false_eq_true, Int32.lt_iff_toInt_lt, own_eqi, own_lit97, own_lit122, own_lit65, own_lit90, own_lit48, own_lit57, own_lit36, own_lit95, own_lit128, own_lit0, own_lit1] at h_bA h_bB hc68_98 hc72_100
        rw [(by decide : nar .boolean (0 : Int32) = (0 : Int32))]
        simp only [own_is, own_alnum, true_and, false_and, or_false, false_or, not_true_eq_false, not_false_eq_true, Int32.lt_iff_toInt_lt, own_eqi, own_lit97, own_lit122, own_lit65, own_lit90, own_lit48, own_lit57, own_lit36, own_lit95, own_lit128, own_lit0, own_lit1]; omega
    ·  -- pc 72 no
      have pre103 : ∀ t, own_S p e below s₁ m 80 #[iv p1, iv bA, iv bB] [(.int (1 : Int32))] t → Steps p.tables e below (s₁.setTop (entryFrame m #[(.int p1)] 3)) t := fun t k => pre101 t (by
        show own_S p e below s₁ m 72 #[iv p1, iv bA, iv bB] [(.int bB)] _
        refine XS.ifNo X0.here hx rfl (hb hby d1_72) rfl ((if0 _ _).trans (feq hc72_100).1) ?_
        show own_S p e below s₁ m 75 #[iv p1, iv bA, iv bB] [] _
        refine XS.iconst X0.here hx rfl (hb hby d1_75) ?_
        show own_S p e below s₁ m 76 #[iv p1, iv bA, iv bB] [(.int (1 : Int32))] _
        refine XS.goto X0.here hx rfl (pc0 := 76) (pc' := 80) rfl (hb hby d1_76) (by decide) (by decide) ?_
        exact k)
      obtain ⟨fs, hr, hrun, hended, hW, hsame⟩ := X0.leave (v := some (.int (nar .boolean (1 : Int32)))) (fun h => by rw [Bd.returns] at h; cases h)
      refine ⟨_, _, pre103 _ ?_, hrun, hended, _, _, rfl, ?_, ⟨_, rfl⟩, hW, hsame.mono (by decide) (by decide)⟩
      · show own_S p e below s₁ m 80 #[iv p1, iv bA, iv bB] [(.int (1 : Int32))] _
        exact retN X0 hx (t := .boolean) Bd.returns (by simp) (hb hby d1_80) hr
      · show Q1 Z p1 h0 n0 _ s₁.heap _
        rw [e0]
        refine ⟨_, rfl, N0, rfl, ?_⟩
        simp only [own_is, own_alnum, true_and, false_and, or_false, false_or, not_true_eq_false, not_false_eq_true, Int32.lt_iff_toInt_lt, own_eqi, own_lit97, own_lit122, own_lit65, own_lit90, own_lit48, own_lit57, own_lit36, own_lit95, own_lit128, own_lit0, own_lit1] at h_bA h_bB hc68_98 hc72_100
        rw [(by decide : nar .boolean (1 : Int32) = (1 : Int32))]
        simp only [own_is, own_alnum, true_and, false_and, or_false, false_or, not_true_eq_false, not_false_eq_true, Int32.lt_iff_toInt_lt, own_eqi, own_lit97, own_lit122, own_lit65, own_lit90, own_lit48, own_lit57, own_lit36, own_lit95, own_lit128, own_lit0, own_lit1]; omega
  ·  -- pc 68 no
    have pre104 : ∀ t, own_S p e below s₁ m 80 #[iv p1, iv bA, iv bB] [(.int (1 : Int32))] t → Steps p.tables e below (s₁.setTop (entryFrame m #[(.int p1)] 3)) t := fun t k => pre99 t (by
      show own_S p e below s₁ m 68 #[iv p1, iv bA, iv bB] [(.int bA)] _
      refine XS.ifYes X0.here hx rfl (pc0 := 68) (pc' := 75) rfl (hb hby d1_68) rfl ((if0 _ _).trans (feq hc68_98).2) (by decide) (by decide) ?_
      show own_S p e below s₁ m 75 #[iv p1, iv bA, iv bB] [] _
      refine XS.iconst X0.here hx rfl (hb hby d1_75) ?_
      show own_S p e below s₁ m 76 #[iv p1, iv bA, iv bB] [(.int (1 : Int32))] _
      refine XS.goto X0.here hx rfl (pc0 := 76) (pc' := 80) rfl (hb hby d1_76) (by decide) (by decide) ?_
      exact k)
    obtain ⟨fs, hr, hrun, hended, hW, hsame⟩ := X0.leave (v := some (.int (nar .boolean (1 : Int32)))) (fun h => by rw [Bd.returns] at h; cases h)
    refine ⟨_, _, pre104 _ ?_, hrun, hended, _, _, rfl, ?_, ⟨_, rfl⟩, hW, hsame.mono (by decide) (by decide)⟩
    · show own_S p e below s₁ m 80 #[iv p1, iv bA, iv bB] [(.int (1 : Int32))] _
      exact retN X0 hx (t := .boolean) Bd.returns (by simp) (hb hby d1_80) hr
    · show Q1 Z p1 h0 n0 _ s₁.heap _
      rw [e0]
      refine ⟨_, rfl, N0, rfl, ?_⟩
      simp only [own_is, own_alnum, true_and, false_and, or_false, false_or, not_true_eq_false, not_false_eq_true, Int32.lt_iff_toInt_lt, own_eqi, own_lit97, own_lit122, own_lit65, own_lit90, own_lit48, own_lit57, own_lit36, own_lit95, own_lit128, own_lit0, own_lit1] at h_bA h_bB hc68_98
      rw [(by decide : nar .boolean (1 : Int32) = (1 : Int32))]
      simp only [own_is, own_alnum, true_and, false_and, or_false, false_or, not_true_eq_false, not_false_eq_true, Int32.lt_iff_toInt_lt, own_eqi, own_lit97, own_lit122, own_lit65, own_lit90, own_lit48, own_lit57, own_lit36, own_lit95, own_lit128, own_lit0, own_lit1]; omega
theorem pn_1 : plainName "com/example/garter/garter/schema/IdentifierIsBarePinLaw" = true := by first | (simp [plainName, overriddenIn]; done) | decide +kernel
theorem ef_0 (m : MethodId) (p1 : Int32) : entryFrame m #[(.int p1)] maxLocals = mkF m 0 #[iv p1, .unset, .unset, .unset, .unset] [] := by first | (simp [entryFrame, mkF, argsToLocals, Value.category, maxLocals]; done) | rfl
def Q0 (Z : State) (p1 : Int32) (h0 : Heap) (n0 : Nat) (v : Option Value) (h : Heap) (L : List Loc) : Prop := v = some (.int 1) ∧ Fr n0 L
theorem pd_0 : parseMethodDescriptor "(C)Z" = some ⟨[.char], some .boolean⟩ := by decide +kernel
set_option maxRecDepth 65536 in
set_option maxHeartbeats 40000000 in
theorem rm0 (l : Launch) (Z : State) (a0 : Array Value) (hw : ∀ d ∈ tables_1, d.before a0 Z = true) (ws : List Jvm.Cond) (p1 : Int32) (h0 : Heap) (n0 : Nat) (Z0 : n0 ≤ h0.size)  :
    MetFree l x (head1 (Jvm.Cond.code x code maxLocals ret :: ws) room_1) (fun a U => a = #[(.int p1)] ∧ Z.Warmed39 U.vm ∧ U.heap = h0) (fun _ _ _ _ _ => True) (fun _ U o U' => ∃ v L, o = .returned v ∧ Q0 Z p1 h0 n0 v U'.heap L ∧ FrameEnd U o U' L room_1.cells room_1.slots) := by
  refine MetFree.of_bodySF (plainFor_of_name pn_1) hisR ?_
  intro p e s m args below meth c s₁ Bd hml0 hP hK
  obtain ⟨rfl, hZ, hh⟩ := hP
  have hx := Bd.exec
  have hby := Bd.bytes
  have hml : c.maxLocals = 5 := hml0
  have hown : s.vm.findClass "com/example/garter/garter/schema/IdentifierIsBarePinLaw" = some m.cls := findClass_of_methodNamed Bd.named
  have hnm := (name_of_methodNamed Bd.named Bd.method).1
  have X0 : Stand p l e room_1 s m #[(.int p1)] below meth c s₁ [] 0 0 := Stand.of_body Bd
  have e0 : s₁.heap = h0 := by rw [← hh, Bd.state]; rfl
  have N0 := Fr.nil n0
  have pre0 : ∀ t, Steps p.tables e below (s₁.setTop (mkF m 0 #[iv p1, .unset, .unset, .unset, .unset] [])) t → Steps p.tables e below (s₁.setTop (entryFrame m #[(.int p1)] maxLocals)) t := fun t k => castTop (ef_0 m p1) k
  have hrg := c_i2c p1
  have pre1 : ∀ t, own_S p e below s₁ m 10 #[iv p1, iv (p1.toUInt32.toUInt16.toUInt32.toInt32), iv (p1.toUInt32.toUInt16.toUInt32.toInt32), iv ((p1.toUInt32.toUInt16.toUInt32.toInt32) ||| (32 : Int32)), .unset] [] t → Steps p.tables e below (s₁.setTop (entryFrame m #[(.int p1)] maxLocals)) t := fun t k => pre0 t (by
    show own_S p e below s₁ m 0 #[iv p1, .unset, .unset, .unset, .unset] [] _
    refine XS.iloadN X0.here hx rfl (hb hby at_0) rfl ?_
    show own_S p e below s₁ m 1 #[iv p1, .unset, .unset, .unset, .unset] [(.int p1)] _
    refine XS.i2c X0.here hx rfl (hb hby at_1) rfl ?_
    show own_S p e below s₁ m 2 #[iv p1, .unset, .unset, .unset, .unset] [(.int (p1.toUInt32.toUInt16.toUInt32.toInt32))] _
    refine XS.istoreN X0.here hx rfl (hb hby at_2) rfl (l' := #[iv p1, iv (p1.toUInt32.toUInt16.toUInt32.toInt32), .unset, .unset, .unset]) rfl ?_
    show own_S p e below s₁ m 3 #[iv p1, iv (p1.toUInt32.toUInt16.toUInt32.toInt32), .unset, .unset, .unset] [] _
    refine XS.iloadN X0.here hx rfl (hb hby at_3) rfl ?_
    show own_S p e below s₁ m 4 #[iv p1, iv (p1.toUInt32.toUInt16.toUInt32.toInt32), .unset, .unset, .unset] [(.int (p1.toUInt32.toUInt16.toUInt32.toInt32))] _
    refine XS.istoreN X0.here hx rfl (hb hby at_4) rfl (l' := #[iv p1, iv (p1.toUInt32.toUInt16.toUInt32.toInt32), iv (p1.toUInt32.toUInt16.toUInt32.toInt32), .unset, .unset]) rfl ?_
    show own_S p e below s₁ m 5 #[iv p1, iv (p1.toUInt32.toUInt16.toUInt32.toInt32), iv (p1.toUInt32.toUInt16.toUInt32.toInt32), .unset, .unset] [] _
    refine XS.iloadN X0.here hx rfl (hb hby at_5) rfl ?_
    show own_S p e below s₁ m 6 #[iv p1, iv (p1.toUInt32.toUInt16.toUInt32.toInt32), iv (p1.toUInt32.toUInt16.toUInt32.toInt32), .unset, .unset] [(.int (p1.toUInt32.toUInt16.toUInt32.toInt32))] _
    refine XS.bipush X0.here hx rfl (hb hby at_6) ?_
    show own_S p e below s₁ m 8 #[iv p1, iv (p1.toUInt32.toUInt16.toUInt32.toInt32), iv (p1.toUInt32.toUInt16.toUInt32.toInt32), .unset, .unset] [(.int (32 : Int32)), (.int (p1.toUInt32.toUInt16.toUInt32.toInt32))] _
    refine XS.ior X0.here hx rfl (hb hby at_8) rfl ?_
    show own_S p e below s₁ m 9 #[iv p1, iv (p1.toUInt32.toUInt16.toUInt32.toInt32), iv (p1.toUInt32.toUInt16.toUInt32.toInt32), .unset, .unset] [(.int ((p1.toUInt32.toUInt16.toUInt32.toInt32) ||| (32 : Int32)))] _
    refine XS.istoreN X0.here hx rfl (hb hby at_9) rfl (l' := #[iv p1, iv (p1.toUInt32.toUInt16.toUInt32.toInt32), iv (p1.toUInt32.toUInt16.toUInt32.toInt32), iv ((p1.toUInt32.toUInt16.toUInt32.toInt32) ||| (32 : Int32)), .unset]) rfl ?_
    exact k)
  have hf := fun h1 => own_fold (p1.toUInt32.toUInt16.toUInt32.toInt32) hrg.2.1 h1
  obtain ⟨cv, ecv⟩ : ∃ z, z = (p1.toUInt32.toUInt16.toUInt32.toInt32) := ⟨_, rfl⟩
  obtain ⟨fo, efo⟩ : ∃ z, z = (cv ||| (32 : Int32)) := ⟨_, rfl⟩
  rw [← ecv] at hrg hf pre1
  rw [← efo] at hf pre1
  obtain ⟨ex, h_ex, prej2⟩ : ∃ ex : Int32, (own_is ex (own_alnum cv.toInt ∨ 128 ≤ cv.toInt)) ∧ ∀ t, own_S p e below s₁ m 78 #[iv p1, iv cv, iv cv, iv fo, iv ex] [] t → Steps p.tables e below (s₁.setTop (entryFrame m #[(.int p1)] maxLocals)) t := by
    have pre4 : ∀ t, own_S p e below s₁ m 14 #[iv p1, iv cv, iv cv, iv fo, .unset] [(.int (128 : Int32)), (.int cv)] t → Steps p.tables e below (s₁.setTop (entryFrame m #[(.int p1)] maxLocals)) t := fun t k => pre1 t (by
      show own_S p e below s₁ m 10 #[iv p1, iv cv, iv cv, iv fo, .unset] [] _
      refine XS.iloadN X0.here hx rfl (hb hby at_10) rfl ?_
      show own_S p e below s₁ m 11 #[iv p1, iv cv, iv cv, iv fo, .unset] [(.int cv)] _
      refine XS.sipush X0.here hx rfl (hb hby at_11) ?_
      exact k)
    by_cases hc14_3 : cv < (128 : Int32)
    ·  -- pc 14 yes
      have pre6 : ∀ t, own_S p e below s₁ m 26 #[iv p1, iv cv, iv cv, iv fo, .unset] [(.int (48 : Int32)), (.int cv)] t → Steps p.tables e below (s₁.setTop (entryFrame m #[(.int p1)] maxLocals)) t := fun t k => pre4 t (by
        show own_S p e below s₁ m 14 #[iv p1, iv cv, iv cv, iv fo, .unset] [(.int (128 : Int32)), (.int cv)] _
        refine XS.icmpYes X0.here hx rfl (pc0 := 14) (pc' := 23) rfl (hb hby at_14) rfl (tlt hc14_3).1 (by decide) (by decide) ?_
        show own_S p e below s₁ m 23 #[iv p1, iv cv, iv cv, iv fo, .unset] [] _
        refine XS.iloadN X0.here hx rfl (hb hby at_23) rfl ?_
        show own_S p e below s₁ m 24 #[iv p1, iv cv, iv cv, iv fo, .unset] [(.int cv)] _
        refine XS.bipush X0.here hx rfl (hb hby at_24) ?_
        exact k)
      by_cases hc26_5 : cv < (48 : Int32)
      ·  -- pc 26 yes
        have pre8 : ∀ t, own_S p e below s₁ m 44 #[iv p1, iv cv, iv cv, iv fo, .unset] [(.int (97 : Int32)), (.int fo)] t → Steps p.tables e below (s₁.setTop (entryFrame m #[(.int p1)] maxLocals)) t := fun t k => pre6 t (by
          show own_S p e below s₁ m 26 #[iv p1, iv cv, iv cv, iv fo, .unset] [(.int (48 : Int32)), (.int cv)] _
          refine XS.icmpYes X0.here hx rfl (pc0 := 26) (pc' := 41) rfl (hb hby at_26) rfl (tlt hc26_5).1 (by decide) (by decide) ?_
          show own_S p e below s₁ m 41 #[iv p1, iv cv, iv cv, iv fo, .unset] [] _
          refine XS.iloadN X0.here hx rfl (hb hby at_41) rfl ?_
          show own_S p e below s₁ m 42 #[iv p1, iv cv, iv cv, iv fo, .unset] [(.int fo)] _
          refine XS.bipush X0.here hx rfl (hb hby at_42) ?_
          exact k)
        by_cases hc44_7 : fo < (97 : Int32)
        ·  -- pc 44 yes
          have pre10 : ∀ t, own_S p e below s₁ m 62 #[iv p1, iv cv, iv cv, iv fo, .unset] [(.int (36 : Int32)), (.int cv)] t → Steps p.tables e below (s₁.setTop (entryFrame m #[(.int p1)] maxLocals)) t := fun t k => pre8 t (by
            show own_S p e below s₁ m 44 #[iv p1, iv cv, iv cv, iv fo, .unset] [(.int (97 : Int32)), (.int fo)] _
            refine XS.icmpYes X0.here hx rfl (pc0 := 44) (pc' := 59) rfl (hb hby at_44) rfl (tlt hc44_7).1 (by decide) (by decide) ?_
            show own_S p e below s₁ m 59 #[iv p1, iv cv, iv cv, iv fo, .unset] [] _
            refine XS.iloadN X0.here hx rfl (hb hby at_59) rfl ?_
            show own_S p e below s₁ m 60 #[iv p1, iv cv, iv cv, iv fo, .unset] [(.int cv)] _
            refine XS.bipush X0.here hx rfl (hb hby at_60) ?_
            exact k)
          by_cases hc62_9 : cv = (36 : Int32)
          ·  -- pc 62 yes
            have pre11 : ∀ t, own_S p e below s₁ m 78 #[iv p1, iv cv, iv cv, iv fo, iv (1 : Int32)] [] t → Steps p.tables e below (s₁.setTop (entryFrame m #[(.int p1)] maxLocals)) t := fun t k => pre10 t (by
              show own_S p e below s₁ m 62 #[iv p1, iv cv, iv cv, iv fo, .unset] [(.int (36 : Int32)), (.int cv)] _
              refine XS.icmpYes X0.here hx rfl (pc0 := 62) (pc' := 71) rfl (hb hby at_62) rfl (teq hc62_9).1 (by decide) (by decide) ?_
              show own_S p e below s₁ m 71 #[iv p1, iv cv, iv cv, iv fo, .unset] [] _
              refine XS.iconst X0.here hx rfl (hb hby at_71) ?_
              show own_S p e below s₁ m 72 #[iv p1, iv cv, iv cv, iv fo, .unset] [(.int (1 : Int32))] _
              refine XS.goto X0.here hx rfl (pc0 := 72) (pc' := 76) rfl (hb hby at_72) (by decide) (by decide) ?_
              show own_S p e below s₁ m 76 #[iv p1, iv cv, iv cv, iv fo, .unset] [(.int (1 : Int32))] _
              refine XS.istore X0.here hx rfl (hb hby at_76) rfl (l' := #[iv p1, iv cv, iv cv, iv fo, iv (1 : Int32)]) rfl ?_
              exact k)
            exact ⟨(1 : Int32), (by
                            (try simp only [true_and, false_and, or_false, false_or, not_true_eq_false, not_false_eq_true, Int32.lt_iff_toInt_lt, own_eqi, own_lit97, own_lit122, own_lit65, own_lit90, own_lit48, own_lit57, own_lit36, own_lit95, own_lit128, own_lit0, own_lit1] at hrg hf hc14_3 hc26_5 hc44_7 hc62_9); simp only [own_is, own_alnum, true_and, false_and, or_false, false_or, not_true_eq_false, not_false_eq_true, Int32.lt_iff_toInt_lt, own_eqi, own_lit97, own_lit122, own_lit65, own_lit90, own_lit48, own_lit57, own_lit36, own_lit95, own_lit128, own_lit0, own_lit1]; omega), pre11⟩
          ·  -- pc 62 no
            have pre13 : ∀ t, own_S p e below s₁ m 68 #[iv p1, iv cv, iv cv, iv fo, .unset] [(.int (95 : Int32)), (.int cv)] t → Steps p.tables e below (s₁.setTop (entryFrame m #[(.int p1)] maxLocals)) t := fun t k => pre10 t (by
              show own_S p e below s₁ m 62 #[iv p1, iv cv, iv cv, iv fo, .unset] [(.int (36 : Int32)), (.int cv)] _
              refine XS.icmpNo X0.here hx rfl (hb hby at_62) rfl (feq hc62_9).1 ?_
              show own_S p e below s₁ m 65 #[iv p1, iv cv, iv cv, iv fo, .unset] [] _
              refine XS.iloadN X0.here hx rfl (hb hby at_65) rfl ?_
              show own_S p e below s₁ m 66 #[iv p1, iv cv, iv cv, iv fo, .unset] [(.int cv)] _
              refine XS.bipush X0.here hx rfl (hb hby at_66) ?_
              exact k)
            by_cases hc68_12 : cv = (95 : Int32)
            ·  -- pc 68 yes
              have pre14 : ∀ t, own_S p e below s₁ m 78 #[iv p1, iv cv, iv cv, iv fo, iv (1 : Int32)] [] t → Steps p.tables e below (s₁.setTop (entryFrame m #[(.int p1)] maxLocals)) t := fun t k => pre13 t (by
                show own_S p e below s₁ m 68 #[iv p1, iv cv, iv cv, iv fo, .unset] [(.int (95 : Int32)), (.int cv)] _
                refine XS.icmpNo X0.here hx rfl (hb hby at_68) rfl (teq hc68_12).2 ?_
                show own_S p e below s₁ m 71 #[iv p1, iv cv, iv cv, iv fo, .unset] [] _
                refine XS.iconst X0.here hx rfl (hb hby at_71) ?_
                show own_S p e below s₁ m 72 #[iv p1, iv cv, iv cv, iv fo, .unset] [(.int (1 : Int32))] _
                refine XS.goto X0.here hx rfl (pc0 := 72) (pc' := 76) rfl (hb hby at_72) (by decide) (by decide) ?_
                show own_S p e below s₁ m 76 #[iv p1, iv cv, iv cv, iv fo, .unset] [(.int (1 : Int32))] _
                refine XS.istore X0.here hx rfl (hb hby at_76) rfl (l' := #[iv p1, iv cv, iv cv, iv fo, iv (1 : Int32)]) rfl ?_
                exact k)
              exact ⟨(1 : Int32), (by
                                (try simp only [true_and, false_and, or_false, false_or, not_true_eq_false, not_false_eq_true, Int32.lt_iff_toInt_lt, own_eqi, own_lit97, own_lit122, own_lit65, own_lit90, own_lit48, own_lit57, own_lit36, own_lit95, own_lit128, own_lit0, own_lit1] at hrg hf hc14_3 hc26_5 hc44_7 hc62_9 hc68_12); simp only [own_is, own_alnum, true_and, false_and, or_false, false_or, not_true_eq_false, not_false_eq_true, Int32.lt_iff_toInt_lt, own_eqi, own_lit97, own_lit122, own_lit65, own_lit90, own_lit48, own_lit57, own_lit36, own_lit95, own_lit128, own_lit0, own_lit1]; omega), pre14⟩
            ·  -- pc 68 no
              have pre15 : ∀ t, own_S p e below s₁ m 78 #[iv p1, iv cv, iv cv, iv fo, iv (0 : Int32)] [] t → Steps p.tables e below (s₁.setTop (entryFrame m #[(.int p1)] maxLocals)) t := fun t k => pre13 t (by
                show own_S p e below s₁ m 68 #[iv p1, iv cv, iv cv, iv fo, .unset] [(.int (95 : Int32)), (.int cv)] _
                refine XS.icmpYes X0.here hx rfl (pc0 := 68) (pc' := 75) rfl (hb hby at_68) rfl (feq hc68_12).2 (by decide) (by decide) ?_
                show own_S p e below s₁ m 75 #[iv p1, iv cv, iv cv, iv fo, .unset] [] _
                refine XS.iconst X0.here hx rfl (hb hby at_75) ?_
                show own_S p e below s₁ m 76 #[iv p1, iv cv, iv cv, iv fo, .unset] [(.int (0 : Int32))] _
                refine XS.istore X0.here hx rfl (hb hby at_76) rfl (l' := #[iv p1, iv cv, iv cv, iv fo, iv (0 : Int32)]) rfl ?_
                exact k)
              exact ⟨(0 : Int32), (by
                                (try simp only [true_and, false_and, or_false, false_or, not_true_eq_false, not_false_eq_true, Int32.lt_iff_toInt_lt, own_eqi, own_lit97, own_lit122, own_lit65, own_lit90, own_lit48, own_lit57, own_lit36, own_lit95, own_lit128, own_lit0, own_lit1] at hrg hf hc14_3 hc26_5 hc44_7 hc62_9 hc68_12); simp only [own_is, own_alnum, true_and, false_and, or_false, false_or, not_true_eq_false, not_false_eq_true, Int32.lt_iff_toInt_lt, own_eqi, own_lit97, own_lit122, own_lit65, own_lit90, own_lit48, own_lit57, own_lit36, own_lit95, own_lit128, own_lit0, own_lit1]; omega), pre15⟩
        ·  -- pc 44 no
          have pre17 : ∀ t, own_S p e below s₁ m 50 #[iv p1, iv cv, iv cv, iv fo, .unset] [(.int (122 : Int32)), (.int fo)] t → Steps p.tables e below (s₁.setTop (entryFrame m #[(.int p1)] maxLocals)) t := fun t k => pre8 t (by
            show own_S p e below s₁ m 44 #[iv p1, iv cv, iv cv, iv fo, .unset] [(.int (97 : Int32)), (.int fo)] _
            refine XS.icmpNo X0.here hx rfl (hb hby at_44) rfl (flt hc44_7).1 ?_
            show own_S p e below s₁ m 47 #[iv p1, iv cv, iv cv, iv fo, .unset] [] _
            refine XS.iloadN X0.here hx rfl (hb hby at_47) rfl ?_
            show own_S p e below s₁ m 48 #[iv p1, iv cv, iv cv, iv fo, .unset] [(.int fo)] _
            refine XS.bipush X0.here hx rfl (hb hby at_48) ?_
            exact k)
          by_cases hc50_16 : (122 : Int32) < fo
          ·  -- pc 50 yes
            have pre19 : ∀ t, own_S p e below s₁ m 62 #[iv p1, iv cv, iv cv, iv fo, .unset] [(.int (36 : Int32)), (.int cv)] t → Steps p.tables e below (s₁.setTop (entryFrame m #[(.int p1)] maxLocals)) t := fun t k => pre17 t (by
              show own_S p e below s₁ m 50 #[iv p1, iv cv, iv cv, iv fo, .unset] [(.int (122 : Int32)), (.int fo)] _
              refine XS.icmpYes X0.here hx rfl (pc0 := 50) (pc' := 59) rfl (hb hby at_50) rfl (tlt hc50_16).2.2.1 (by decide) (by decide) ?_
              show own_S p e below s₁ m 59 #[iv p1, iv cv, iv cv, iv fo, .unset] [] _
              refine XS.iloadN X0.here hx rfl (hb hby at_59) rfl ?_
              show own_S p e below s₁ m 60 #[iv p1, iv cv, iv cv, iv fo, .unset] [(.int cv)] _
              refine XS.bipush X0.here hx rfl (hb hby at_60) ?_
              exact k)
            by_cases hc62_18 : cv = (36 : Int32)
            ·  -- pc 62 yes
              have pre20 : ∀ t, own_S p e below s₁ m 78 #[iv p1, iv cv, iv cv, iv fo, iv (1 : Int32)] [] t → Steps p.tables e below (s₁.setTop (entryFrame m #[(.int p1)] maxLocals)) t := fun t k => pre19 t (by
                show own_S p e below s₁ m 62 #[iv p1, iv cv, iv cv, iv fo, .unset] [(.int (36 : Int32)), (.int cv)] _
                refine XS.icmpYes X0.here hx rfl (pc0 := 62) (pc' := 71) rfl (hb hby at_62) rfl (teq hc62_18).1 (by decide) (by decide) ?_
                show own_S p e below s₁ m 71 #[iv p1, iv cv, iv cv, iv fo, .unset] [] _
                refine XS.iconst X0.here hx rfl (hb hby at_71) ?_
                show own_S p e below s₁ m 72 #[iv p1, iv cv, iv cv, iv fo, .unset] [(.int (1 : Int32))] _
                refine XS.goto X0.here hx rfl (pc0 := 72) (pc' := 76) rfl (hb hby at_72) (by decide) (by decide) ?_
                show own_S p e below s₁ m 76 #[iv p1, iv cv, iv cv, iv fo, .unset] [(.int (1 : Int32))] _
                refine XS.istore X0.here hx rfl (hb hby at_76) rfl (l' := #[iv p1, iv cv, iv cv, iv fo, iv (1 : Int32)]) rfl ?_
                exact k)
              exact ⟨(1 : Int32), (by
                                (try simp only [true_and, false_and, or_false, false_or, not_true_eq_false, not_false_eq_true, Int32.lt_iff_toInt_lt, own_eqi, own_lit97, own_lit122, own_lit65, own_lit90, own_lit48, own_lit57, own_lit36, own_lit95, own_lit128, own_lit0, own_lit1] at hrg hf hc14_3 hc26_5 hc44_7 hc50_16 hc62_18); simp only [own_is, own_alnum, true_and, false_and, or_false, false_or, not_true_eq_false, not_false_eq_true, Int32.lt_iff_toInt_lt, own_eqi, own_lit97, own_lit122, own_lit65, own_lit90, own_lit48, own_lit57, own_lit36, own_lit95, own_lit128, own_lit0, own_lit1]; omega), pre20⟩
            ·  -- pc 62 no
              have pre22 : ∀ t, own_S p e below s₁ m 68 #[iv p1, iv cv, iv cv, iv fo, .unset] [(.int (95 : Int32)), (.int cv)] t → Steps p.tables e below (s₁.setTop (entryFrame m #[(.int p1)] maxLocals)) t := fun t k => pre19 t (by
                show own_S p e below s₁ m 62 #[iv p1, iv cv, iv cv, iv fo, .unset] [(.int (36 : Int32)), (.int cv)] _
                refine XS.icmpNo X0.here hx rfl (hb hby at_62) rfl (feq hc62_18).1 ?_
                show own_S p e below s₁ m 65 #[iv p1, iv cv, iv cv, iv fo, .unset] [] _
                refine XS.iloadN X0.here hx rfl (hb hby at_65) rfl ?_
                show own_S p e below s₁ m 66 #[iv p1, iv cv, iv cv, iv fo, .unset] [(.int cv)] _
                refine XS.bipush X0.here hx rfl (hb hby at_66) ?_
                exact k)
              by_cases hc68_21 : cv = (95 : Int32)
              ·  -- pc 68 yes
                have pre23 : ∀ t, own_S p e below s₁ m 78 #[iv p1, iv cv, iv cv, iv fo, iv (1 : Int32)] [] t → Steps p.tables e below (s₁.setTop (entryFrame m #[(.int p1)] maxLocals)) t := fun t k => pre22 t (by
                  show own_S p e below s₁ m 68 #[iv p1, iv cv, iv cv, iv fo, .unset] [(.int (95 : Int32)), (.int cv)] _
                  refine XS.icmpNo X0.here hx rfl (hb hby at_68) rfl (teq hc68_21).2 ?_
                  show own_S p e below s₁ m 71 #[iv p1, iv cv, iv cv, iv fo, .unset] [] _
                  refine XS.iconst X0.here hx rfl (hb hby at_71) ?_
                  show own_S p e below s₁ m 72 #[iv p1, iv cv, iv cv, iv fo, .unset] [(.int (1 : Int32))] _
                  refine XS.goto X0.here hx rfl (pc0 := 72) (pc' := 76) rfl (hb hby at_72) (by decide) (by decide) ?_
                  show own_S p e below s₁ m 76 #[iv p1, iv cv, iv cv, iv fo, .unset] [(.int (1 : Int32))] _
                  refine XS.istore X0.here hx rfl (hb hby at_76) rfl (l' := #[iv p1, iv cv, iv cv, iv fo, iv (1 : Int32)]) rfl ?_
                  exact k)
                exact ⟨(1 : Int32), (by
                                    (try simp only [true_and, false_and, or_false, false_or, not_true_eq_false, not_false_eq_true, Int32.lt_iff_toInt_lt, own_eqi, own_lit97, own_lit122, own_lit65, own_lit90, own_lit48, own_lit57, own_lit36, own_lit95, own_lit128, own_lit0, own_lit1] at hrg hf hc14_3 hc26_5 hc44_7 hc50_16 hc62_18 hc68_21); simp only [own_is, own_alnum, true_and, false_and, or_false, false_or, not_true_eq_false, not_false_eq_true, Int32.lt_iff_toInt_lt, own_eqi, own_lit97, own_lit122, own_lit65, own_lit90, own_lit48, own_lit57, own_lit36, own_lit95, own_lit128, own_lit0, own_lit1]; omega), pre23⟩
              ·  -- pc 68 no
                have pre24 : ∀ t, own_S p e below s₁ m 78 #[iv p1, iv cv, iv cv, iv fo, iv (0 : Int32)] [] t → Steps p.tables e below (s₁.setTop (entryFrame m #[(.int p1)] maxLocals)) t := fun t k => pre22 t (by
                  show own_S p e below s₁ m 68 #[iv p1, iv cv, iv cv, iv fo, .unset] [(.int (95 : Int32)), (.int cv)] _
                  refine XS.icmpYes X0.here hx rfl (pc0 := 68) (pc' := 75) rfl (hb hby at_68) rfl (feq hc68_21).2 (by decide) (by decide) ?_
                  show own_S p e below s₁ m 75 #[iv p1, iv cv, iv cv, iv fo, .unset] [] _
                  refine XS.iconst X0.here hx rfl (hb hby at_75) ?_
                  show own_S p e below s₁ m 76 #[iv p1, iv cv, iv cv, iv fo, .unset] [(.int (0 : Int32))] _
                  refine XS.istore X0.here hx rfl (hb hby at_76) rfl (l' := #[iv p1, iv cv, iv cv, iv fo, iv (0 : Int32)]) rfl ?_
                  exact k)
                exact ⟨(0 : Int32), (by
                                    (try simp only [true_and, false_and, or_false, false_or, not_true_eq_false, not_false_eq_true, Int32.lt_iff_toInt_lt, own_eqi, own_lit97, own_lit122, own_lit65, own_lit90, own_lit48, own_lit57, own_lit36, own_lit95, own_lit128, own_lit0, own_lit1] at hrg hf hc14_3 hc26_5 hc44_7 hc50_16 hc62_18 hc68_21); simp only [own_is, own_alnum, true_and, false_and, or_false, false_or, not_true_eq_false, not_false_eq_true, Int32.lt_iff_toInt_lt, own_eqi, own_lit97, own_lit122, own_lit65, own_lit90, own_lit48, own_lit57, own_lit36, own_lit95, own_lit128, own_lit0, own_lit1]; omega), pre24⟩
          ·  -- pc 50 no
            have pre25 : ∀ t, own_S p e below s₁ m 78 #[iv p1, iv cv, iv cv, iv fo, iv (1 : Int32)] [] t → Steps p.tables e below (s₁.setTop (entryFrame m #[(.int p1)] maxLocals)) t := fun t k => pre17 t (by
              show own_S p e below s₁ m 50 #[iv p1, iv cv, iv cv, iv fo, .unset] [(.int (122 : Int32)), (.int fo)] _
              refine XS.icmpNo X0.here hx rfl (hb hby at_50) rfl (flt hc50_16).2.2.1 ?_
              show own_S p e below s₁ m 53 #[iv p1, iv cv, iv cv, iv fo, .unset] [] _
              refine XS.iconst X0.here hx rfl (hb hby at_53) ?_
              show own_S p e below s₁ m 54 #[iv p1, iv cv, iv cv, iv fo, .unset] [(.int (1 : Int32))] _
              refine XS.istore X0.here hx rfl (hb hby at_54) rfl (l' := #[iv p1, iv cv, iv cv, iv fo, iv (1 : Int32)]) rfl ?_
              show own_S p e below s₁ m 56 #[iv p1, iv cv, iv cv, iv fo, iv (1 : Int32)] [] _
              refine XS.goto X0.here hx rfl (pc0 := 56) (pc' := 78) rfl (hb hby at_56) (by decide) (by decide) ?_
              exact k)
            exact ⟨(1 : Int32), (by
                            (try simp only [true_and, false_and, or_false, false_or, not_true_eq_false, not_false_eq_true, Int32.lt_iff_toInt_lt, own_eqi, own_lit97, own_lit122, own_lit65, own_lit90, own_lit48, own_lit57, own_lit36, own_lit95, own_lit128, own_lit0, own_lit1] at hrg hf hc14_3 hc26_5 hc44_7 hc50_16); simp only [own_is, own_alnum, true_and, false_and, or_false, false_or, not_true_eq_false, not_false_eq_true, Int32.lt_iff_toInt_lt, own_eqi, own_lit97, own_lit122, own_lit65, own_lit90, own_lit48, own_lit57, own_lit36, own_lit95, own_lit128, own_lit0, own_lit1]; omega), pre25⟩
      ·  -- pc 26 no
        have pre27 : ∀ t, own_S p e below s₁ m 32 #[iv p1, iv cv, iv cv, iv fo, .unset] [(.int (57 : Int32)), (.int cv)] t → Steps p.tables e below (s₁.setTop (entryFrame m #[(.int p1)] maxLocals)) t := fun t k => pre6 t (by
          show own_S p e below s₁ m 26 #[iv p1, iv cv, iv cv, iv fo, .unset] [(.int (48 : Int32)), (.int cv)] _
          refine XS.icmpNo X0.here hx rfl (hb hby at_26) rfl (flt hc26_5).1 ?_
          show own_S p e below s₁ m 29 #[iv p1, iv cv, iv cv, iv fo, .unset] [] _
          refine XS.iloadN X0.here hx rfl (hb hby at_29) rfl ?_
          show own_S p e below s₁ m 30 #[iv p1, iv cv, iv cv, iv fo, .unset] [(.int cv)] _
          refine XS.bipush X0.here hx rfl (hb hby at_30) ?_
          exact k)
        by_cases hc32_26 : (57 : Int32) < cv
        ·  -- pc 32 yes
          have pre29 : ∀ t, own_S p e below s₁ m 44 #[iv p1, iv cv, iv cv, iv fo, .unset] [(.int (97 : Int32)), (.int fo)] t → Steps p.tables e below (s₁.setTop (entryFrame m #[(.int p1)] maxLocals)) t := fun t k => pre27 t (by
            show own_S p e below s₁ m 32 #[iv p1, iv cv, iv cv, iv fo, .unset] [(.int (57 : Int32)), (.int cv)] _
            refine XS.icmpYes X0.here hx rfl (pc0 := 32) (pc' := 41) rfl (hb hby at_32) rfl (tlt hc32_26).2.2.1 (by decide) (by decide) ?_
            show own_S p e below s₁ m 41 #[iv p1, iv cv, iv cv, iv fo, .unset] [] _
            refine XS.iloadN X0.here hx rfl (hb hby at_41) rfl ?_
            show own_S p e below s₁ m 42 #[iv p1, iv cv, iv cv, iv fo, .unset] [(.int fo)] _
            refine XS.bipush X0.here hx rfl (hb hby at_42) ?_
            exact k)
          by_cases hc44_28 : fo < (97 : Int32)
          ·  -- pc 44 yes
            have pre31 : ∀ t, own_S p e below s₁ m 62 #[iv p1, iv cv, iv cv, iv fo, .unset] [(.int (36 : Int32)), (.int cv)] t → Steps p.tables e below (s₁.setTop (entryFrame m #[(.int p1)] maxLocals)) t := fun t k => pre29 t (by
              show own_S p e below s₁ m 44 #[iv p1, iv cv, iv cv, iv fo, .unset] [(.int (97 : Int32)), (.int fo)] _
              refine XS.icmpYes X0.here hx rfl (pc0 := 44) (pc' := 59) rfl (hb hby at_44) rfl (tlt hc44_28).1 (by decide) (by decide) ?_
              show own_S p e below s₁ m 59 #[iv p1, iv cv, iv cv, iv fo, .unset] [] _
              refine XS.iloadN X0.here hx rfl (hb hby at_59) rfl ?_
              show own_S p e below s₁ m 60 #[iv p1, iv cv, iv cv, iv fo, .unset] [(.int cv)] _
              refine XS.bipush X0.here hx rfl (hb hby at_60) ?_
              exact k)
            by_cases hc62_30 : cv = (36 : Int32)
            ·  -- pc 62 yes
              have pre32 : ∀ t, own_S p e below s₁ m 78 #[iv p1, iv cv, iv cv, iv fo, iv (1 : Int32)] [] t → Steps p.tables e below (s₁.setTop (entryFrame m #[(.int p1)] maxLocals)) t := fun t k => pre31 t (by
                show own_S p e below s₁ m 62 #[iv p1, iv cv, iv cv, iv fo, .unset] [(.int (36 : Int32)), (.int cv)] _
                refine XS.icmpYes X0.here hx rfl (pc0 := 62) (pc' := 71) rfl (hb hby at_62) rfl (teq hc62_30).1 (by decide) (by decide) ?_
                show own_S p e below s₁ m 71 #[iv p1, iv cv, iv cv, iv fo, .unset] [] _
                refine XS.iconst X0.here hx rfl (hb hby at_71) ?_
                show own_S p e below s₁ m 72 #[iv p1, iv cv, iv cv, iv fo, .unset] [(.int (1 : Int32))] _
                refine XS.goto X0.here hx rfl (pc0 := 72) (pc' := 76) rfl (hb hby at_72) (by decide) (by decide) ?_
                show own_S p e below s₁ m 76 #[iv p1, iv cv, iv cv, iv fo, .unset] [(.int (1 : Int32))] _
                refine XS.istore X0.here hx rfl (hb hby at_76) rfl (l' := #[iv p1, iv cv, iv cv, iv fo, iv (1 : Int32)]) rfl ?_
                exact k)
              exact ⟨(1 : Int32), (by
                                (try simp only [true_and, false_and, or_false, false_or, not_true_eq_false, not_false_eq_true, Int32.lt_iff_toInt_lt, own_eqi, own_lit97, own_lit122, own_lit65, own_lit90, own_lit48, own_lit57, own_lit36, own_lit95, own_lit128, own_lit0, own_lit1] at hrg hf hc14_3 hc26_5 hc32_26 hc44_28 hc62_30); simp only [own_is, own_alnum, true_and, false_and, or_false, false_or, not_true_eq_false, not_false_eq_true, Int32.lt_iff_toInt_lt, own_eqi, own_lit97, own_lit122, own_lit65, own_lit90, own_lit48, own_lit57, own_lit36, own_lit95, own_lit128, own_lit0, own_lit1]; omega), pre32⟩
            ·  -- pc 62 no
              have pre34 : ∀ t, own_S p e below s₁ m 68 #[iv p1, iv cv, iv cv, iv fo, .unset] [(.int (95 : Int32)), (.int cv)] t → Steps p.tables e below (s₁.setTop (entryFrame m #[(.int p1)] maxLocals)) t := fun t k => pre31 t (by
                show own_S p e below s₁ m 62 #[iv p1, iv cv, iv cv, iv fo, .unset] [(.int (36 : Int32)), (.int cv)] _
                refine XS.icmpNo X0.here hx rfl (hb hby at_62) rfl (feq hc62_30).1 ?_
                show own_S p e below s₁ m 65 #[iv p1, iv cv, iv cv, iv fo, .unset] [] _
                refine XS.iloadN X0.here hx rfl (hb hby at_65) rfl ?_
                show own_S p e below s₁ m 66 #[iv p1, iv cv, iv cv, iv fo, .unset] [(.int cv)] _
                refine XS.bipush X0.here hx rfl (hb hby at_66) ?_
                exact k)
              by_cases hc68_33 : cv = (95 : Int32)
              ·  -- pc 68 yes
                have pre35 : ∀ t, own_S p e below s₁ m 78 #[iv p1, iv cv, iv cv, iv fo, iv (1 : Int32)] [] t → Steps p.tables e below (s₁.setTop (entryFrame m #[(.int p1)] maxLocals)) t := fun t k => pre34 t (by
                  show own_S p e below s₁ m 68 #[iv p1, iv cv, iv cv, iv fo, .unset] [(.int (95 : Int32)), (.int cv)] _
                  refine XS.icmpNo X0.here hx rfl (hb hby at_68) rfl (teq hc68_33).2 ?_
                  show own_S p e below s₁ m 71 #[iv p1, iv cv, iv cv, iv fo, .unset] [] _
                  refine XS.iconst X0.here hx rfl (hb hby at_71) ?_
                  show own_S p e below s₁ m 72 #[iv p1, iv cv, iv cv, iv fo, .unset] [(.int (1 : Int32))] _
                  refine XS.goto X0.here hx rfl (pc0 := 72) (pc' := 76) rfl (hb hby at_72) (by decide) (by decide) ?_
                  show own_S p e below s₁ m 76 #[iv p1, iv cv, iv cv, iv fo, .unset] [(.int (1 : Int32))] _
                  refine XS.istore X0.here hx rfl (hb hby at_76) rfl (l' := #[iv p1, iv cv, iv cv, iv fo, iv (1 : Int32)]) rfl ?_
                  exact k)
                exact ⟨(1 : Int32), (by
                                    (try simp only [true_and, false_and, or_false, false_or, not_true_eq_false, not_false_eq_true, Int32.lt_iff_toInt_lt, own_eqi, own_lit97, own_lit122, own_lit65, own_lit90, own_lit48, own_lit57, own_lit36, own_lit95, own_lit128, own_lit0, own_lit1] at hrg hf hc14_3 hc26_5 hc32_26 hc44_28 hc62_30 hc68_33); simp only [own_is, own_alnum, true_and, false_and, or_false, false_or, not_true_eq_false, not_false_eq_true, Int32.lt_iff_toInt_lt, own_eqi, own_lit97, own_lit122, own_lit65, own_lit90, own_lit48, own_lit57, own_lit36, own_lit95, own_lit128, own_lit0, own_lit1]; omega), pre35⟩
              ·  -- pc 68 no
                have pre36 : ∀ t, own_S p e below s₁ m 78 #[iv p1, iv cv, iv cv, iv fo, iv (0 : Int32)] [] t → Steps p.tables e below (s₁.setTop (entryFrame m #[(.int p1)] maxLocals)) t := fun t k => pre34 t (by
                  show own_S p e below s₁ m 68 #[iv p1, iv cv, iv cv, iv fo, .unset] [(.int (95 : Int32)), (.int cv)] _
                  refine XS.icmpYes X0.here hx rfl (pc0 := 68) (pc' := 75) rfl (hb hby at_68) rfl (feq hc68_33).2 (by decide) (by decide) ?_
                  show own_S p e below s₁ m 75 #[iv p1, iv cv, iv cv, iv fo, .unset] [] _
                  refine XS.iconst X0.here hx rfl (hb hby at_75) ?_
                  show own_S p e below s₁ m 76 #[iv p1, iv cv, iv cv, iv fo, .unset] [(.int (0 : Int32))] _
                  refine XS.istore X0.here hx rfl (hb hby at_76) rfl (l' := #[iv p1, iv cv, iv cv, iv fo, iv (0 : Int32)]) rfl ?_
                  exact k)
                exact ⟨(0 : Int32), (by
                                    (try simp only [true_and, false_and, or_false, false_or, not_true_eq_false, not_false_eq_true, Int32.lt_iff_toInt_lt, own_eqi, own_lit97, own_lit122, own_lit65, own_lit90, own_lit48, own_lit57, own_lit36, own_lit95, own_lit128, own_lit0, own_lit1] at hrg hf hc14_3 hc26_5 hc32_26 hc44_28 hc62_30 hc68_33); simp only [own_is, own_alnum, true_and, false_and, or_false, false_or, not_true_eq_false, not_false_eq_true, Int32.lt_iff_toInt_lt, own_eqi, own_lit97, own_lit122, own_lit65, own_lit90, own_lit48, own_lit57, own_lit36, own_lit95, own_lit128, own_lit0, own_lit1]; omega), pre36⟩
          ·  -- pc 44 no
            have pre38 : ∀ t, own_S p e below s₁ m 50 #[iv p1, iv cv, iv cv, iv fo, .unset] [(.int (122 : Int32)), (.int fo)] t → Steps p.tables e below (s₁.setTop (entryFrame m #[(.int p1)] maxLocals)) t := fun t k => pre29 t (by
              show own_S p e below s₁ m 44 #[iv p1, iv cv, iv cv, iv fo, .unset] [(.int (97 : Int32)), (.int fo)] _
              refine XS.icmpNo X0.here hx rfl (hb hby at_44) rfl (flt hc44_28).1 ?_
              show own_S p e below s₁ m 47 #[iv p1, iv cv, iv cv, iv fo, .unset] [] _
              refine XS.iloadN X0.here hx rfl (hb hby at_47) rfl ?_
              show own_S p e below s₁ m 48 #[iv p1, iv cv, iv cv, iv fo, .unset] [(.int fo)] _
              refine XS.bipush X0.here hx rfl (hb hby at_48) ?_
              exact k)
            by_cases hc50_37 : (122 : Int32) < fo
            ·  -- pc 50 yes
              have pre40 : ∀ t, own_S p e below s₁ m 62 #[iv p1, iv cv, iv cv, iv fo, .unset] [(.int (36 : Int32)), (.int cv)] t → Steps p.tables e below (s₁.setTop (entryFrame m #[(.int p1)] maxLocals)) t := fun t k => pre38 t (by
                show own_S p e below s₁ m 50 #[iv p1, iv cv, iv cv, iv fo, .unset] [(.int (122 : Int32)), (.int fo)] _
                refine XS.icmpYes X0.here hx rfl (pc0 := 50) (pc' := 59) rfl (hb hby at_50) rfl (tlt hc50_37).2.2.1 (by decide) (by decide) ?_
                show own_S p e below s₁ m 59 #[iv p1, iv cv, iv cv, iv fo, .unset] [] _
                refine XS.iloadN X0.here hx rfl (hb hby at_59) rfl ?_
                show own_S p e below s₁ m 60 #[iv p1, iv cv, iv cv, iv fo, .unset] [(.int cv)] _
                refine XS.bipush X0.here hx rfl (hb hby at_60) ?_
                exact k)
              by_cases hc62_39 : cv = (36 : Int32)
              ·  -- pc 62 yes
                have pre41 : ∀ t, own_S p e below s₁ m 78 #[iv p1, iv cv, iv cv, iv fo, iv (1 : Int32)] [] t → Steps p.tables e below (s₁.setTop (entryFrame m #[(.int p1)] maxLocals)) t := fun t k => pre40 t (by
                  show own_S p e below s₁ m 62 #[iv p1, iv cv, iv cv, iv fo, .unset] [(.int (36 : Int32)), (.int cv)] _
                  refine XS.icmpYes X0.here hx rfl (pc0 := 62) (pc' := 71) rfl (hb hby at_62) rfl (teq hc62_39).1 (by decide) (by decide) ?_
                  show own_S p e below s₁ m 71 #[iv p1, iv cv, iv cv, iv fo, .unset] [] _
                  refine XS.iconst X0.here hx rfl (hb hby at_71) ?_
                  show own_S p e below s₁ m 72 #[iv p1, iv cv, iv cv, iv fo, .unset] [(.int (1 : Int32))] _
                  refine XS.goto X0.here hx rfl (pc0 := 72) (pc' := 76) rfl (hb hby at_72) (by decide) (by decide) ?_
                  show own_S p e below s₁ m 76 #[iv p1, iv cv, iv cv, iv fo, .unset] [(.int (1 : Int32))] _
                  refine XS.istore X0.here hx rfl (hb hby at_76) rfl (l' := #[iv p1, iv cv, iv cv, iv fo, iv (1 : Int32)]) rfl ?_
                  exact k)
                exact ⟨(1 : Int32), (by
                                    (try simp only [true_and, false_and, or_false, false_or, not_true_eq_false, not_false_eq_true, Int32.lt_iff_toInt_lt, own_eqi, own_lit97, own_lit122, own_lit65, own_lit90, own_lit48, own_lit57, own_lit36, own_lit95, own_lit128, own_lit0, own_lit1] at hrg hf hc14_3 hc26_5 hc32_26 hc44_28 hc50_37 hc62_39); simp only [own_is, own_alnum, true_and, false_and, or_false, false_or, not_true_eq_false, not_false_eq_true, Int32.lt_iff_toInt_lt, own_eqi, own_lit97, own_lit122, own_lit65, own_lit90, own_lit48, own_lit57, own_lit36, own_lit95, own_lit128, own_lit0, own_lit1]; omega), pre41⟩
              ·  -- pc 62 no
                have pre43 : ∀ t, own_S p e below s₁ m 68 #[iv p1, iv cv, iv cv, iv fo, .unset] [(.int (95 : Int32)), (.int cv)] t → Steps p.tables e below (s₁.setTop (entryFrame m #[(.int p1)] maxLocals)) t := fun t k => pre40 t (by
                  show own_S p e below s₁ m 62 #[iv p1, iv cv, iv cv, iv fo, .unset] [(.int (36 : Int32)), (.int cv)] _
                  refine XS.icmpNo X0.here hx rfl (hb hby at_62) rfl (feq hc62_39).1 ?_
                  show own_S p e below s₁ m 65 #[iv p1, iv cv, iv cv, iv fo, .unset] [] _
                  refine XS.iloadN X0.here hx rfl (hb hby at_65) rfl ?_
                  show own_S p e below s₁ m 66 #[iv p1, iv cv, iv cv, iv fo, .unset] [(.int cv)] _
                  refine XS.bipush X0.here hx rfl (hb hby at_66) ?_
                  exact k)
                by_cases hc68_42 : cv = (95 : Int32)
                ·  -- pc 68 yes
                  have pre44 : ∀ t, own_S p e below s₁ m 78 #[iv p1, iv cv, iv cv, iv fo, iv (1 : Int32)] [] t → Steps p.tables e below (s₁.setTop (entryFrame m #[(.int p1)] maxLocals)) t := fun t k => pre43 t (by
                    show own_S p e below s₁ m 68 #[iv p1, iv cv, iv cv, iv fo, .unset] [(.int (95 : Int32)), (.int cv)] _
                    refine XS.icmpNo X0.here hx rfl (hb hby at_68) rfl (teq hc68_42).2 ?_
                    show own_S p e below s₁ m 71 #[iv p1, iv cv, iv cv, iv fo, .unset] [] _
                    refine XS.iconst X0.here hx rfl (hb hby at_71) ?_
                    show own_S p e below s₁ m 72 #[iv p1, iv cv, iv cv, iv fo, .unset] [(.int (1 : Int32))] _
                    refine XS.goto X0.here hx rfl (pc0 := 72) (pc' := 76) rfl (hb hby at_72) (by decide) (by decide) ?_
                    show own_S p e below s₁ m 76 #[iv p1, iv cv, iv cv, iv fo, .unset] [(.int (1 : Int32))] _
                    refine XS.istore X0.here hx rfl (hb hby at_76) rfl (l' := #[iv p1, iv cv, iv cv, iv fo, iv (1 : Int32)]) rfl ?_
                    exact k)
                  exact ⟨(1 : Int32), (by
                                        (try simp only [true_and, false_and, or_false, false_or, not_true_eq_false, not_false_eq_true, Int32.lt_iff_toInt_lt, own_eqi, own_lit97, own_lit122, own_lit65, own_lit90, own_lit48, own_lit57, own_lit36, own_lit95, own_lit128, own_lit0, own_lit1] at hrg hf hc14_3 hc26_5 hc32_26 hc44_28 hc50_37 hc62_39 hc68_42); simp only [own_is, own_alnum, true_and, false_and, or_false, false_or, not_true_eq_false, not_false_eq_true, Int32.lt_iff_toInt_lt, own_eqi, own_lit97, own_lit122, own_lit65, own_lit90, own_lit48, own_lit57, own_lit36, own_lit95, own_lit128, own_lit0, own_lit1]; omega), pre44⟩
                ·  -- pc 68 no
                  have pre45 : ∀ t, own_S p e below s₁ m 78 #[iv p1, iv cv, iv cv, iv fo, iv (0 : Int32)] [] t → Steps p.tables e below (s₁.setTop (entryFrame m #[(.int p1)] maxLocals)) t := fun t k => pre43 t (by
                    show own_S p e below s₁ m 68 #[iv p1, iv cv, iv cv, iv fo, .unset] [(.int (95 : Int32)), (.int cv)] _
                    refine XS.icmpYes X0.here hx rfl (pc0 := 68) (pc' := 75) rfl (hb hby at_68) rfl (feq hc68_42).2 (by decide) (by decide) ?_
                    show own_S p e below s₁ m 75 #[iv p1, iv cv, iv cv, iv fo, .unset] [] _
                    refine XS.iconst X0.here hx rfl (hb hby at_75) ?_
                    show own_S p e below s₁ m 76 #[iv p1, iv cv, iv cv, iv fo, .unset] [(.int (0 : Int32))] _
                    refine XS.istore X0.here hx rfl (hb hby at_76) rfl (l' := #[iv p1, iv cv, iv cv, iv fo, iv (0 : Int32)]) rfl ?_
                    exact k)
                  exact ⟨(0 : Int32), (by
                                        (try simp only [true_and, false_and, or_false, false_or, not_true_eq_false, not_false_eq_true, Int32.lt_iff_toInt_lt, own_eqi, own_lit97, own_lit122, own_lit65, own_lit90, own_lit48, own_lit57, own_lit36, own_lit95, own_lit128, own_lit0, own_lit1] at hrg hf hc14_3 hc26_5 hc32_26 hc44_28 hc50_37 hc62_39 hc68_42); simp only [own_is, own_alnum, true_and, false_and, or_false, false_or, not_true_eq_false, not_false_eq_true, Int32.lt_iff_toInt_lt, own_eqi, own_lit97, own_lit122, own_lit65, own_lit90, own_lit48, own_lit57, own_lit36, own_lit95, own_lit128, own_lit0, own_lit1]; omega), pre45⟩
            ·  -- pc 50 no
              have pre46 : ∀ t, own_S p e below s₁ m 78 #[iv p1, iv cv, iv cv, iv fo, iv (1 : Int32)] [] t → Steps p.tables e below (s₁.setTop (entryFrame m #[(.int p1)] maxLocals)) t := fun t k => pre38 t (by
                show own_S p e below s₁ m 50 #[iv p1, iv cv, iv cv, iv fo, .unset] [(.int (122 : Int32)), (.int fo)] _
                refine XS.icmpNo X0.here hx rfl (hb hby at_50) rfl (flt hc50_37).2.2.1 ?_
                show own_S p e below s₁ m 53 #[iv p1, iv cv, iv cv, iv fo, .unset] [] _
                refine XS.iconst X0.here hx rfl (hb hby at_53) ?_
                show own_S p e below s₁ m 54 #[iv p1, iv cv, iv cv, iv fo, .unset] [(.int (1 : Int32))] _
                refine XS.istore X0.here hx rfl (hb hby at_54) rfl (l' := #[iv p1, iv cv, iv cv, iv fo, iv (1 : Int32)]) rfl ?_
                show own_S p e below s₁ m 56 #[iv p1, iv cv, iv cv, iv fo, iv (1 : Int32)] [] _
                refine XS.goto X0.here hx rfl (pc0 := 56) (pc' := 78) rfl (hb hby at_56) (by decide) (by decide) ?_
                exact k)
              exact ⟨(1 : Int32), (by
                                (try simp only [true_and, false_and, or_false, false_or, not_true_eq_false, not_false_eq_true, Int32.lt_iff_toInt_lt, own_eqi, own_lit97, own_lit122, own_lit65, own_lit90, own_lit48, own_lit57, own_lit36, own_lit95, own_lit128, own_lit0, own_lit1] at hrg hf hc14_3 hc26_5 hc32_26 hc44_28 hc50_37); simp only [own_is, own_alnum, true_and, false_and, or_false, false_or, not_true_eq_false, not_false_eq_true, Int32.lt_iff_toInt_lt, own_eqi, own_lit97, own_lit122, own_lit65, own_lit90, own_lit48, own_lit57, own_lit36, own_lit95, own_lit128, own_lit0, own_lit1]; omega), pre46⟩
        ·  -- pc 32 no
          have pre47 : ∀ t, own_S p e below s₁ m 78 #[iv p1, iv cv, iv cv, iv fo, iv (1 : Int32)] [] t → Steps p.tables e below (s₁.setTop (entryFrame m #[(.int p1)] maxLocals)) t := fun t k => pre27 t (by
            show own_S p e below s₁ m 32 #[iv p1, iv cv, iv cv, iv fo, .unset] [(.int (57 : Int32)), (.int cv)] _
            refine XS.icmpNo X0.here hx rfl (hb hby at_32) rfl (flt hc32_26).2.2.1 ?_
            show own_S p e below s₁ m 35 #[iv p1, iv cv, iv cv, iv fo, .unset] [] _
            refine XS.iconst X0.here hx rfl (hb hby at_35) ?_
            show own_S p e below s₁ m 36 #[iv p1, iv cv, iv cv, iv fo, .unset] [(.int (1 : Int32))] _
            refine XS.istore X0.here hx rfl (hb hby at_36) rfl (l' := #[iv p1, iv cv, iv cv, iv fo, iv (1 : Int32)]) rfl ?_
            show own_S p e below s₁ m 38 #[iv p1, iv cv, iv cv, iv fo, iv (1 : Int32)] [] _
            refine XS.goto X0.here hx rfl (pc0 := 38) (pc' := 78) rfl (hb hby at_38) (by decide) (by decide) ?_
            exact k)
          exact ⟨(1 : Int32), (by
                        (try simp only [true_and, false_and, or_false, false_or, not_true_eq_false, not_false_eq_true, Int32.lt_iff_toInt_lt, own_eqi, own_lit97, own_lit122, own_lit65, own_lit90, own_lit48, own_lit57, own_lit36, own_lit95, own_lit128, own_lit0, own_lit1] at hrg hf hc14_3 hc26_5 hc32_26); simp only [own_is, own_alnum, true_and, false_and, or_false, false_or, not_true_eq_false, not_false_eq_true, Int32.lt_iff_toInt_lt, own_eqi, own_lit97, own_lit122, own_lit65, own_lit90, own_lit48, own_lit57, own_lit36, own_lit95, own_lit128, own_lit0, own_lit1]; omega), pre47⟩
    ·  -- pc 14 no
      have pre48 : ∀ t, own_S p e below s₁ m 78 #[iv p1, iv cv, iv cv, iv fo, iv (1 : Int32)] [] t → Steps p.tables e below (s₁.setTop (entryFrame m #[(.int p1)] maxLocals)) t := fun t k => pre4 t (by
        show own_S p e below s₁ m 14 #[iv p1, iv cv, iv cv, iv fo, .unset] [(.int (128 : Int32)), (.int cv)] _
        refine XS.icmpNo X0.here hx rfl (hb hby at_14) rfl (flt hc14_3).1 ?_
        show own_S p e below s₁ m 17 #[iv p1, iv cv, iv cv, iv fo, .unset] [] _
        refine XS.iconst X0.here hx rfl (hb hby at_17) ?_
        show own_S p e below s₁ m 18 #[iv p1, iv cv, iv cv, iv fo, .unset] [(.int (1 : Int32))] _
        refine XS.istore X0.here hx rfl (hb hby at_18) rfl (l' := #[iv p1, iv cv, iv cv, iv fo, iv (1 : Int32)]) rfl ?_
        show own_S p e below s₁ m 20 #[iv p1, iv cv, iv cv, iv fo, iv (1 : Int32)] [] _
        refine XS.goto X0.here hx rfl (pc0 := 20) (pc' := 78) rfl (hb hby at_20) (by decide) (by decide) ?_
        exact k)
      exact ⟨(1 : Int32), (by
                (try simp only [true_and, false_and, or_false, false_or, not_true_eq_false, not_false_eq_true, Int32.lt_iff_toInt_lt, own_eqi, own_lit97, own_lit122, own_lit65, own_lit90, own_lit48, own_lit57, own_lit36, own_lit95, own_lit128, own_lit0, own_lit1] at hrg hf hc14_3); simp only [own_is, own_alnum, true_and, false_and, or_false, false_or, not_true_eq_false, not_false_eq_true, Int32.lt_iff_toInt_lt, own_eqi, own_lit97, own_lit122, own_lit65, own_lit90, own_lit48, own_lit57, own_lit36, own_lit95, own_lit128, own_lit0, own_lit1]; omega), pre48⟩
  obtain ⟨_, _, ⟨T49, L49, k49, n49⟩, -, X49, ⟨Lc49, hQ49, l49, y49, z49⟩, st49⟩ := Jvm.LawKit.callS X0 hx (y := (⟨"com/example/garter/garter/schema/Identifier", "isBare", "(C)Z"⟩ : MethodName)) hown (mvT hZ (hw _ (List.mem_of_getElem? (i := 0) rfl))) (mvT hZ (hw _ (List.mem_of_getElem? (i := 1) rfl))) (mvT hZ (hw _ (List.mem_of_getElem? (i := 2) rfl))) (mvT hZ (hw _ (List.mem_of_getElem? (i := 3) rfl))) (by decide) (backOf (W := 0) (rm1 l Z a0 hw [] cv h0 n0 Z0 ) hZ (hw _ (List.mem_of_getElem? (i := 3) rfl)) (hw _ (List.mem_of_getElem? (i := 2) rfl)) (by decide) (by decide)) (g := (mkF m 79 #[iv p1, iv cv, iv cv, iv fo, iv ex] [(.int cv)])) rfl (by rw [hml]; rfl) (argsL := [(.int cv)]) (rest := []) (lenOf pd_0 rfl) rfl (by show 2 * 0 + _ ≤ _; exact Nat.le_of_eq rfl) (hb hby at_79) (fun _ _ => ⟨rfl, e0, (by decide : 0 + 0 ≤ _), (by decide : 0 + 0 ≤ _)⟩)
  dsimp only [Pt.U, Pt.locs, Pt.cells, Pt.slots] at X49 l49 y49 z49 st49 hQ49
  subst l49 y49 z49
  obtain ⟨bR, rfl, N49q, e49q, h_bR⟩ := hQ49
  have N49 := Fr.app N0 N49q
  have e49 : T49.heap = h0 := e49q
  have pre51 : ∀ t, own_S p e below T49 m 84 #[iv p1, iv cv, iv cv, iv fo, iv ex] [(.int ex), (.int bR)] t → Steps p.tables e below (s₁.setTop (entryFrame m #[(.int p1)] maxLocals)) t := fun t k => prej2 t (by
    show own_S p e below s₁ m 78 #[iv p1, iv cv, iv cv, iv fo, iv ex] [] _
    refine XS.iloadN X0.here hx rfl (hb hby at_78) rfl ?_
    show own_S p e below s₁ m 79 #[iv p1, iv cv, iv cv, iv fo, iv ex] [(.int cv)] _
    refine st49 _ ?_
    show own_S p e below T49 m 82 #[iv p1, iv cv, iv cv, iv fo, iv ex] [(.int bR)] _
    refine XS.iload X49.here hx rfl (hb hby at_82) rfl ?_
    exact k)
  by_cases hc84_50 : bR = ex
  ·  -- pc 84 yes
    have pre52 : ∀ t, own_S p e below T49 m 92 #[iv p1, iv cv, iv cv, iv fo, iv ex] [(.int (1 : Int32))] t → Steps p.tables e below (s₁.setTop (entryFrame m #[(.int p1)] maxLocals)) t := fun t k => pre51 t (by
      show own_S p e below T49 m 84 #[iv p1, iv cv, iv cv, iv fo, iv ex] [(.int ex), (.int bR)] _
      refine XS.icmpNo X49.here hx rfl (hb hby at_84) rfl (teq hc84_50).2 ?_
      show own_S p e below T49 m 87 #[iv p1, iv cv, iv cv, iv fo, iv ex] [] _
      refine XS.iconst X49.here hx rfl (hb hby at_87) ?_
      show own_S p e below T49 m 88 #[iv p1, iv cv, iv cv, iv fo, iv ex] [(.int (1 : Int32))] _
      refine XS.goto X49.here hx rfl (pc0 := 88) (pc' := 92) rfl (hb hby at_88) (by decide) (by decide) ?_
      exact k)
    obtain ⟨fs, hr, hrun, hended, hW, hsame⟩ := X49.leave (v := some (.int (nar .boolean (1 : Int32)))) (fun h => by rw [Bd.returns] at h; cases h)
    refine ⟨_, _, pre52 _ ?_, hrun, hended, _, _, rfl, ?_, ⟨_, rfl⟩, hW, hsame.mono (by decide) (by decide)⟩
    · show own_S p e below T49 m 92 #[iv p1, iv cv, iv cv, iv fo, iv ex] [(.int (1 : Int32))] _
      exact retN X49 hx (t := .boolean) Bd.returns (by simp) (hb hby at_92) hr
    · show Q0 Z p1 h0 n0 _ T49.heap _
      rw [e49]
      exact ⟨rfl, N49⟩
  ·  -- pc 84 no
    exfalso
    simp only [own_is, own_alnum, true_and, false_and, or_false, false_or, not_true_eq_false, not_false_eq_true, Int32.lt_iff_toInt_lt, own_eqi, own_lit97, own_lit122, own_lit65, own_lit90, own_lit48, own_lit57, own_lit36, own_lit95, own_lit128, own_lit0, own_lit1] at h_ex h_bR hc84_50; omega
set_option maxRecDepth 65536 in
set_option maxHeartbeats 40000000 in
theorem comes_1 {Post : Tables → Env → Array Value → State → Outcome → State → Prop} (hpost : ∀ tb e args s v u, (limb_1_1.after args s (.returned v) u = true ∧ limb_1_2.after args s (.returned v) u = true ∧ True) → FrameEnd s (.returned v) u (Jvm.fieldLocs frame_1_writes args s ++ Jvm.arrayLocs frame_1_arrays args s ++ Jvm.staticLocs frame_1_statics s) 0 0 → Post tb e args s (.returned v) u) :
    ArmFor flags0 classFile x code maxLocals ret World_1 tables_1 room_1 Calls_1 rest_1 Pre_1 Post := by
  intro l hfl _ _ p e ha hc hk s m args below hf hA hF happ hP
  obtain ⟨hcalls, hrest, hpre⟩ := hP
  obtain ⟨-, -, -, hnamed, -, -, -, hat⟩ := (Spec.applies_iff hf).mp happ
  obtain ⟨hg, hn⟩ := and_e (Cond.before_iff.mp (show (Jvm.Cond.and given_1 narrow_1).before args s = true from hpre))
  obtain ⟨g1, g2⟩ := and_e hg
  obtain ⟨w0, rfl⟩ : ∃ w0 : Value, args = #[w0] := by
    have hs : args.size = 1 := by simpa [Cond.value, given_1] using g1
    obtain ⟨L⟩ := args
    match L, hs with
    | [w0], _ => exact ⟨w0, rfl⟩
  have hw := fun d (hd : d ∈ tables_1) => atoms_spec (ws := Jvm.Cond.code x code maxLocals ret :: tables_1) hat d (List.mem_cons_of_mem _ hd)
  have hfit : Fit s := fun {y c} hc i hi => by
    obtain ⟨ha, rfl⟩ := Array.getElem?_eq_some_iff.mp hc
    have q := List.all_eq_true.mp ((Array.all_eq_true_iff_forall_mem.mp hF) _ (Array.getElem_mem ha)) i (List.mem_range.mpr hi)
    simpa [Array.getElem?_eq_getElem hi] using q
  obtain ⟨i0, ei0⟩ := is_v g2
  obtain rfl : w0 = (.int i0) := Option.some.inj ei0
  obtain ⟨n, o, h1, h2, h3, _, L, rfl, ⟨rfl, N⟩, hq⟩ := rm0 l s _ hw tables_1 i0 s.heap s.heap.size (Nat.le_refl _)  p e ha hc hk s m _ below hf ((Spec.applies_iff_loose hf).mp happ).1 ⟨rfl, State.Warmed39.refl s, rfl⟩ trivial
  refine ⟨n, _, h1, h2, h3, hpost _ _ _ _ _ _ ⟨Cond.after_iff.mpr rfl, Cond.after_iff.mpr (eq_i res_at (Term.int_eval (1)) rfl), trivial⟩ ⟨hq.1, hq.2.1, (hq.2.2.sift fun y hy => Or.inr (N y hy)).mono (by decide) (by decide)⟩⟩
theorem main_1_1 : Claimed_1_1 := comes_1 fun _ _ _ _ _ _ h hF => ⟨h.1, hF⟩
theorem main_1_2 : Claimed_1_2 := comes_1 fun _ _ _ _ _ _ h hF => ⟨h.2.1, hF⟩
end Jvm.Pilot.@@N@@
namespace Jvm.Pilot.@@N@@
open Jvm Jvm.ClassFile Sem Op Lib Jvm.Free Jvm.Stand Jvm.Pilot.@@N@@.Jvm.D
/-! MADE BY PROGRAM (witnessworld.py) out of the Statement's table words and the real class files: 9 classes; the members and pool entries that the words name. The judged class is class 1, her method 1. -/
namespace start1
open Jvm.ClassFile
def u (s : String) : CpInfo := .utf8 (stringToUtf16 s)
/-- a pool by its gaps: so many unusable entries, then the entry; so many at the end -/
def gap : Nat → List CpInfo → List CpInfo
  | 0, r => r
  | n + 1, r => .unusable :: gap n r
def poolList (es : List (Nat × CpInfo)) (last : Nat) : List CpInfo := es.foldr (fun e r => gap e.1 (e.2 :: r)) (gap last [])
def pool (es : List (Nat × CpInfo)) (last : Nat) : Array CpInfo := ⟨poolList es last⟩
def fileOf (pool : Array CpInfo) (this : Nat) (attrs : Array Attribute := #[]) (ms : Array MethodInfo := #[]) (fl : Nat := 33) (sup : Nat := 0) (ifs : Array Nat := #[]) (fds : Array FieldInfo := #[]) : ClassFile where
  minorVersion := 0
  majorVersion := 65
  constantPool := pool
  accessFlags := fl
  thisClass := this
  superClass := sup
  interfaces := ifs
  fields := fds
  methods := ms
  attributes := attrs
def plain (name : String) (sup : Option ClassId) : Class where
  name := name
  kind := .ordinary
  loader := none
  accessFlags := 33
  super := sup
  interfaces := #[]
  cf := none
  fields := #[]
  methods := #[]
  instanceTypes := #[]
  staticTypes := #[]
  resolved := #[]
  callSites := []
  init := .initialized
  statics := none
  mirror := none

def pool0 : Array CpInfo := pool [(5, u "<init>"), (0, u "()V"), (1, .class_ 10), (1, u "java/lang/Object")] 113

def k0m0 : Method := { name := "<init>", desc := "()V", sig := { parameters := [], returnType := none }, accessFlags := 1, code := none }
/-- java/lang/Object -/
def k0 : Class := { plain "java/lang/Object" none with
  accessFlags := 33
  interfaces := #[]
  cf := some (fileOf pool0 8 #[] #[{ accessFlags := 1, nameIndex := 5, descriptorIndex := 6, attributes := #[] }] 33 0 #[] #[])
  fields := #[]
  methods := #[k0m0]
  instanceTypes := #[]
  staticTypes := #[]
  resolved := Array.replicate 124 none
  statics := none }

def pool1 : Array CpInfo := pool [(2, .class_ 4), (1, u "java/lang/Object"), (0, u "<init>"), (0, u "()V"), (0, .methodref 8 9), (0, .class_ 10), (0, .nameAndType 11 12), (0, u "com/example/garter/garter/schema/Identifier"), (0, u "isBare"), (0, u "(C)Z"), (0, .class_ 14), (0, u "com/example/garter/garter/schema/IdentifierIsBarePinLaw"), (2, u "law"), (0, u "(I)Z")] 3

def k1m0 : Method := { name := "<init>", desc := "()V", sig := { parameters := [], returnType := none }, accessFlags := 2, code := none }
def k1c1 : Code := { maxStack := 2, maxLocals := 5, code := code, exceptionTable := #[], attributes := #[] }
def k1m1 : Method := { name := "law", desc := "(I)Z", sig := { parameters := [.int], returnType := some .boolean }, accessFlags := 9, code := some k1c1 }
/-- com/example/garter/garter/schema/IdentifierIsBarePinLaw -/
def k1 : Class := { plain "com/example/garter/garter/schema/IdentifierIsBarePinLaw" (some 0) with
  accessFlags := 49
  interfaces := #[]
  cf := some (fileOf pool1 13 #[] #[{ accessFlags := 2, nameIndex := 5, descriptorIndex := 6, attributes := #[] }, { accessFlags := 9, nameIndex := 17, descriptorIndex := 18, attributes := #[] }] 49 2 #[] #[])
  fields := #[]
  methods := #[k1m0, k1m1]
  instanceTypes := #[]
  staticTypes := #[]
  resolved := Array.replicate 22 none
  statics := none }

def pool2 : Array CpInfo := pool [(2, .class_ 4), (1, u "java/lang/Object"), (0, u "<init>"), (0, u "()V"), (27, .class_ 36), (1, u "com/example/garter/garter/schema/Identifier"), (0, u "isBare"), (0, u "(C)Z"), (55, u "QUOTE"), (0, u "C"), (2, u "MAX_LENGTH"), (0, u "I")] 31

def k2m0 : Method := { name := "<init>", desc := "()V", sig := { parameters := [], returnType := none }, accessFlags := 2, code := none }
def k2c1 : Code := { maxStack := 2, maxLocals := 3, code := prog_112_method_6_code, exceptionTable := #[], attributes := #[] }
def k2m1 : Method := { name := "isBare", desc := "(C)Z", sig := { parameters := [.char], returnType := some .boolean }, accessFlags := 9, code := some k2c1 }
/-- com/example/garter/garter/schema/Identifier -/
def k2 : Class := { plain "com/example/garter/garter/schema/Identifier" (some 0) with
  accessFlags := 49
  interfaces := #[]
  cf := some (fileOf pool2 34 #[] #[{ accessFlags := 2, nameIndex := 5, descriptorIndex := 6, attributes := #[] }, { accessFlags := 9, nameIndex := 37, descriptorIndex := 38, attributes := #[] }] 49 2 #[] #[{ accessFlags := 25, nameIndex := 94, descriptorIndex := 95, attributes := #[] }, { accessFlags := 25, nameIndex := 98, descriptorIndex := 99, attributes := #[] }])
  fields := #[{ name := "QUOTE", type := .char, accessFlags := 25, slot := 0, constantValue := 0 }, { name := "MAX_LENGTH", type := .int, accessFlags := 25, slot := 1, constantValue := 0 }]
  methods := #[k2m0, k2m1]
  instanceTypes := #[]
  staticTypes := #[.char, .int]
  resolved := Array.replicate 131 none
  statics := none }

def pool3 : Array CpInfo := pool [(1, u "java/lang/Cloneable"), (0, .class_ 1), (0, u "java/lang/Object"), (0, .class_ 3)] 3

/-- java/lang/Cloneable -/
def k3 : Class := { plain "java/lang/Cloneable" (some 0) with
  accessFlags := 1537
  interfaces := #[]
  cf := some (fileOf pool3 2 #[] #[] 1537 4 #[] #[])
  fields := #[]
  methods := #[]
  instanceTypes := #[]
  staticTypes := #[]
  resolved := Array.replicate 8 none
  statics := none }

def pool4 : Array CpInfo := pool [(1, u "java/io/Serializable"), (0, .class_ 1), (0, u "java/lang/Object"), (0, .class_ 3)] 3

/-- java/io/Serializable -/
def k4 : Class := { plain "java/io/Serializable" (some 0) with
  accessFlags := 1537
  interfaces := #[]
  cf := some (fileOf pool4 2 #[] #[] 1537 4 #[] #[])
  fields := #[]
  methods := #[]
  instanceTypes := #[]
  staticTypes := #[]
  resolved := Array.replicate 8 none
  statics := none }

/-- the primitive byte -/
def k5 : Class := { plain "byte" none with kind := .primitive 'B', accessFlags := 0x411 }
/-- [B -/
def k6 : Class := { plain "[B" (some 0) with kind := .array 5 .byte, interfaces := #[3, 4], accessFlags := 1041 }

/-- the primitive int -/
def k7 : Class := { plain "int" none with kind := .primitive 'I', accessFlags := 0x411 }
/-- [I -/
def k8 : Class := { plain "[I" (some 0) with kind := .array 7 .int, interfaces := #[3, 4], accessFlags := 1041 }

def heap : Heap := #[]
def classes : Array Class := #[k0, k1, k2, k3, k4, k5, k6, k7, k8]
def interned : List (Array UInt16 × Addr) := []
def slotsUsed : Nat := 0
def theMethod : MethodId := ⟨1, 1⟩
def args0 : Array Value := #[.int 65]
def aboutOver (below : List Frame) : State where
  vm := { classes := classes, interned := interned.toArray }
  heap := heap
  slotsUsed := slotsUsed
  threads := #[{ frames := .invoking theMethod args0 :: below }]
def below0 : List Frame := [.native { method := ⟨0, 0⟩, args := #[] }]
def about1 : State := aboutOver below0
def p0 : Program := .bare "" "" ""
def e0 : Env := launch0.env 0 0 0
theorem w_frames : about1.frames = Frame.invoking theMethod args0 :: below0 := rfl
set_option maxRecDepth 65536 in
theorem w_args : argsFit about1.vm theMethod args0 = true := by decide +kernel
set_option maxRecDepth 65536 in
theorem w_heap : heapFits about1 = true := by decide +kernel
set_option maxRecDepth 65536 in
theorem w_runnable : about1.curStatus? = some .runnable := by decide +kernel
set_option maxRecDepth 65536 in
theorem w_alone : about1.alone = true := by decide +kernel
set_option maxRecDepth 65536 in
theorem w_named : about1.methodNamed? x = some theMethod := by decide +kernel
set_option maxRecDepth 65536 in
theorem w_hears : about1.hears theMethod below0 = true := by decide +kernel
set_option maxRecDepth 65536 in
theorem w_ripe : about1.ripe theMethod args0 below0 = true := by decide +kernel
theorem w_running : about1.status = .running := rfl
set_option maxRecDepth 65536 in
theorem w_room : about1.hasRoom e0.platform room_1 = true :=
  launch0.hasRoom_least _ room_1 (by decide +kernel) (by decide +kernel) (by decide +kernel) (by decide +kernel) (by decide +kernel) (by decide +kernel)
theorem allAtoms_all (ts : List Jvm.Cond) (a : Array Jvm.Value) (st : Jvm.State) : (allAtoms ts).before a st = ts.all (fun c => c.before a st) := by
  induction ts with
  | nil => rfl
  | cons c t ih =>
    show (Jvm.Cond.and c (allAtoms t)).before a st = _
    rw [Jvm.Cond.before_and, ih, List.all_cons]
def words1 : List Jvm.Cond := Jvm.Cond.code x code maxLocals ret :: tables_1
/-- a 'code' word, met by the world's own term for the bytes: nothing is compared byte by byte -/
theorem code_word {y : MethodName} {bytes : ByteArray} {mx : Nat} {rt : Option FieldType} {a : Array Value} {s : State} {m : MethodId} {meth : Method} {c : Code} (h1 : s.methodNamed? y = some m) (h2 : s.vm.method? m = some meth) (h3 : meth.code = some c) (h4 : c.code = bytes)
    (h5 : (c.maxLocals == mx && c.exceptionTable.isEmpty && decide (c.maxStack ≤ mostOperands) && decide (meth.sig.returnType = rt) && !meth.locks && decide (parseMethodDescriptor y.desc = some meth.sig)) = true) : (Jvm.Cond.code y bytes mx rt).before a s = true := by
  simp only [Bool.and_eq_true, beq_iff_eq, Bool.not_eq_true', decide_eq_true_eq] at h5
  obtain ⟨⟨⟨⟨⟨g1, g2⟩, g3⟩, g4⟩, g5⟩, g6⟩ := h5
  simp [Cond.before, Cond.holds, Cond.value, h1, h2, h3, h4, g1, g2, g3, g4, g5, g6]
def isCode : Jvm.Cond → Bool
  | .code _ _ _ _ => true
  | _ => false
theorem all_split {L : List Jvm.Cond} {P : Jvm.Cond → Bool} (h1 : L.all (fun c => isCode c || P c) = true) (h2 : ∀ c ∈ L.filter isCode, P c = true) : L.all P = true := by
  refine List.all_eq_true.mpr fun c hc => ?_
  have h := List.all_eq_true.mp h1 c hc
  rcases Bool.eq_false_or_eq_true (isCode c) with hi | hi
  · exact h2 c (List.mem_filter.mpr ⟨hc, hi⟩)
  · simpa [hi] using h
set_option maxRecDepth 65536 in
theorem w_c0 : (Jvm.Cond.code x code maxLocals ret).before args0 about1 = true := code_word (m := ⟨1, 1⟩) (meth := k1m1) (c := k1c1) (by decide +kernel) rfl rfl rfl (by decide +kernel)
set_option maxRecDepth 65536 in
theorem w_c1 : (Jvm.Cond.code ({ cls := "com/example/garter/garter/schema/Identifier", name := "isBare", desc := "(C)Z" } : Jvm.MethodName) prog_112_method_6_code (3 : Nat) (Option.some Jvm.ClassFile.FieldType.boolean)).before args0 about1 = true := code_word (m := ⟨2, 1⟩) (meth := k2m1) (c := k2c1) (by decide +kernel) rfl rfl rfl (by decide +kernel)
def codes1 : List Jvm.Cond := [Jvm.Cond.code x code maxLocals ret, Jvm.Cond.code ({ cls := "com/example/garter/garter/schema/Identifier", name := "isBare", desc := "(C)Z" } : Jvm.MethodName) prog_112_method_6_code (3 : Nat) (Option.some Jvm.ClassFile.FieldType.boolean)]
set_option maxRecDepth 65536 in
theorem codes_eq : words1.filter isCode = codes1 := rfl
theorem w_codes : ∀ c ∈ words1.filter isCode, c.before args0 about1 = true := by
  rw [codes_eq]
  intro c hc
  simp only [codes1, List.mem_cons, List.not_mem_nil, or_false] at hc
  rcases hc with rfl | rfl
  · exact w_c0
  · exact w_c1
set_option maxRecDepth 65536 in
theorem w_t1 : words1.all (fun c => isCode c || c.before args0 about1) = true := by decide +kernel
theorem w_tables : (allAtoms (Jvm.Cond.code x code maxLocals ret :: tables_1)).before args0 about1 = true := by
  rw [allAtoms_all]
  show words1.all (fun c => c.before args0 about1) = true
  refine all_split ?_ w_codes
  rw [w_t1]
set_option maxRecDepth 65536 in
theorem w_case : (Jvm.Cond.and given_1 narrow_1).before args0 about1 = true := by decide +kernel
theorem w_applies : (headSpec (Jvm.Cond.code x code maxLocals ret :: tables_1) room_1).applies x e0.platform about1 = true :=
  (Spec.applies_iff w_frames).mpr ⟨w_running, w_runnable, w_alone, w_named, w_hears, w_ripe, w_room, w_tables⟩
theorem atStart : AtStart classFile x code maxLocals ret World_1 tables_1 room_1 Calls_1 rest_1 Pre_1 launch0 p0 e0 about1 theMethod args0 below0 :=
  ⟨lists_1, trivial, launch0.admits_env _ _ _, launch0.least_env, fairChoices_fair.cas, fairChoices_fair.clock, w_frames, w_args, w_heap, w_applies, trivial, trivial, w_case⟩
end start1
theorem witness_1 : WitnessClaimed_1 := ⟨start1.p0, start1.e0, start1.about1, start1.theMethod, start1.args0, start1.below0, start1.atStart⟩
end Jvm.Pilot.@@N@@
