import JvmDerived
import JvmDerived.Pilot.@@N@@Statement
import JvmDerived.Pilot.@@N@@Code
set_option linter.unusedVariables false
set_option linter.unusedSimpArgs false
namespace Jvm.RoadKit
open Sem ClassFile Op Lib Jvm.Stand Jvm.Free Jvm.LawKit
section New
variable {p : Program} {l : Launch} {e : Env} {R : Room} {s : State} {m : MethodId} {args : Array Value} {below : List Frame} {meth : Method} {c : Code} {T : State} {locs : List Loc} {cells slots : Nat}
theorem retI (X : Stand p l e R s m args below meth c T locs cells slots) (hx : p.tables.exec = Jvm.exec) {pc : Nat} {Ls : Array Slot} {z : Int32} {rest : List Value} (hret : meth.sig.returnType = some .int) (hd : decode c.code pc = .ok (.ireturn, 1)) {fs : List Frame}
    (hl : ∀ (f : JFrame) (acts : List Action), f.method = m → f.locked = none → f.entered = [] → (doReturn e (T.setTop f) acts (some (.int z))).1 = T.setFrames fs) : Steps p.tables e below (T.setTop (mkF m pc Ls (.int z :: rest))) (T.setFrames fs) := by
  have hm' : T.vm.method? m = some meth := X.method'
  have hn : narrow .int (.int z) = .int z := rfl
  show Steps p.tables e below (T.setTop { method := m, pc := pc, locals := Ls, stack := _ :: rest, locked := none }) _
  jvm_step X.here [X.here.top, hx, hd, hm', hret, hn]
  first | (intro acts; rw [hl _ acts rfl rfl rfl]) | rw [hl _ _ rfl rfl rfl]
  exact Steps.refl _
end New
end Jvm.RoadKit
namespace Jvm.FP.Core.OwnQ
open Jvm Jvm.ClassFile Sem Op Lib Jvm.RoadKit
/-- a datum that is worth (-1)^s * m * 2^e -/
def Val (s : Bool) (m : Nat) (e : Int) (d : Datum) : Prop := ∃ c q, d = .fin s c q ∧ c * 2 ^ (q - e).toNat = m * 2 ^ (e - q).toNat
theorem cancel {a b X Y t : Nat} (h : a * 2 ^ (X + t) = b * 2 ^ (Y + t)) : a * 2 ^ X = b * 2 ^ Y := by
  rw [Nat.pow_add, Nat.pow_add, ← Nat.mul_assoc, ← Nat.mul_assoc] at h
  exact Nat.eq_of_mul_eq_mul_right (Nat.two_pow_pos t) h
theorem Val.round {f : Fmt} {s : Bool} {m : Nat} {e : Int} {d : Datum} (h : Val s m e d) : round f d = roundRatio f s m 1 e := by
  obtain ⟨c, q, rfl, hv⟩ := h
  show roundRatio f s c 1 q = _
  exact roundRatio_congr (by decide) (by decide) (by rw [Nat.mul_one, Nat.mul_one]; exact hv)
theorem Val.self (s : Bool) (c : Nat) (q : Int) : Val s c q (.fin s c q) := ⟨c, q, rfl, rfl⟩
theorem Val.ne_nan {s : Bool} {m : Nat} {e : Int} {d : Datum} (h : Val s m e d) : d ≠ .nan := by
  obtain ⟨c, q, rfl, -⟩ := h; intro q; cases q
theorem Val.mul {s t : Bool} {m n : Nat} {e r : Int} {x y : Datum} (hx : Val s m e x) (hy : Val t n r y) : Val (s != t) (m * n) (e + r) (exactProduct x y) := by
  obtain ⟨c, q, rfl, h1⟩ := hx
  obtain ⟨d, u, rfl, h2⟩ := hy
  refine ⟨c * d, q + u, rfl, ?_⟩
  have h := congr (congrArg HMul.hMul h1) h2
  have l : c * 2 ^ (q - e).toNat * (d * 2 ^ (u - r).toNat) = c * d * 2 ^ ((q - e).toNat + (u - r).toNat) := by rw [Nat.pow_add]; ac_rfl
  have l' : m * 2 ^ (e - q).toNat * (n * 2 ^ (r - u).toNat) = m * n * 2 ^ ((e - q).toNat + (r - u).toNat) := by rw [Nat.pow_add]; ac_rfl
  rw [l, l'] at h
  refine cancel (t := (q - e).toNat + (u - r).toNat - (q + u - (e + r)).toNat) ?_
  have e1 : (q + u - (e + r)).toNat + ((q - e).toNat + (u - r).toNat - (q + u - (e + r)).toNat) = (q - e).toNat + (u - r).toNat := by omega
  have e2 : (e + r - (q + u)).toNat + ((q - e).toNat + (u - r).toNat - (q + u - (e + r)).toNat) = (e - q).toNat + (r - u).toNat := by omega
  rw [e1, e2]; exact h
theorem Val.zval {s : Bool} {m : Nat} {e : Int} {d : Datum} (h : Val s m e d) (hf : fits b64 d) (he : -1074 ≤ e) : zval b64 d = signed s (m * 2 ^ (e + 1074).toNat) := by
  obtain ⟨c, q, rfl, hv⟩ := h
  have hq : (-1074 : Int) ≤ q := hf.2.1
  have hqm : b64.qmin = -1074 := by decide
  show signed s (c * 2 ^ (q - b64.qmin).toNat) = _
  rw [hqm]
  have k : c * 2 ^ (q - -1074).toNat = m * 2 ^ (e + 1074).toNat := by
    have e1 : (q - -1074).toNat = (q - e).toNat + (min q e + 1074).toNat := by omega
    have e2 : (e + 1074).toNat = (e - q).toNat + (min q e + 1074).toNat := by omega
    rw [e1, e2, Nat.pow_add, Nat.pow_add, ← Nat.mul_assoc, ← Nat.mul_assoc, hv]
  rw [k]
theorem exact64 {s : Bool} {m : Nat} {e : Int} (h1 : m < 2 ^ 53) (h2 : -1021 ≤ e) (h3 : e ≤ 971) : Val s m e (roundRatio b64 s m 1 e) := by
  by_cases h0 : m = 0
  · subst h0
    refine ⟨0, b64.qmin, ?_, by rw [Nat.zero_mul, Nat.zero_mul]⟩
    unfold roundRatio; rw [if_pos rfl]
  · have hl : m.log2 < 53 := (Nat.log2_lt h0).mpr h1
    have a1 : 2 ^ m.log2 ≤ m := Nat.log2_self_le h0
    have a2 : m < 2 ^ (m.log2 + 1) := Nat.lt_log2_self
    have p52 : m.log2 + (52 - m.log2) = 52 := by omega
    have p53 : m.log2 + 1 + (52 - m.log2) = 53 := by omega
    have hd : fits b64 (.fin s (m * 2 ^ (52 - m.log2)) (e - (52 - m.log2 : Nat))) := by
      refine ⟨?_, ?_, ?_, Or.inr ?_⟩
      · show m * 2 ^ (52 - m.log2) < 2 ^ 53
        rw [← p53, Nat.pow_add]
        exact Nat.mul_lt_mul_of_pos_right a2 (Nat.two_pow_pos _)
      · show b64.qmin ≤ _
        rw [show b64.qmin = -1074 by decide]; omega
      · show _ ≤ b64.qmax
        rw [show b64.qmax = 971 by decide]; omega
      · show 2 ^ 52 ≤ m * 2 ^ (52 - m.log2)
        calc 2 ^ 52 = 2 ^ m.log2 * 2 ^ (52 - m.log2) := by rw [← Nat.pow_add, p52]
          _ ≤ m * 2 ^ (52 - m.log2) := Nat.mul_le_mul_right _ a1
    have hr : roundRatio b64 s m 1 e = .fin s (m * 2 ^ (52 - m.log2)) (e - (52 - m.log2 : Nat)) := by
      refine roundRatio_exact good_b64 (by decide) hd ?_
      have z1 : (e - (e - (52 - m.log2 : Nat))).toNat = 52 - m.log2 := by omega
      have z2 : (e - (52 - m.log2 : Nat) - e).toNat = 0 := by omega
      rw [z1, z2]; simp
    rw [hr]
    refine ⟨_, _, rfl, ?_⟩
    have z1 : (e - (e - (52 - m.log2 : Nat))).toNat = 52 - m.log2 := by omega
    have z2 : (e - (52 - m.log2 : Nat) - e).toNat = 0 := by omega
    rw [z1, z2]; simp
abbrev sg (a : Int32) : Bool := decide (a.toInt < 0)
abbrev mg (a : Int32) : Nat := a.toInt.natAbs
theorem mg_le (a : Int32) : mg a ≤ 2 ^ 31 := by have := rng32 a; unfold mg; omega
theorem i2d_val (a : Int32) : Val (sg a) (mg a) 0 (val64 (i2d a)) := by
  rw [i2d_l2d]
  have hs : Small53 a.toInt64 := by unfold Small53; rw [Int32.toInt_toInt64]; have := rng32 a; omega
  obtain ⟨c, q, h⟩ := l2d_shape a.toInt64
  have hw := l2d_whole hs
  rw [h] at hw ⊢
  have k := whole_natAbs hw
  rw [Int32.toInt_toInt64] at k ⊢
  exact ⟨c, q, rfl, by rw [Int.sub_zero, Int.zero_sub]; exact k⟩
theorem i2f_val {a : Int32} (h : mg a ≤ 2 ^ 24) : Val (sg a) (mg a) 0 (val32 (i2f a)) := by
  rw [i2f_l2f]
  obtain ⟨c, q, hh⟩ := l2f_shape a.toInt64
  have hw : Whole a.toInt64.toInt (val32 (l2f a.toInt64)) := l2f_int (by rw [Int32.toInt_toInt64]; exact h)
  rw [hh] at hw ⊢
  have k := whole_natAbs hw
  rw [Int32.toInt_toInt64] at k ⊢
  exact ⟨c, q, rfl, by rw [Int.sub_zero, Int.zero_sub]; exact k⟩
theorem bne_false (s : Bool) : (s != false) = s := by cases s <;> rfl
theorem dmul_val {a : Int32} {K : UInt64} {k : Int} (hK : Val false 1 k (val64 K)) (h1 : -1021 ≤ k) (h2 : k ≤ 971) : Val (sg a) (mg a) k (val64 (dmul (i2d a) K)) := by
  rw [val64_dmul, ((i2d_val a).mul hK).round, bne_false, Nat.mul_one, Int.zero_add]
  exact exact64 (by have := mg_le a; omega) h1 h2
theorem fmul_val {a : Int32} {K : UInt32} {k : Int} (h : mg a ≤ 2 ^ 24) (hK : Val false 1 k (val32 K)) : val32 (fmul (i2f a) K) = roundRatio b32 (sg a) (mg a) 1 k := by
  rw [val32_fmul, ((i2f_val h).mul hK).round, bne_false, Nat.mul_one, Int.zero_add]
theorem d2f_val {s : Bool} {m : Nat} {e : Int} {d : UInt64} (h : Val s m e (val64 d)) : val32 (d2f d) = roundRatio b32 s m 1 e := by rw [val32_d2f, h.round]
theorem rr_ne_nan (f : Fmt) (s : Bool) (m : Nat) (e : Int) : roundRatio f s m 1 e ≠ .nan := by
  rcases roundRatio_cases f s m 1 e with ⟨c, q, h⟩ | h <;> rw [h] <;> intro q <;> cases q
/-- small whole numbers times a power of two: both roads are exact up to one rounding -/
theorem d2f_fmul {a : Int32} {D : UInt64} {F : UInt32} {k : Int} (h : mg a ≤ 2 ^ 24) (hD : Val false 1 k (val64 D)) (hF : Val false 1 k (val32 F)) (h1 : -1021 ≤ k) (h2 : k ≤ 971) : d2f (dmul (i2d a) D) = fmul (i2f a) F := by
  have e1 := d2f_val (dmul_val (a := a) hD h1 h2)
  refine val32_inj (by rw [e1]; exact rr_ne_nan _ _ _ _) (by rw [e1, fmul_val h hF])
theorem lead_rng {m : Nat} (h0 : 0 < m) (h1 : m ≤ 2 ^ 31) : 0 ≤ leading m 1 ∧ leading m 1 ≤ 31 := by
  obtain ⟨a, b⟩ := leading_spec h0 (B := 1) (by decide)
  have z : ¬ Below m 1 0 := by unfold Below; simp; omega
  have y : Below m 1 32 := by
    show m * 2 ^ (-(32 : Int)).toNat < 1 * 2 ^ (32 : Int).toNat
    have : (-(32 : Int)).toNat = 0 := by decide
    have t : (32 : Int).toNat = 32 := by decide
    rw [this, t]; omega
  have l1 := lt_of_below z b
  have l2 := lt_of_below a y
  omega
theorem shift {s : Bool} {m c : Nat} {q k : Int} (h0 : 0 < m) (h1 : m ≤ 2 ^ 31) (k1 : -126 ≤ k) (k2 : k ≤ 96) (h : roundRatio b32 s m 1 0 = .fin s c q) : roundRatio b32 s m 1 k = .fin s c (q + k) := by
  have hl := lead_rng h0 h1
  have qm : b32.qmin = -149 := by decide
  have qx : b32.qmax = 104 := by decide
  have hp : (b32.p : Int) = 24 := by decide
  have nz : ¬ m = 0 := by omega
  have q0 : quantum b32 m 1 0 = leading m 1 - 23 := by unfold quantum; rw [qm, hp]; omega
  have qk : quantum b32 m 1 k = leading m 1 - 23 + k := by unfold quantum; rw [qm, hp]; omega
  unfold roundRatio at h ⊢
  rw [if_neg nz] at h ⊢
  rw [q0] at h; rw [qk]
  unfold roundAt at h ⊢
  have u1 : unitsNum m k (leading m 1 - 23 + k) = unitsNum m 0 (leading m 1 - 23) := by
    unfold unitsNum; rw [show k - (leading m 1 - 23 + k) = 0 - (leading m 1 - 23) by omega]
  have u2 : unitsDen 1 k (leading m 1 - 23 + k) = unitsDen 1 0 (leading m 1 - 23) := by
    unfold unitsDen; rw [show leading m 1 - 23 + k - k = leading m 1 - 23 - 0 by omega]
  rw [u1, u2]
  have big : leading m 1 = 31 → nearest (unitsNum m 0 (leading m 1 - 23)) (unitsDen 1 0 (leading m 1 - 23)) < 2 ^ 24 := fun hh => by
    have g : ¬ Below m 1 31 := hh ▸ (leading_spec h0 (B := 1) (by decide)).1
    have g' : 2 ^ 31 ≤ m := by
      unfold Below at g
      have t1 : (-(31 : Int)).toNat = 0 := by decide
      have t2 : (31 : Int).toNat = 31 := by decide
      rw [t1, t2] at g; omega
    have : m = 2 ^ 31 := Nat.le_antisymm h1 g'
    rw [hh, this]; decide +kernel
  generalize nearest (unitsNum m 0 (leading m 1 - 23)) (unitsDen 1 0 (leading m 1 - 23)) = N at *
  unfold settle at h ⊢
  by_cases hN : N < 2 ^ b32.p
  · rw [if_pos hN] at h ⊢
    unfold bound at h ⊢
    rw [qx] at h ⊢
    rw [if_pos (by omega)] at h ⊢
    cases h; rfl
  · rw [if_neg hN] at h ⊢
    have h31 : ¬ leading m 1 = 31 := fun hh => hN (big hh)
    unfold bound at h ⊢
    rw [qx] at h ⊢
    rw [if_pos (by omega)] at h ⊢
    cases h
    rw [show leading m 1 - 23 + k + 1 = leading m 1 - 23 + 1 + k by omega]
theorem d2f_fmul_any {a : Int32} {D : UInt64} {F : UInt32} {k : Int} (ha : ¬ a = 0) (hD : Val false 1 k (val64 D)) (hF : Val false 1 k (val32 F)) (k1 : -126 ≤ k) (k2 : k ≤ 96) : d2f (dmul (i2d a) D) = fmul (i2f a) F := by
  have e1 := d2f_val (dmul_val (a := a) hD (by omega) (by omega))
  have h0 : 0 < mg a := by
    unfold mg
    have : ¬ a.toInt = 0 := fun q => ha (Int32.toInt_inj.mp q)
    omega
  refine val32_inj (by rw [e1]; exact rr_ne_nan _ _ _ _) ?_
  rw [e1]
  have e2 : val32 (i2f a) = roundRatio b32 (sg a) (mg a) 1 0 := val32_i2f a
  rcases roundRatio_cases b32 (sg a) (mg a) 1 0 with ⟨c, q, h⟩ | h
  · rw [shift h0 (mg_le a) k1 k2 h]
    have hfit : fits b32 (.fin (sg a) c (q + k)) := by
      have := roundRatio_fits good_b32 (sg a) (mg a) (B := 1) (by decide) k
      rw [shift h0 (mg_le a) k1 k2 h] at this; exact this
    rw [val32_fmul, e2, h, ((Val.self (sg a) c q).mul hF).round, bne_false, Nat.mul_one]
    exact (round_of_fits good_b32 hfit).symm
  · exfalso
    have hl := lead_rng h0 (mg_le a)
    unfold roundRatio at h
    rw [if_neg (by omega)] at h
    unfold roundAt settle bound at h
    have qm : b32.qmin = -149 := by decide
    have qx : b32.qmax = 104 := by decide
    have hp : (b32.p : Int) = 24 := by decide
    have q0 : quantum b32 (mg a) 1 0 = leading (mg a) 1 - 23 := by unfold quantum; rw [qm, hp]; omega
    rw [q0, qx] at h
    split at h
    · rw [if_pos (by omega)] at h; cases h
    · rw [if_pos (by omega)] at h; cases h
/-! the comparison with the greatest float -/
abbrev MX : UInt64 := 5183643170566569984
abbrev NX : UInt64 := 14407015207421345792
theorem mx_z : zval b64 (val64 MX) = ((16777215 * 2 ^ 1178 : Nat) : Int) := by decide +kernel
theorem nx_z : zval b64 (val64 NX) = -((16777215 * 2 ^ 1178 : Nat) : Int) := by decide +kernel
theorem mx_n : val64 MX ≠ .nan := by decide +kernel
theorem nx_n : val64 NX ≠ .nan := by decide +kernel
theorem signed_rng (s : Bool) (n : Nat) : -(n : Int) ≤ signed s n ∧ signed s n ≤ n := by unfold signed; cases s <;> simp <;> omega
theorem cmp_int (a b : Int) : compare a b = if a < b then .lt else if a = b then .eq else .gt := rfl
theorem mid {s : Bool} {m : Nat} {e : Int} {d : UInt64} (h : Val s m e (val64 d)) (he : -1074 ≤ e) (hb : m * 2 ^ (e + 1074).toNat ≤ 16777215 * 2 ^ 1178) :
    ¬ (0 : Int32) < cmpValue (FP.dcmp d MX) .l ∧ ¬ cmpValue (FP.dcmp d NX) .g < (0 : Int32) := by
  have z := h.zval (val64_fits d) he
  have r := signed_rng s (m * 2 ^ (e + 1074).toNat)
  have c1 : FP.dcmp d MX = _ := dcmp_zval h.ne_nan mx_n
  have c2 : FP.dcmp d NX = _ := dcmp_zval h.ne_nan nx_n
  rw [c1, c2, z, mx_z, nx_z, cmp_int, cmp_int]
  generalize signed s (m * 2 ^ (e + 1074).toNat) = v at *
  generalize (m * 2 ^ (e + 1074).toNat) = w at *
  generalize (16777215 * 2 ^ 1178 : Nat) = M at *
  have q1 : ¬ (M : Int) < v := by omega
  have q2 : ¬ v < -(M : Int) := by omega
  constructor
  · by_cases a1 : v < (M : Int)
    · rw [if_pos a1]; decide
    · rw [if_neg a1, if_pos (by omega)]; decide
  · rw [if_neg q2]
    by_cases a1 : v = -(M : Int)
    · rw [if_pos a1]; decide
    · rw [if_neg a1]; decide
theorem hi {m : Nat} {e : Int} {d : UInt64} (h : Val false m e (val64 d)) (he : -1074 ≤ e) (hb : 16777215 * 2 ^ 1178 < m * 2 ^ (e + 1074).toNat) : (0 : Int32) < cmpValue (FP.dcmp d MX) .l := by
  have z := h.zval (val64_fits d) he
  have c1 : FP.dcmp d MX = _ := dcmp_zval h.ne_nan mx_n
  rw [c1, z, mx_z, cmp_int]
  have e1 : signed false (m * 2 ^ (e + 1074).toNat) = ((m * 2 ^ (e + 1074).toNat : Nat) : Int) := rfl
  rw [e1]
  generalize (m * 2 ^ (e + 1074).toNat) = w at *
  generalize (16777215 * 2 ^ 1178 : Nat) = M at *
  rw [if_neg (by omega), if_neg (by omega)]; decide
theorem lo {m : Nat} {e : Int} {d : UInt64} (h : Val true m e (val64 d)) (he : -1074 ≤ e) (hb : 16777215 * 2 ^ 1178 < m * 2 ^ (e + 1074).toNat) : ¬ (0 : Int32) < cmpValue (FP.dcmp d MX) .l ∧ cmpValue (FP.dcmp d NX) .g < (0 : Int32) := by
  have z := h.zval (val64_fits d) he
  have c1 : FP.dcmp d MX = _ := dcmp_zval h.ne_nan mx_n
  have c2 : FP.dcmp d NX = _ := dcmp_zval h.ne_nan nx_n
  have e1 : signed true (m * 2 ^ (e + 1074).toNat) = -((m * 2 ^ (e + 1074).toNat : Nat) : Int) := rfl
  rw [c1, c2, z, mx_z, nx_z, cmp_int, cmp_int, e1]
  generalize (m * 2 ^ (e + 1074).toNat) = w at *
  generalize (16777215 * 2 ^ 1178 : Nat) = M at *
  constructor
  · rw [if_pos (by omega)]; decide
  · rw [if_pos (by omega)]; decide
/-- what narrow returns -/
def nw (d : UInt64) : UInt32 := if (0 : Int32) < cmpValue (FP.dcmp d MX) .l then 2139095040 else if cmpValue (FP.dcmp d NX) .g < (0 : Int32) then 4286578688 else FP.d2f d
theorem same {x : UInt32} (h : val32 x ≠ .nan) : cmpValue (FP.fcmp x x) .l = 0 := by
  have c : FP.fcmp x x = some .eq := fcmp_refl ((notNaN_iff32 x).mpr h)
  rw [c]; rfl
def Good0 (d : UInt64) (x : UInt32) : Prop := Jvm.Free.Fl.NoNaN64 d ∧ cmpValue (FP.fcmp (nw d) x) .l = 0
theorem by_mid {s : Bool} {m : Nat} {e : Int} {d : UInt64} {x : UInt32} (h : Val s m e (val64 d)) (he : -1074 ≤ e) (hb : m * 2 ^ (e + 1074).toNat ≤ 16777215 * 2 ^ 1178) (hx : d2f d = x) : Good0 d x := by
  refine ⟨Jvm.Free.Fl.val64_no.mpr h.ne_nan, ?_⟩
  have q := mid h he hb
  unfold nw
  rw [if_neg q.1, if_neg q.2, show FP.d2f d = d2f d from FP.d2f_core ((notNaN_iff d).mpr h.ne_nan), ← hx]
  exact same (by rw [d2f_val h]; exact rr_ne_nan _ _ _ _)
theorem by_hi {m : Nat} {e : Int} {d : UInt64} (h : Val false m e (val64 d)) (he : -1074 ≤ e) (hb : 16777215 * 2 ^ 1178 < m * 2 ^ (e + 1074).toNat) : Good0 d 2139095040 := by
  refine ⟨Jvm.Free.Fl.val64_no.mpr h.ne_nan, ?_⟩
  unfold nw; rw [if_pos (hi h he hb)]; decide +kernel
theorem by_lo {m : Nat} {e : Int} {d : UInt64} (h : Val true m e (val64 d)) (he : -1074 ≤ e) (hb : 16777215 * 2 ^ 1178 < m * 2 ^ (e + 1074).toNat) : Good0 d 4286578688 := by
  refine ⟨Jvm.Free.Fl.val64_no.mpr h.ne_nan, ?_⟩
  have q := lo h he hb
  unfold nw; rw [if_neg q.1, if_pos q.2]; decide +kernel
theorem bnd {m a k : Nat} (h : m ≤ a) (hb : a * 2 ^ k ≤ 16777215 * 2 ^ 1178) : m * 2 ^ k ≤ 16777215 * 2 ^ 1178 := Nat.le_trans (Nat.mul_le_mul_right _ h) hb
theorem bndL {m a k : Nat} (h : a ≤ m) (hb : 16777215 * 2 ^ 1178 < a * 2 ^ k) : 16777215 * 2 ^ 1178 < m * 2 ^ k := Nat.lt_of_lt_of_le hb (Nat.mul_le_mul_right _ h)
/-! the modes -/
theorem mode0 (a : Int32) : Good0 (FP.i2d a) (FP.i2f a) := by
  refine by_mid (i2d_val a) (by decide) (bnd (mg_le a) (by decide +kernel)) ?_
  show d2f (i2d a) = i2f a
  rw [i2d_l2d, i2f_l2f]
  exact d2f_l2d (by rw [Int32.toInt_toInt64]; have := mg_le a; unfold mg at this; omega)
theorem D96 : Val false 1 96 (val64 5039527983027585024) := ⟨2 ^ 52, 44, by decide +kernel, by decide +kernel⟩
theorem F96 : Val false 1 96 (val32 1870659584) := ⟨2 ^ 23, 73, by decide +kernel, by decide +kernel⟩
theorem Dm100 : Val false 1 (-100) (val64 4156822456062967808) := ⟨2 ^ 52, -152, by decide +kernel, by decide +kernel⟩
theorem Fm100 : Val false 1 (-100) (val32 226492416) := ⟨2 ^ 23, -123, by decide +kernel, by decide +kernel⟩
theorem Dm149 : Val false 1 (-149) (val64 3936146074321813504) := ⟨2 ^ 52, -201, by decide +kernel, by decide +kernel⟩
theorem Fm149 : Val false 1 (-149) (val32 1) := ⟨1, -149, by decide +kernel, by decide +kernel⟩
theorem D120 : Val false 1 120 (val64 5147614374084476928) := ⟨2 ^ 52, 68, by decide +kernel, by decide +kernel⟩
theorem F120 : Val false 1 120 (val32 2071986176) := ⟨2 ^ 23, 97, by decide +kernel, by decide +kernel⟩
theorem D75 : Val false 1 75 (val64 4944952390852804608) := ⟨2 ^ 52, 23, by decide +kernel, by decide +kernel⟩
theorem mode1 (a : Int32) : Good0 (FP.dmul (FP.i2d a) 5039527983027585024) (FP.fmul (FP.i2f a) 1870659584) := by
  refine by_mid (dmul_val D96 (by decide) (by decide)) (by decide) (bnd (mg_le a) (by decide +kernel)) ?_
  by_cases h : a = 0
  · subst h; decide +kernel
  · exact d2f_fmul_any h D96 F96 (by decide) (by decide)
theorem mode2 (a : Int32) : Good0 (FP.dmul (FP.i2d a) 4156822456062967808) (FP.fmul (FP.i2f a) 226492416) := by
  refine by_mid (dmul_val Dm100 (by decide) (by decide)) (by decide) (bnd (mg_le a) (by decide +kernel)) ?_
  by_cases h : a = 0
  · subst h; decide +kernel
  · exact d2f_fmul_any h Dm100 Fm100 (by decide) (by decide)
theorem mode3 (a : Int32) (h : mg a ≤ 2 ^ 24) : Good0 (FP.dmul (FP.i2d a) 3936146074321813504) (FP.fmul (FP.i2f a) 1) := by
  refine by_mid (dmul_val Dm149 (by decide) (by decide)) (by decide) (bnd (mg_le a) (by decide +kernel)) ?_
  exact d2f_fmul h Dm149 Fm149 (by decide) (by decide)
theorem mode4 (a : Int32) (h : mg a ≤ 255) : Good0 (FP.dmul (FP.i2d a) 5147614374084476928) (FP.fmul (FP.i2f a) 2071986176) := by
  refine by_mid (dmul_val D120 (by decide) (by decide)) (by decide) (bnd h (by decide +kernel)) ?_
  exact d2f_fmul (Nat.le_trans h (by decide)) D120 F120 (by decide) (by decide)
theorem mode4h (a : Int32) (h : 255 < a.toInt) : Good0 (FP.dmul (FP.i2d a) 5147614374084476928) 2139095040 := by
  have hv := dmul_val (a := a) D120 (by decide) (by decide)
  have hs : sg a = false := by unfold sg; exact decide_eq_false (by omega)
  rw [hs] at hv
  exact by_hi hv (by decide) (bndL (a := 256) (by unfold mg; omega) (by decide +kernel))
theorem mode4l (a : Int32) (h : a.toInt < -255) : Good0 (FP.dmul (FP.i2d a) 5147614374084476928) 4286578688 := by
  have hv := dmul_val (a := a) D120 (by decide) (by decide)
  have hs : sg a = true := by unfold sg; exact decide_eq_true (by omega)
  rw [hs] at hv
  exact by_lo hv (by decide) (bndL (a := 256) (by unfold mg; omega) (by decide +kernel))
/-! mode 5: near the greatest float -/
theorem sumC {s : Bool} {m : Nat} {y : Datum} (hy : Val s m 75 y) (hm : m < 9007198717870080) : Val false (if s then 9007198717870080 - m else 9007198717870080 + m) 75 (exactSum (.fin false 9007198717870080 75) y) := by
  obtain ⟨c, q, rfl, hv⟩ := hy
  have k : inUnits c q (min 75 q) = m * 2 ^ (75 - min 75 q).toNat := by
    unfold inUnits
    by_cases h : (75 : Int) ≤ q
    · have e1 : min 75 q = (75 : Int) := by omega
      have e2 : (75 - q).toNat = 0 := by omega
      rw [e2, Nat.pow_zero, Nat.mul_one] at hv
      rw [e1, hv]; simp
    · have e1 : min 75 q = q := by omega
      have e2 : (q - 75).toNat = 0 := by omega
      rw [e2, Nat.pow_zero, Nat.mul_one] at hv
      rw [e1, ← hv]; simp
  have kc : inUnits 9007198717870080 75 (min 75 q) = 9007198717870080 * 2 ^ (75 - min 75 q).toNat := rfl
  have pw : 0 < 2 ^ (75 - min 75 q).toNat := Nat.two_pow_pos _
  have hs : sumUnits false 9007198717870080 75 s c q (min 75 q) = (((if s then 9007198717870080 - m else 9007198717870080 + m) * 2 ^ (75 - min 75 q).toNat : Nat) : Int) := by
    unfold sumUnits
    rw [k, kc]
    generalize 2 ^ (75 - min 75 q).toNat = w at *
    cases s
    · show ((9007198717870080 * w : Nat) : Int) + ((m * w : Nat) : Int) = _
      rw [if_neg (by decide), Nat.add_mul]; omega
    · show ((9007198717870080 * w : Nat) : Int) + -((m * w : Nat) : Int) = _
      rw [if_pos rfl, Nat.sub_mul]
      have : m * w ≤ 9007198717870080 * w := Nat.mul_le_mul_right _ (Nat.le_of_lt hm)
      omega
  have pos : 0 < (if s then 9007198717870080 - m else 9007198717870080 + m) * 2 ^ (75 - min 75 q).toNat := by
    refine Nat.mul_pos ?_ pw
    cases s
    · show 0 < 9007198717870080 + m; omega
    · show 0 < 9007198717870080 - m; omega
  refine ⟨(if s then 9007198717870080 - m else 9007198717870080 + m) * 2 ^ (75 - min 75 q).toNat, min 75 q, ?_, ?_⟩
  · show Datum.fin (sumSign false s (sumUnits false 9007198717870080 75 s c q (min 75 q))) (sumUnits false 9007198717870080 75 s c q (min 75 q)).natAbs (min 75 q) = _
    rw [hs]
    generalize (if s then 9007198717870080 - m else 9007198717870080 + m) * 2 ^ (75 - min 75 q).toNat = w at *
    have z : sumSign false s (w : Int) = false := by
      unfold sumSign; rw [if_neg (by omega)]; exact decide_eq_false (by omega)
    rw [z, Int.natAbs_natCast]
  · have e2 : (min 75 q - 75).toNat = 0 := by omega
    rw [e2, Nat.pow_zero, Nat.mul_one]
abbrev up (k : Int32) : UInt64 := FP.dadd 5183643170566569984 (FP.dmul (FP.i2d k) 4944952390852804608)
theorem mx_v : val64 5183643170566569984 = .fin false 9007198717870080 75 := by decide +kernel
theorem up_val (k : Int32) (h : mg k ≤ 2 ^ 27) : Val false (if sg k then 9007198717870080 - mg k else 9007198717870080 + mg k) 75 (val64 (up k)) := by
  show Val _ _ _ (val64 (dadd 5183643170566569984 (dmul (i2d k) 4944952390852804608)))
  rw [val64_dadd, mx_v, (sumC (dmul_val (a := k) D75 (by decide) (by decide)) (by omega)).round]
  refine exact64 ?_ (by decide) (by decide)
  by_cases hs : sg k = true
  · rw [if_pos hs]; omega
  · rw [if_neg hs]; omega
theorem near {s : Bool} {m : Nat} (h : m ≤ 2 ^ 27) : roundRatio b32 s (9007198717870080 - m) 1 75 = .fin s 16777215 104 := by
  have hq : quantum b32 (9007198717870080 - m) 1 75 = 104 := by
    refine quantum_eq (by omega) (by decide) (by decide) ?_ (Or.inr ?_)
    · show Below (9007198717870080 - m) 1 (104 - 75 + 24)
      show (9007198717870080 - m) * 2 ^ (-(53 : Int)).toNat < 1 * 2 ^ (53 : Int).toNat
      have t1 : (-(53 : Int)).toNat = 0 := by decide
      have t2 : (53 : Int).toNat = 53 := by decide
      rw [t1, t2]; omega
    · show ¬ Below (9007198717870080 - m) 1 (104 - 75 + (24 - 1))
      show ¬ (9007198717870080 - m) * 2 ^ (-(52 : Int)).toNat < 1 * 2 ^ (52 : Int).toNat
      have t1 : (-(52 : Int)).toNat = 0 := by decide
      have t2 : (52 : Int).toNat = 52 := by decide
      rw [t1, t2]; omega
  unfold roundRatio
  rw [if_neg (by omega), hq]
  unfold roundAt
  have u1 : unitsNum (9007198717870080 - m) 75 104 = 9007198717870080 - m := by
    show (9007198717870080 - m) * 2 ^ (75 - 104 : Int).toNat = _
    rw [show (75 - 104 : Int).toNat = 0 by decide, Nat.pow_zero, Nat.mul_one]
  have u2 : unitsDen 1 75 104 = 536870912 := by decide
  rw [u1, u2]
  have hn : nearest (9007198717870080 - m) 536870912 = 16777215 := by
    unfold nearest
    split
    · omega
    · split
      · omega
      · omega
  rw [hn]; rfl
theorem up_mid {s : Bool} {d : UInt64} {m : Nat} {x : UInt32} (hm : m ≤ 2 ^ 27) (h : Val s (9007198717870080 - m) 75 (val64 d)) (hx : val32 x = .fin s 16777215 104) : Good0 d x := by
  refine by_mid h (by decide) (bnd (a := 9007198717870080) (Nat.sub_le _ _) (by decide +kernel)) ?_
  refine val32_inj (by rw [d2f_val h]; exact rr_ne_nan _ _ _ _) (by rw [d2f_val h, near hm, hx])
theorem dneg_val {s : Bool} {m : Nat} {e : Int} {d : UInt64} (h : Val s m e (val64 d)) : Val (!s) m e (val64 (FP.dneg d)) := by
  rw [FP.dneg_core ((notNaN_iff d).mpr h.ne_nan), val64_dneg]
  obtain ⟨c, q, e1, hv⟩ := h
  exact ⟨c, q, by rw [e1]; rfl, hv⟩
theorem pos_facts {k : Int32} (hk : (0 : Int32) < k) : sg k = false ∧ 1 ≤ mg k := by
  have l0 : (0 : Int32).toInt = 0 := by decide
  have := Int32.lt_iff_toInt_lt.mp hk
  rw [l0] at this
  exact ⟨decide_eq_false (by omega), by unfold mg; omega⟩
theorem neg_facts {k : Int32} (hk : ¬ (0 : Int32) < k) : mg k = 0 ∨ sg k = true := by
  have l0 : (0 : Int32).toInt = 0 := by decide
  rw [Int32.lt_iff_toInt_lt, l0] at hk
  by_cases q : k.toInt = 0
  · exact Or.inl (by unfold mg; rw [q]; rfl)
  · exact Or.inr (decide_eq_true (by omega))
theorem up_pos {k : Int32} (h : mg k ≤ 2 ^ 27) (hk : (0 : Int32) < k) : Val false (9007198717870080 + mg k) 75 (val64 (up k)) := by
  have := up_val k h
  rw [(pos_facts hk).1] at this; exact this
theorem up_neg {k : Int32} (h : mg k ≤ 2 ^ 27) (hk : ¬ (0 : Int32) < k) : Val false (9007198717870080 - mg k) 75 (val64 (up k)) := by
  have := up_val k h
  rcases neg_facts hk with q | q
  · rw [q] at this ⊢
    by_cases s : sg k = true
    · rw [if_pos s] at this; exact this
    · rw [if_neg s] at this; exact this
  · rw [if_pos q] at this; exact this
theorem mode5a {k : Int32} (h : mg k ≤ 2 ^ 27) (hk : (0 : Int32) < k) : Good0 (up k) 2139095040 :=
  by_hi (up_pos h hk) (by decide) (bndL (a := 9007198717870081) (by have := (pos_facts hk).2; omega) (by decide +kernel))
theorem mode5b {k : Int32} (h : mg k ≤ 2 ^ 27) (hk : ¬ (0 : Int32) < k) : Good0 (up k) 2139095039 := up_mid h (up_neg h hk) (by decide +kernel)
theorem mode5c {k : Int32} (h : mg k ≤ 2 ^ 27) (hk : (0 : Int32) < k) : Good0 (FP.dneg (up k)) (FP.fneg 2139095040) := by
  rw [show FP.fneg 2139095040 = (4286578688 : UInt32) from by decide]
  exact by_lo (dneg_val (up_pos h hk)) (by decide) (bndL (a := 9007198717870081) (by have := (pos_facts hk).2; omega) (by decide +kernel))
theorem mode5d {k : Int32} (h : mg k ≤ 2 ^ 27) (hk : ¬ (0 : Int32) < k) : Good0 (FP.dneg (up k)) (FP.fneg 2139095039) := up_mid h (dneg_val (up_neg h hk)) (by decide +kernel)
theorem up_nn (k : Int32) (h : mg k ≤ 2 ^ 27) : Jvm.Free.Fl.NoNaN64 (up k) := Jvm.Free.Fl.val64_no.mpr (up_val k h).ne_nan
theorem dmul_nn {a : Int32} {K : UInt64} {k : Int} (hK : Val false 1 k (val64 K)) (h1 : -1021 ≤ k) (h2 : k ≤ 971) : Jvm.Free.Fl.NoNaN64 (FP.dmul (FP.i2d a) K) := Jvm.Free.Fl.val64_no.mpr (dmul_val hK h1 h2).ne_nan
theorem fmul_nn (a : Int32) {K : UInt32} (hK : Jvm.Free.Fl.Fin32 K) : Jvm.Free.Fl.NoNaN32 (FP.fmul (FP.i2f a) K) := Jvm.Free.Fl.fmul_out (Jvm.Free.Fl.i2f_fin a) hK
/-! constants -/
theorem const {d : UInt64} {x : UInt32} (h1 : dIsNaN d = false) (h2 : cmpValue (FP.fcmp (nw d) x) .l = 0) : Good0 d x := ⟨Jvm.Free.Fl.noNaN64_no.mpr h1, h2⟩
theorem shr4 (a : Int32) : mg (a >>> ((4 : Int32) &&& 31)) ≤ 2 ^ 27 := by
  have e := c_ishr a 4 4 (by decide)
  have := rng32 a
  unfold mg; omega
theorem shr7 (a : Int32) : mg (a >>> ((7 : Int32) &&& 31)) ≤ 2 ^ 24 := by
  have e := c_ishr a 7 7 (by decide)
  have := rng32 a
  unfold mg; omega
end Jvm.FP.Core.OwnQ
namespace Jvm.Pilot.@@N@@
open Jvm Jvm.ClassFile Sem Op Lib Jvm.Free Jvm.Stand Jvm.LawKit Jvm.RoadKit Bundle Jvm.Pilot.@@N@@.Jvm.D
abbrev own_S (p : Program) (e : Env) (b : List Frame) (T : State) (m : MethodId) (pc : Nat) (L : Array Slot) (S : List Value) (t : State) : Prop := Steps p.tables e b (T.setTop (mkF m pc L S)) t
theorem own_gt {a b : Int32} {z : Int} (h : b < a) (e : b.toInt = z) : z < a.toInt := by rw [← e]; exact Int32.lt_iff_toInt_lt.mp h
theorem own_lt {a b : Int32} {z : Int} (h : a < b) (e : b.toInt = z) : a.toInt < z := by rw [← e]; exact Int32.lt_iff_toInt_lt.mp h
theorem own_255 {a : Int32} (h1 : ¬ (255 : Int32) < a) (h2 : ¬ a < (-255 : Int32)) : Jvm.FP.Core.OwnQ.mg a ≤ 255 := by
  have l1 : (255 : Int32).toInt = 255 := by decide
  have l2 : (-255 : Int32).toInt = -255 := by decide
  rw [Int32.lt_iff_toInt_lt, l1] at h1
  rw [Int32.lt_iff_toInt_lt, l2] at h2
  unfold Jvm.FP.Core.OwnQ.mg; omega
theorem own_m (k : Int32) : (k &&& (7 : Int32)) = 0 ∨ (k &&& (7 : Int32)) = 1 ∨ (k &&& (7 : Int32)) = 2 ∨ (k &&& (7 : Int32)) = 3 ∨ (k &&& (7 : Int32)) = 4 ∨ (k &&& (7 : Int32)) = 5 ∨ (k &&& (7 : Int32)) = 6 ∨ (k &&& (7 : Int32)) = 7 := by
  have e1 := c_mask k (7 : Int32) 3 (by decide) (by decide)
  have l0 : (0 : Int32).toInt = 0 := by decide
  have l1 : (1 : Int32).toInt = 1 := by decide
  have l2 : (2 : Int32).toInt = 2 := by decide
  have l3 : (3 : Int32).toInt = 3 := by decide
  have l4 : (4 : Int32).toInt = 4 := by decide
  have l5 : (5 : Int32).toInt = 5 := by decide
  have l6 : (6 : Int32).toInt = 6 := by decide
  have l7 : (7 : Int32).toInt = 7 := by decide
  simp only [← Int32.toInt_inj, l0, l1, l2, l3, l4, l5, l6, l7] at *
  omega
theorem pn_0 : plainName "com/example/converge/converge/compiler/FloatText" = true := by first | (simp [plainName, overriddenIn]; done) | decide +kernel
theorem ef_1 (m : MethodId) (d : UInt64) : entryFrame m #[(.double d)] 3 = mkF m 0 #[.val (.double d), .second, .unset] [] := by first | (simp [entryFrame, mkF, argsToLocals, Value.category]; done) | rfl
def Q1 (Z : State) (d : UInt64) (h0 : Heap) (n0 : Nat) (v : Option Value) (h : Heap) (L : List Loc) : Prop := v = some (.float (Jvm.FP.Core.OwnQ.nw d)) ∧ Fr n0 L ∧ h = h0
theorem d1_0 : decode prog_25_method_4_code 0 = .ok (.dload_n 0, 1) := by decide +kernel
theorem d1_1 : decode prog_25_method_4_code 1 = .ok (.ldc2_w 29, 3) := by decide +kernel
theorem d1_4 : decode prog_25_method_4_code 4 = .ok (.dcmp .l, 1) := by decide +kernel
theorem d1_5 : decode prog_25_method_4_code 5 = .ok (.ifCond .le 9, 3) := by decide +kernel
theorem d1_8 : decode prog_25_method_4_code 8 = .ok (.ldc 31, 2) := by decide +kernel
theorem d1_10 : decode prog_25_method_4_code 10 = .ok (.fstore_n 2, 1) := by decide +kernel
theorem d1_11 : decode prog_25_method_4_code 11 = .ok (.goto 20, 3) := by decide +kernel
theorem d1_31 : decode prog_25_method_4_code 31 = .ok (.fload_n 2, 1) := by decide +kernel
theorem d1_32 : decode prog_25_method_4_code 32 = .ok (.freturn, 1) := by decide +kernel
theorem d1_14 : decode prog_25_method_4_code 14 = .ok (.dload_n 0, 1) := by decide +kernel
theorem d1_15 : decode prog_25_method_4_code 15 = .ok (.ldc2_w 32, 3) := by decide +kernel
theorem d1_18 : decode prog_25_method_4_code 18 = .ok (.dcmp .g, 1) := by decide +kernel
theorem d1_19 : decode prog_25_method_4_code 19 = .ok (.ifCond .ge 9, 3) := by decide +kernel
theorem d1_22 : decode prog_25_method_4_code 22 = .ok (.ldc 34, 2) := by decide +kernel
theorem d1_24 : decode prog_25_method_4_code 24 = .ok (.fstore_n 2, 1) := by decide +kernel
theorem d1_25 : decode prog_25_method_4_code 25 = .ok (.goto 6, 3) := by decide +kernel
theorem d1_28 : decode prog_25_method_4_code 28 = .ok (.dload_n 0, 1) := by decide +kernel
theorem d1_29 : decode prog_25_method_4_code 29 = .ok (.d2f, 1) := by decide +kernel
theorem d1_30 : decode prog_25_method_4_code 30 = .ok (.fstore_n 2, 1) := by decide +kernel
set_option maxRecDepth 65536 in
set_option maxHeartbeats 40000000 in
theorem rm1 (l : Launch) (Z : State) (a0 : Array Value) (hw : ∀ d ∈ tables_1, d.before a0 Z = true) (ws : List Jvm.Cond) (d : UInt64) (h0 : Heap) (n0 : Nat) (Z0 : n0 ≤ h0.size) (hn : Jvm.Free.Fl.NoNaN64 d) :
    MetFree l (⟨"com/example/converge/converge/compiler/FloatText", "narrow", "(D)F"⟩ : MethodName) (head1 (Jvm.Cond.code (⟨"com/example/converge/converge/compiler/FloatText", "narrow", "(D)F"⟩ : MethodName) prog_25_method_4_code 3 (some .float) :: ws) ({ frames := 0, cells := 0, slots := 0, locals := 0 } : Room)) (fun a U => a = #[(.double d)] ∧ Z.Warmed39 U.vm ∧ U.heap = h0) (fun _ _ _ _ _ => True) (fun _ U o U' => ∃ v L, o = .returned v ∧ Q1 Z d h0 n0 v U'.heap L ∧ FrameEnd U o U' L ({ frames := 0, cells := 0, slots := 0, locals := 0 } : Room).cells ({ frames := 0, cells := 0, slots := 0, locals := 0 } : Room).slots) := by
  refine MetFree.of_bodySF (plainFor_of_name pn_0) hisR ?_
  intro p e s m args below meth c s₁ Bd hml0 hP hK
  obtain ⟨rfl, hZ, hh⟩ := hP
  have hx := Bd.exec
  have hby := Bd.bytes
  have hml : c.maxLocals = 3 := hml0
  have hown : s.vm.findClass "com/example/converge/converge/compiler/FloatText" = some m.cls := findClass_of_methodNamed Bd.named
  have hnm := (name_of_methodNamed Bd.named Bd.method).1
  have X0 : Stand p l e ({ frames := 0, cells := 0, slots := 0, locals := 0 } : Room) s m #[(.double d)] below meth c s₁ [] 0 0 := Stand.of_body Bd
  have e0 : s₁.heap = h0 := by rw [← hh, Bd.state]; rfl
  have N0 := Fr.nil n0
  have pre0 : ∀ tg, Steps p.tables e below (s₁.setTop (mkF m 0 #[.val (.double d), .second, .unset] [])) tg → Steps p.tables e below (s₁.setTop (entryFrame m #[(.double d)] 3)) tg := fun tg k => castTop (ef_1 m d) k
  have pre2 : ∀ tg, own_S p e below s₁ m 5 #[.val (.double d), .second, .unset] [(.int (cmpValue (FP.dcmp d (5183643170566569984 : UInt64)) .l))] tg → Steps p.tables e below (s₁.setTop (entryFrame m #[(.double d)] 3)) tg := fun tg k => pre0 tg (by
    show own_S p e below s₁ m 0 #[.val (.double d), .second, .unset] [] _
    refine XS.dloadN X0.here hx rfl (hb hby d1_0) rfl ?_
    show own_S p e below s₁ m 1 #[.val (.double d), .second, .unset] [(.double d)] _
    refine X0.ldc2DoubleC hx hown (mvT hZ (hw _ (List.mem_of_getElem? (i := 4) rfl))) (g := (mkF m 1 #[.val (.double d), .second, .unset] [(.double d)])) rfl (hb hby d1_1) _ ?_
    show own_S p e below s₁ m 4 #[.val (.double d), .second, .unset] [(.double (5183643170566569984 : UInt64)), (.double d)] _
    refine XS.dcmpS X0.here hx rfl (hb hby d1_4) rfl (v := (cmpValue (FP.dcmp d (5183643170566569984 : UInt64)) .l)) rfl ?_
    exact k)
  by_cases hc5_1 : (0 : Int32) < (cmpValue (FP.dcmp d (5183643170566569984 : UInt64)) .l)
  ·  -- pc 5 yes
    have pre3 : ∀ tg, own_S p e below s₁ m 32 #[.val (.double d), .second, .val (.float (2139095040 : UInt32))] [(.float (2139095040 : UInt32))] tg → Steps p.tables e below (s₁.setTop (entryFrame m #[(.double d)] 3)) tg := fun tg k => pre2 tg (by
      show own_S p e below s₁ m 5 #[.val (.double d), .second, .unset] [(.int (cmpValue (FP.dcmp d (5183643170566569984 : UInt64)) .l))] _
      refine XS.ifNo X0.here hx rfl (hb hby d1_5) rfl ((if0 _ _).trans (tlt hc5_1).2.2.2) ?_
      show own_S p e below s₁ m 8 #[.val (.double d), .second, .unset] [] _
      refine X0.ldcFloatC hx hown (mvT hZ (hw _ (List.mem_of_getElem? (i := 23) rfl))) (g := (mkF m 8 #[.val (.double d), .second, .unset] [])) rfl (hb hby d1_8) _ ?_
      show own_S p e below s₁ m 10 #[.val (.double d), .second, .unset] [(.float (2139095040 : UInt32))] _
      refine XS.fstoreN X0.here hx rfl (hb hby d1_10) rfl (l' := #[.val (.double d), .second, .val (.float (2139095040 : UInt32))]) rfl ?_
      show own_S p e below s₁ m 11 #[.val (.double d), .second, .val (.float (2139095040 : UInt32))] [] _
      refine XS.goto X0.here hx rfl (pc0 := 11) (pc' := 31) rfl (hb hby d1_11) (by decide) (by decide) ?_
      show own_S p e below s₁ m 31 #[.val (.double d), .second, .val (.float (2139095040 : UInt32))] [] _
      refine XS.floadN X0.here hx rfl (hb hby d1_31) rfl ?_
      exact k)
    obtain ⟨fs, hr, hrun, hended, hW, hsame⟩ := X0.leave (v := some (.float (2139095040 : UInt32))) (fun h => by rw [Bd.returns] at h; cases h)
    refine ⟨_, _, pre3 _ ?_, hrun, hended, _, _, rfl, ?_, ⟨_, rfl⟩, hW, hsame.mono (by decide) (by decide)⟩
    · show own_S p e below s₁ m 32 #[.val (.double d), .second, .val (.float (2139095040 : UInt32))] [(.float (2139095040 : UInt32))] _
      exact retOut X0 hx (t := .float) Bd.returns rfl (Or.inr (Or.inr (Or.inr (Or.inl ⟨rfl, rfl, _, rfl⟩)))) (hb hby d1_32) hr
    · show Q1 Z d h0 n0 _ s₁.heap _
      rw [e0]
      refine ⟨?_, N0, rfl⟩
      unfold Jvm.FP.Core.OwnQ.nw; rw [if_pos hc5_1]
  ·  -- pc 5 no
    have pre5 : ∀ tg, own_S p e below s₁ m 19 #[.val (.double d), .second, .unset] [(.int (cmpValue (FP.dcmp d (14407015207421345792 : UInt64)) .g))] tg → Steps p.tables e below (s₁.setTop (entryFrame m #[(.double d)] 3)) tg := fun tg k => pre2 tg (by
      show own_S p e below s₁ m 5 #[.val (.double d), .second, .unset] [(.int (cmpValue (FP.dcmp d (5183643170566569984 : UInt64)) .l))] _
      refine XS.ifYes X0.here hx rfl (pc0 := 5) (pc' := 14) rfl (hb hby d1_5) rfl ((if0 _ _).trans (flt hc5_1).2.2.2) (by decide) (by decide) ?_
      show own_S p e below s₁ m 14 #[.val (.double d), .second, .unset] [] _
      refine XS.dloadN X0.here hx rfl (hb hby d1_14) rfl ?_
      show own_S p e below s₁ m 15 #[.val (.double d), .second, .unset] [(.double d)] _
      refine X0.ldc2DoubleC hx hown (mvT hZ (hw _ (List.mem_of_getElem? (i := 5) rfl))) (g := (mkF m 15 #[.val (.double d), .second, .unset] [(.double d)])) rfl (hb hby d1_15) _ ?_
      show own_S p e below s₁ m 18 #[.val (.double d), .second, .unset] [(.double (14407015207421345792 : UInt64)), (.double d)] _
      refine XS.dcmpS X0.here hx rfl (hb hby d1_18) rfl (v := (cmpValue (FP.dcmp d (14407015207421345792 : UInt64)) .g)) rfl ?_
      exact k)
    by_cases hc19_4 : (cmpValue (FP.dcmp d (14407015207421345792 : UInt64)) .g) < (0 : Int32)
    ·  -- pc 19 yes
      have pre6 : ∀ tg, own_S p e below s₁ m 32 #[.val (.double d), .second, .val (.float (4286578688 : UInt32))] [(.float (4286578688 : UInt32))] tg → Steps p.tables e below (s₁.setTop (entryFrame m #[(.double d)] 3)) tg := fun tg k => pre5 tg (by
        show own_S p e below s₁ m 19 #[.val (.double d), .second, .unset] [(.int (cmpValue (FP.dcmp d (14407015207421345792 : UInt64)) .g))] _
        refine XS.ifNo X0.here hx rfl (hb hby d1_19) rfl ((if0 _ _).trans (tlt hc19_4).2.1) ?_
        show own_S p e below s₁ m 22 #[.val (.double d), .second, .unset] [] _
        refine X0.ldcFloatC hx hown (mvT hZ (hw _ (List.mem_of_getElem? (i := 12) rfl))) (g := (mkF m 22 #[.val (.double d), .second, .unset] [])) rfl (hb hby d1_22) _ ?_
        show own_S p e below s₁ m 24 #[.val (.double d), .second, .unset] [(.float (4286578688 : UInt32))] _
        refine XS.fstoreN X0.here hx rfl (hb hby d1_24) rfl (l' := #[.val (.double d), .second, .val (.float (4286578688 : UInt32))]) rfl ?_
        show own_S p e below s₁ m 25 #[.val (.double d), .second, .val (.float (4286578688 : UInt32))] [] _
        refine XS.goto X0.here hx rfl (pc0 := 25) (pc' := 31) rfl (hb hby d1_25) (by decide) (by decide) ?_
        show own_S p e below s₁ m 31 #[.val (.double d), .second, .val (.float (4286578688 : UInt32))] [] _
        refine XS.floadN X0.here hx rfl (hb hby d1_31) rfl ?_
        exact k)
      obtain ⟨fs, hr, hrun, hended, hW, hsame⟩ := X0.leave (v := some (.float (4286578688 : UInt32))) (fun h => by rw [Bd.returns] at h; cases h)
      refine ⟨_, _, pre6 _ ?_, hrun, hended, _, _, rfl, ?_, ⟨_, rfl⟩, hW, hsame.mono (by decide) (by decide)⟩
      · show own_S p e below s₁ m 32 #[.val (.double d), .second, .val (.float (4286578688 : UInt32))] [(.float (4286578688 : UInt32))] _
        exact retOut X0 hx (t := .float) Bd.returns rfl (Or.inr (Or.inr (Or.inr (Or.inl ⟨rfl, rfl, _, rfl⟩)))) (hb hby d1_32) hr
      · show Q1 Z d h0 n0 _ s₁.heap _
        rw [e0]
        refine ⟨?_, N0, rfl⟩
        unfold Jvm.FP.Core.OwnQ.nw; rw [if_neg hc5_1, if_pos hc19_4]
    ·  -- pc 19 no
      have pre7 : ∀ tg, own_S p e below s₁ m 32 #[.val (.double d), .second, .val (.float (FP.d2f d))] [(.float (FP.d2f d))] tg → Steps p.tables e below (s₁.setTop (entryFrame m #[(.double d)] 3)) tg := fun tg k => pre5 tg (by
        show own_S p e below s₁ m 19 #[.val (.double d), .second, .unset] [(.int (cmpValue (FP.dcmp d (14407015207421345792 : UInt64)) .g))] _
        refine XS.ifYes X0.here hx rfl (pc0 := 19) (pc' := 28) rfl (hb hby d1_19) rfl ((if0 _ _).trans (flt hc19_4).2.1) (by decide) (by decide) ?_
        show own_S p e below s₁ m 28 #[.val (.double d), .second, .unset] [] _
        refine XS.dloadN X0.here hx rfl (hb hby d1_28) rfl ?_
        show own_S p e below s₁ m 29 #[.val (.double d), .second, .unset] [(.double d)] _
        refine XS.d2fS X0.here hx rfl (hb hby d1_29) rfl (Jvm.Free.Fl.d2f_out hn) (v := (FP.d2f d)) rfl ?_
        show own_S p e below s₁ m 30 #[.val (.double d), .second, .unset] [(.float (FP.d2f d))] _
        refine XS.fstoreN X0.here hx rfl (hb hby d1_30) rfl (l' := #[.val (.double d), .second, .val (.float (FP.d2f d))]) rfl ?_
        show own_S p e below s₁ m 31 #[.val (.double d), .second, .val (.float (FP.d2f d))] [] _
        refine XS.floadN X0.here hx rfl (hb hby d1_31) rfl ?_
        exact k)
      obtain ⟨fs, hr, hrun, hended, hW, hsame⟩ := X0.leave (v := some (.float (FP.d2f d))) (fun h => by rw [Bd.returns] at h; cases h)
      refine ⟨_, _, pre7 _ ?_, hrun, hended, _, _, rfl, ?_, ⟨_, rfl⟩, hW, hsame.mono (by decide) (by decide)⟩
      · show own_S p e below s₁ m 32 #[.val (.double d), .second, .val (.float (FP.d2f d))] [(.float (FP.d2f d))] _
        exact retOut X0 hx (t := .float) Bd.returns rfl (Or.inr (Or.inr (Or.inr (Or.inl ⟨rfl, rfl, _, rfl⟩)))) (hb hby d1_32) hr
      · show Q1 Z d h0 n0 _ s₁.heap _
        rw [e0]
        refine ⟨?_, N0, rfl⟩
        unfold Jvm.FP.Core.OwnQ.nw; rw [if_neg hc5_1, if_neg hc19_4]
theorem pn_1 : plainName "com/example/converge/converge/compiler/FloatTextNarrowPinLaw" = true := by first | (simp [plainName, overriddenIn]; done) | decide +kernel
theorem ef_0 (m : MethodId) (p1 : Int32) (p2 : Int32) (p3 : Int32) : entryFrame m #[(.int p1), (.int p2), (.int p3)] maxLocals = mkF m 0 #[iv p1, iv p2, iv p3, .unset, .unset, .unset, .unset, .unset, .unset, .unset, .unset, .unset] [] := by first | (simp [entryFrame, mkF, argsToLocals, Value.category, maxLocals]; done) | rfl
def Q0 (Z : State) (p1 : Int32) (p2 : Int32) (p3 : Int32) (h0 : Heap) (n0 : Nat) (v : Option Value) (h : Heap) (L : List Loc) : Prop := v = some (.int 1) ∧ Fr n0 L
theorem pd_0 : parseMethodDescriptor "(D)F" = some ⟨[.double], some .float⟩ := by decide +kernel
set_option maxRecDepth 65536 in
set_option maxHeartbeats 40000000 in
theorem rm0 (l : Launch) (Z : State) (a0 : Array Value) (hw : ∀ d ∈ tables_1, d.before a0 Z = true) (ws : List Jvm.Cond) (p1 : Int32) (p2 : Int32) (p3 : Int32) (h0 : Heap) (n0 : Nat) (Z0 : n0 ≤ h0.size)  :
    MetFree l x (head1 (Jvm.Cond.code x code maxLocals ret :: ws) room_1) (fun a U => a = #[(.int p1), (.int p2), (.int p3)] ∧ Z.Warmed39 U.vm ∧ U.heap = h0) (fun _ _ _ _ _ => True) (fun _ U o U' => ∃ v L, o = .returned v ∧ Q0 Z p1 p2 p3 h0 n0 v U'.heap L ∧ FrameEnd U o U' L room_1.cells room_1.slots) := by
  refine MetFree.of_bodySF (plainFor_of_name pn_1) hisR ?_
  intro p e s m args below meth c s₁ Bd hml0 hP hK
  obtain ⟨rfl, hZ, hh⟩ := hP
  have hx := Bd.exec
  have hby := Bd.bytes
  have hml : c.maxLocals = 12 := hml0
  have hown : s.vm.findClass "com/example/converge/converge/compiler/FloatTextNarrowPinLaw" = some m.cls := findClass_of_methodNamed Bd.named
  have hnm := (name_of_methodNamed Bd.named Bd.method).1
  have X0 : Stand p l e room_1 s m #[(.int p1), (.int p2), (.int p3)] below meth c s₁ [] 0 0 := Stand.of_body Bd
  have e0 : s₁.heap = h0 := by rw [← hh, Bd.state]; rfl
  have N0 := Fr.nil n0
  have pre0 : ∀ tg, Steps p.tables e below (s₁.setTop (mkF m 0 #[iv p1, iv p2, iv p3, .unset, .unset, .unset, .unset, .unset, .unset, .unset, .unset, .unset] [])) tg → Steps p.tables e below (s₁.setTop (entryFrame m #[(.int p1), (.int p2), (.int p3)] maxLocals)) tg := fun tg k => castTop (ef_0 m p1 p2 p3) k
  obtain ⟨ng, h_ng, prej1⟩ : ∃ ng : Int32, (True) ∧ ∀ tg, own_S p e below s₁ m 16 #[iv p1, iv p2, iv p3, iv (p1 &&& (7 : Int32)), .unset, .unset, .unset, .unset, .unset, .unset, .unset, .unset] [(.int ng)] tg → Steps p.tables e below (s₁.setTop (entryFrame m #[(.int p1), (.int p2), (.int p3)] maxLocals)) tg := by
    have pre3 : ∀ tg, own_S p e below s₁ m 8 #[iv p1, iv p2, iv p3, iv (p1 &&& (7 : Int32)), .unset, .unset, .unset, .unset, .unset, .unset, .unset, .unset] [(.int (p3 &&& (1 : Int32)))] tg → Steps p.tables e below (s₁.setTop (entryFrame m #[(.int p1), (.int p2), (.int p3)] maxLocals)) tg := fun tg k => pre0 tg (by
      show own_S p e below s₁ m 0 #[iv p1, iv p2, iv p3, .unset, .unset, .unset, .unset, .unset, .unset, .unset, .unset, .unset] [] _
      refine XS.iloadN X0.here hx rfl (hb hby at_0) rfl ?_
      show own_S p e below s₁ m 1 #[iv p1, iv p2, iv p3, .unset, .unset, .unset, .unset, .unset, .unset, .unset, .unset, .unset] [(.int p1)] _
      refine XS.bipush X0.here hx rfl (hb hby at_1) ?_
      show own_S p e below s₁ m 3 #[iv p1, iv p2, iv p3, .unset, .unset, .unset, .unset, .unset, .unset, .unset, .unset, .unset] [(.int (7 : Int32)), (.int p1)] _
      refine XS.iand X0.here hx rfl (hb hby at_3) rfl ?_
      show own_S p e below s₁ m 4 #[iv p1, iv p2, iv p3, .unset, .unset, .unset, .unset, .unset, .unset, .unset, .unset, .unset] [(.int (p1 &&& (7 : Int32)))] _
      refine XS.istoreN X0.here hx rfl (hb hby at_4) rfl (l' := #[iv p1, iv p2, iv p3, iv (p1 &&& (7 : Int32)), .unset, .unset, .unset, .unset, .unset, .unset, .unset, .unset]) rfl ?_
      show own_S p e below s₁ m 5 #[iv p1, iv p2, iv p3, iv (p1 &&& (7 : Int32)), .unset, .unset, .unset, .unset, .unset, .unset, .unset, .unset] [] _
      refine XS.iloadN X0.here hx rfl (hb hby at_5) rfl ?_
      show own_S p e below s₁ m 6 #[iv p1, iv p2, iv p3, iv (p1 &&& (7 : Int32)), .unset, .unset, .unset, .unset, .unset, .unset, .unset, .unset] [(.int p3)] _
      refine XS.iconst X0.here hx rfl (hb hby at_6) ?_
      show own_S p e below s₁ m 7 #[iv p1, iv p2, iv p3, iv (p1 &&& (7 : Int32)), .unset, .unset, .unset, .unset, .unset, .unset, .unset, .unset] [(.int (1 : Int32)), (.int p3)] _
      refine XS.iand X0.here hx rfl (hb hby at_7) rfl ?_
      exact k)
    by_cases hc8_2 : (p3 &&& (1 : Int32)) = (0 : Int32)
    ·  -- pc 8 yes
      have pre4 : ∀ tg, own_S p e below s₁ m 16 #[iv p1, iv p2, iv p3, iv (p1 &&& (7 : Int32)), .unset, .unset, .unset, .unset, .unset, .unset, .unset, .unset] [(.int (0 : Int32))] tg → Steps p.tables e below (s₁.setTop (entryFrame m #[(.int p1), (.int p2), (.int p3)] maxLocals)) tg := fun tg k => pre3 tg (by
        show own_S p e below s₁ m 8 #[iv p1, iv p2, iv p3, iv (p1 &&& (7 : Int32)), .unset, .unset, .unset, .unset, .unset, .unset, .unset, .unset] [(.int (p3 &&& (1 : Int32)))] _
        refine XS.ifYes X0.here hx rfl (pc0 := 8) (pc' := 15) rfl (hb hby at_8) rfl ((if0 _ _).trans (teq hc8_2).1) (by decide) (by decide) ?_
        show own_S p e below s₁ m 15 #[iv p1, iv p2, iv p3, iv (p1 &&& (7 : Int32)), .unset, .unset, .unset, .unset, .unset, .unset, .unset, .unset] [] _
        refine XS.iconst X0.here hx rfl (hb hby at_15) ?_
        exact k)
      exact ⟨(0 : Int32), trivial, pre4⟩
    ·  -- pc 8 no
      have pre5 : ∀ tg, own_S p e below s₁ m 16 #[iv p1, iv p2, iv p3, iv (p1 &&& (7 : Int32)), .unset, .unset, .unset, .unset, .unset, .unset, .unset, .unset] [(.int (1 : Int32))] tg → Steps p.tables e below (s₁.setTop (entryFrame m #[(.int p1), (.int p2), (.int p3)] maxLocals)) tg := fun tg k => pre3 tg (by
        show own_S p e below s₁ m 8 #[iv p1, iv p2, iv p3, iv (p1 &&& (7 : Int32)), .unset, .unset, .unset, .unset, .unset, .unset, .unset, .unset] [(.int (p3 &&& (1 : Int32)))] _
        refine XS.ifNo X0.here hx rfl (hb hby at_8) rfl ((if0 _ _).trans (feq hc8_2).1) ?_
        show own_S p e below s₁ m 11 #[iv p1, iv p2, iv p3, iv (p1 &&& (7 : Int32)), .unset, .unset, .unset, .unset, .unset, .unset, .unset, .unset] [] _
        refine XS.iconst X0.here hx rfl (hb hby at_11) ?_
        show own_S p e below s₁ m 12 #[iv p1, iv p2, iv p3, iv (p1 &&& (7 : Int32)), .unset, .unset, .unset, .unset, .unset, .unset, .unset, .unset] [(.int (1 : Int32))] _
        refine XS.goto X0.here hx rfl (pc0 := 12) (pc' := 16) rfl (hb hby at_12) (by decide) (by decide) ?_
        exact k)
      exact ⟨(1 : Int32), trivial, pre5⟩
  have pre6 : ∀ tg, own_S p e below s₁ m 18 #[iv p1, iv p2, iv p3, iv (p1 &&& (7 : Int32)), iv ng, .unset, .unset, .unset, .unset, .unset, .unset, .unset] [] tg → Steps p.tables e below (s₁.setTop (entryFrame m #[(.int p1), (.int p2), (.int p3)] maxLocals)) tg := fun tg k => prej1 tg (by
    show own_S p e below s₁ m 16 #[iv p1, iv p2, iv p3, iv (p1 &&& (7 : Int32)), .unset, .unset, .unset, .unset, .unset, .unset, .unset, .unset] [(.int ng)] _
    refine XS.istore X0.here hx rfl (hb hby at_16) rfl (l' := #[iv p1, iv p2, iv p3, iv (p1 &&& (7 : Int32)), iv ng, .unset, .unset, .unset, .unset, .unset, .unset, .unset]) rfl ?_
    exact k)
  have hm0 := own_m p1
  obtain ⟨mv, emv⟩ : ∃ z, z = (p1 &&& (7 : Int32)) := ⟨_, rfl⟩
  rw [← emv] at hm0 pre6
  rcases hm0 with rfl | rfl | rfl | rfl | rfl | rfl | rfl | rfl
  ·  -- case
    have hgood : Jvm.FP.Core.OwnQ.Good0 (FP.i2d p2) (FP.i2f p2) := (Jvm.FP.Core.OwnQ.mode0 p2)
    obtain ⟨_, _, ⟨T7, L7, k7, n7⟩, -, X7, ⟨Lc7, hQ7, l7, y7, z7⟩, st7⟩ := Jvm.LawKit.callS X0 hx (y := (⟨"com/example/converge/converge/compiler/FloatText", "narrow", "(D)F"⟩ : MethodName)) hown (mvT hZ (hw _ (List.mem_of_getElem? (i := 0) rfl))) (mvT hZ (hw _ (List.mem_of_getElem? (i := 1) rfl))) (mvT hZ (hw _ (List.mem_of_getElem? (i := 2) rfl))) (mvT hZ (hw _ (List.mem_of_getElem? (i := 3) rfl))) (by decide) (backOf (W := 0) (rm1 l Z a0 hw [] (FP.i2d p2) h0 n0 Z0 hgood.1) hZ (hw _ (List.mem_of_getElem? (i := 3) rfl)) (hw _ (List.mem_of_getElem? (i := 2) rfl)) (by decide) (by decide)) (g := (mkF m 337 #[iv p1, iv p2, iv p3, iv (0 : Int32), iv ng, .val (.double (FP.i2d p2)), .second, .val (.float (FP.i2f p2)), .unset, .unset, .unset, .unset] [(.double (FP.i2d p2))])) rfl (by rw [hml]; rfl) (argsL := [(.double (FP.i2d p2))]) (rest := []) (lenOf pd_0 rfl) rfl (by show 2 * 0 + _ ≤ _; exact Nat.le_of_eq rfl) (hb hby at_337) (fun _ _ => ⟨rfl, e0, (by decide : 0 + 0 ≤ _), (by decide : 0 + 0 ≤ _)⟩)
    dsimp only [Pt.U, Pt.locs, Pt.cells, Pt.slots] at X7 l7 y7 z7 st7 hQ7
    subst l7 y7 z7
    obtain ⟨rfl, N7q, e7q⟩ := hQ7
    have N7 := Fr.app N0 N7q
    have e7 : T7.heap = h0 := e7q
    have pre8 : ∀ tg, own_S p e below T7 m 351 #[iv p1, iv p2, iv p3, iv (0 : Int32), iv ng, .val (.double (FP.i2d p2)), .second, .val (.float (FP.i2f p2)), .unset, .unset, .unset, .unset] [(.int (1 : Int32))] tg → Steps p.tables e below (s₁.setTop (entryFrame m #[(.int p1), (.int p2), (.int p3)] maxLocals)) tg := fun tg k => pre6 tg (by
      show own_S p e below s₁ m 18 #[iv p1, iv p2, iv p3, iv (0 : Int32), iv ng, .unset, .unset, .unset, .unset, .unset, .unset, .unset] [] _
      refine XS.iloadN X0.here hx rfl (hb hby at_18) rfl ?_
      show own_S p e below s₁ m 19 #[iv p1, iv p2, iv p3, iv (0 : Int32), iv ng, .unset, .unset, .unset, .unset, .unset, .unset, .unset] [(.int (0 : Int32))] _
      refine XS.ifNo X0.here hx rfl (hb hby at_19) rfl ((if0 _ _).trans (teq (by decide : (0 : Int32) = (0 : Int32))).2) ?_
      show own_S p e below s₁ m 22 #[iv p1, iv p2, iv p3, iv (0 : Int32), iv ng, .unset, .unset, .unset, .unset, .unset, .unset, .unset] [] _
      refine XS.iloadN X0.here hx rfl (hb hby at_22) rfl ?_
      show own_S p e below s₁ m 23 #[iv p1, iv p2, iv p3, iv (0 : Int32), iv ng, .unset, .unset, .unset, .unset, .unset, .unset, .unset] [(.int p2)] _
      refine XS.i2dS X0.here hx rfl (hb hby at_23) rfl rfl ?_
      show own_S p e below s₁ m 24 #[iv p1, iv p2, iv p3, iv (0 : Int32), iv ng, .unset, .unset, .unset, .unset, .unset, .unset, .unset] [(.double (FP.i2d p2))] _
      refine XS.dstore X0.here hx rfl (hb hby at_24) rfl (l' := #[iv p1, iv p2, iv p3, iv (0 : Int32), iv ng, .val (.double (FP.i2d p2)), .second, .unset, .unset, .unset, .unset, .unset]) rfl ?_
      show own_S p e below s₁ m 26 #[iv p1, iv p2, iv p3, iv (0 : Int32), iv ng, .val (.double (FP.i2d p2)), .second, .unset, .unset, .unset, .unset, .unset] [] _
      refine XS.iloadN X0.here hx rfl (hb hby at_26) rfl ?_
      show own_S p e below s₁ m 27 #[iv p1, iv p2, iv p3, iv (0 : Int32), iv ng, .val (.double (FP.i2d p2)), .second, .unset, .unset, .unset, .unset, .unset] [(.int p2)] _
      refine XS.i2fS X0.here hx rfl (hb hby at_27) rfl rfl ?_
      show own_S p e below s₁ m 28 #[iv p1, iv p2, iv p3, iv (0 : Int32), iv ng, .val (.double (FP.i2d p2)), .second, .unset, .unset, .unset, .unset, .unset] [(.float (FP.i2f p2))] _
      refine XS.fstore X0.here hx rfl (hb hby at_28) rfl (l' := #[iv p1, iv p2, iv p3, iv (0 : Int32), iv ng, .val (.double (FP.i2d p2)), .second, .val (.float (FP.i2f p2)), .unset, .unset, .unset, .unset]) rfl ?_
      show own_S p e below s₁ m 30 #[iv p1, iv p2, iv p3, iv (0 : Int32), iv ng, .val (.double (FP.i2d p2)), .second, .val (.float (FP.i2f p2)), .unset, .unset, .unset, .unset] [] _
      refine XS.goto X0.here hx rfl (pc0 := 30) (pc' := 335) rfl (hb hby at_30) (by decide) (by decide) ?_
      show own_S p e below s₁ m 335 #[iv p1, iv p2, iv p3, iv (0 : Int32), iv ng, .val (.double (FP.i2d p2)), .second, .val (.float (FP.i2f p2)), .unset, .unset, .unset, .unset] [] _
      refine XS.dload X0.here hx rfl (hb hby at_335) rfl ?_
      show own_S p e below s₁ m 337 #[iv p1, iv p2, iv p3, iv (0 : Int32), iv ng, .val (.double (FP.i2d p2)), .second, .val (.float (FP.i2f p2)), .unset, .unset, .unset, .unset] [(.double (FP.i2d p2))] _
      refine st7 _ ?_
      show own_S p e below T7 m 340 #[iv p1, iv p2, iv p3, iv (0 : Int32), iv ng, .val (.double (FP.i2d p2)), .second, .val (.float (FP.i2f p2)), .unset, .unset, .unset, .unset] [(.float (Jvm.FP.Core.OwnQ.nw (FP.i2d p2)))] _
      refine XS.fload X7.here hx rfl (hb hby at_340) rfl ?_
      show own_S p e below T7 m 342 #[iv p1, iv p2, iv p3, iv (0 : Int32), iv ng, .val (.double (FP.i2d p2)), .second, .val (.float (FP.i2f p2)), .unset, .unset, .unset, .unset] [(.float (FP.i2f p2)), (.float (Jvm.FP.Core.OwnQ.nw (FP.i2d p2)))] _
      refine XS.fcmpS X7.here hx rfl (hb hby at_342) rfl (v := (0 : Int32)) hgood.2 ?_
      show own_S p e below T7 m 343 #[iv p1, iv p2, iv p3, iv (0 : Int32), iv ng, .val (.double (FP.i2d p2)), .second, .val (.float (FP.i2f p2)), .unset, .unset, .unset, .unset] [(.int (0 : Int32))] _
      refine XS.ifNo X7.here hx rfl (hb hby at_343) rfl ((if0 _ _).trans (teq (by decide : (0 : Int32) = (0 : Int32))).2) ?_
      show own_S p e below T7 m 346 #[iv p1, iv p2, iv p3, iv (0 : Int32), iv ng, .val (.double (FP.i2d p2)), .second, .val (.float (FP.i2f p2)), .unset, .unset, .unset, .unset] [] _
      refine XS.iconst X7.here hx rfl (hb hby at_346) ?_
      show own_S p e below T7 m 347 #[iv p1, iv p2, iv p3, iv (0 : Int32), iv ng, .val (.double (FP.i2d p2)), .second, .val (.float (FP.i2f p2)), .unset, .unset, .unset, .unset] [(.int (1 : Int32))] _
      refine XS.goto X7.here hx rfl (pc0 := 347) (pc' := 351) rfl (hb hby at_347) (by decide) (by decide) ?_
      exact k)
    obtain ⟨fs, hr, hrun, hended, hW, hsame⟩ := X7.leave (v := some (.int (nar .boolean (1 : Int32)))) (fun h => by rw [Bd.returns] at h; cases h)
    refine ⟨_, _, pre8 _ ?_, hrun, hended, _, _, rfl, ?_, ⟨_, rfl⟩, hW, hsame.mono (by decide) (by decide)⟩
    · show own_S p e below T7 m 351 #[iv p1, iv p2, iv p3, iv (0 : Int32), iv ng, .val (.double (FP.i2d p2)), .second, .val (.float (FP.i2f p2)), .unset, .unset, .unset, .unset] [(.int (1 : Int32))] _
      exact retN X7 hx (t := .boolean) Bd.returns (by simp) (hb hby at_351) hr
    · show Q0 Z p1 p2 p3 h0 n0 _ T7.heap _
      rw [e7]
      exact ⟨rfl, N7⟩
  ·  -- case
    have hgood : Jvm.FP.Core.OwnQ.Good0 (FP.dmul (FP.i2d p2) (5039527983027585024 : UInt64)) (FP.fmul (FP.i2f p2) (1870659584 : UInt32)) := (Jvm.FP.Core.OwnQ.mode1 p2)
    obtain ⟨_, _, ⟨T9, L9, k9, n9⟩, -, X9, ⟨Lc9, hQ9, l9, y9, z9⟩, st9⟩ := Jvm.LawKit.callS X0 hx (y := (⟨"com/example/converge/converge/compiler/FloatText", "narrow", "(D)F"⟩ : MethodName)) hown (mvT hZ (hw _ (List.mem_of_getElem? (i := 0) rfl))) (mvT hZ (hw _ (List.mem_of_getElem? (i := 1) rfl))) (mvT hZ (hw _ (List.mem_of_getElem? (i := 2) rfl))) (mvT hZ (hw _ (List.mem_of_getElem? (i := 3) rfl))) (by decide) (backOf (W := 0) (rm1 l Z a0 hw [] (FP.dmul (FP.i2d p2) (5039527983027585024 : UInt64)) h0 n0 Z0 hgood.1) hZ (hw _ (List.mem_of_getElem? (i := 3) rfl)) (hw _ (List.mem_of_getElem? (i := 2) rfl)) (by decide) (by decide)) (g := (mkF m 337 #[iv p1, iv p2, iv p3, iv (1 : Int32), iv ng, .val (.double (FP.dmul (FP.i2d p2) (5039527983027585024 : UInt64))), .second, .val (.float (FP.fmul (FP.i2f p2) (1870659584 : UInt32))), .unset, .unset, .unset, .unset] [(.double (FP.dmul (FP.i2d p2) (5039527983027585024 : UInt64)))])) rfl (by rw [hml]; rfl) (argsL := [(.double (FP.dmul (FP.i2d p2) (5039527983027585024 : UInt64)))]) (rest := []) (lenOf pd_0 rfl) rfl (by show 2 * 0 + _ ≤ _; exact Nat.le_of_eq rfl) (hb hby at_337) (fun _ _ => ⟨rfl, e0, (by decide : 0 + 0 ≤ _), (by decide : 0 + 0 ≤ _)⟩)
    dsimp only [Pt.U, Pt.locs, Pt.cells, Pt.slots] at X9 l9 y9 z9 st9 hQ9
    subst l9 y9 z9
    obtain ⟨rfl, N9q, e9q⟩ := hQ9
    have N9 := Fr.app N0 N9q
    have e9 : T9.heap = h0 := e9q
    have pre10 : ∀ tg, own_S p e below T9 m 351 #[iv p1, iv p2, iv p3, iv (1 : Int32), iv ng, .val (.double (FP.dmul (FP.i2d p2) (5039527983027585024 : UInt64))), .second, .val (.float (FP.fmul (FP.i2f p2) (1870659584 : UInt32))), .unset, .unset, .unset, .unset] [(.int (1 : Int32))] tg → Steps p.tables e below (s₁.setTop (entryFrame m #[(.int p1), (.int p2), (.int p3)] maxLocals)) tg := fun tg k => pre6 tg (by
      show own_S p e below s₁ m 18 #[iv p1, iv p2, iv p3, iv (1 : Int32), iv ng, .unset, .unset, .unset, .unset, .unset, .unset, .unset] [] _
      refine XS.iloadN X0.here hx rfl (hb hby at_18) rfl ?_
      show own_S p e below s₁ m 19 #[iv p1, iv p2, iv p3, iv (1 : Int32), iv ng, .unset, .unset, .unset, .unset, .unset, .unset, .unset] [(.int (1 : Int32))] _
      refine XS.ifYes X0.here hx rfl (pc0 := 19) (pc' := 33) rfl (hb hby at_19) rfl ((if0 _ _).trans (feq (by decide : ¬ ((1 : Int32) = (0 : Int32)))).2) (by decide) (by decide) ?_
      show own_S p e below s₁ m 33 #[iv p1, iv p2, iv p3, iv (1 : Int32), iv ng, .unset, .unset, .unset, .unset, .unset, .unset, .unset] [] _
      refine XS.iloadN X0.here hx rfl (hb hby at_33) rfl ?_
      show own_S p e below s₁ m 34 #[iv p1, iv p2, iv p3, iv (1 : Int32), iv ng, .unset, .unset, .unset, .unset, .unset, .unset, .unset] [(.int (1 : Int32))] _
      refine XS.iconst X0.here hx rfl (hb hby at_34) ?_
      show own_S p e below s₁ m 35 #[iv p1, iv p2, iv p3, iv (1 : Int32), iv ng, .unset, .unset, .unset, .unset, .unset, .unset, .unset] [(.int (1 : Int32)), (.int (1 : Int32))] _
      refine XS.icmpNo X0.here hx rfl (hb hby at_35) rfl (teq (by decide : (1 : Int32) = (1 : Int32))).2 ?_
      show own_S p e below s₁ m 38 #[iv p1, iv p2, iv p3, iv (1 : Int32), iv ng, .unset, .unset, .unset, .unset, .unset, .unset, .unset] [] _
      refine XS.iloadN X0.here hx rfl (hb hby at_38) rfl ?_
      show own_S p e below s₁ m 39 #[iv p1, iv p2, iv p3, iv (1 : Int32), iv ng, .unset, .unset, .unset, .unset, .unset, .unset, .unset] [(.int p2)] _
      refine XS.i2dS X0.here hx rfl (hb hby at_39) rfl rfl ?_
      show own_S p e below s₁ m 40 #[iv p1, iv p2, iv p3, iv (1 : Int32), iv ng, .unset, .unset, .unset, .unset, .unset, .unset, .unset] [(.double (FP.i2d p2))] _
      refine X0.ldc2DoubleC hx hown (mvT hZ (hw _ (List.mem_of_getElem? (i := 6) rfl))) (g := (mkF m 40 #[iv p1, iv p2, iv p3, iv (1 : Int32), iv ng, .unset, .unset, .unset, .unset, .unset, .unset, .unset] [(.double (FP.i2d p2))])) rfl (hb hby at_40) _ ?_
      show own_S p e below s₁ m 43 #[iv p1, iv p2, iv p3, iv (1 : Int32), iv ng, .unset, .unset, .unset, .unset, .unset, .unset, .unset] [(.double (5039527983027585024 : UInt64)), (.double (FP.i2d p2))] _
      refine XS.dmulS X0.here hx rfl (hb hby at_43) rfl (Jvm.FP.Core.OwnQ.dmul_nn Jvm.FP.Core.OwnQ.D96 (by decide) (by decide)) (v := (FP.dmul (FP.i2d p2) (5039527983027585024 : UInt64))) rfl ?_
      show own_S p e below s₁ m 44 #[iv p1, iv p2, iv p3, iv (1 : Int32), iv ng, .unset, .unset, .unset, .unset, .unset, .unset, .unset] [(.double (FP.dmul (FP.i2d p2) (5039527983027585024 : UInt64)))] _
      refine XS.dstore X0.here hx rfl (hb hby at_44) rfl (l' := #[iv p1, iv p2, iv p3, iv (1 : Int32), iv ng, .val (.double (FP.dmul (FP.i2d p2) (5039527983027585024 : UInt64))), .second, .unset, .unset, .unset, .unset, .unset]) rfl ?_
      show own_S p e below s₁ m 46 #[iv p1, iv p2, iv p3, iv (1 : Int32), iv ng, .val (.double (FP.dmul (FP.i2d p2) (5039527983027585024 : UInt64))), .second, .unset, .unset, .unset, .unset, .unset] [] _
      refine XS.iloadN X0.here hx rfl (hb hby at_46) rfl ?_
      show own_S p e below s₁ m 47 #[iv p1, iv p2, iv p3, iv (1 : Int32), iv ng, .val (.double (FP.dmul (FP.i2d p2) (5039527983027585024 : UInt64))), .second, .unset, .unset, .unset, .unset, .unset] [(.int p2)] _
      refine XS.i2fS X0.here hx rfl (hb hby at_47) rfl rfl ?_
      show own_S p e below s₁ m 48 #[iv p1, iv p2, iv p3, iv (1 : Int32), iv ng, .val (.double (FP.dmul (FP.i2d p2) (5039527983027585024 : UInt64))), .second, .unset, .unset, .unset, .unset, .unset] [(.float (FP.i2f p2))] _
      refine X0.ldcFloatC hx hown (mvT hZ (hw _ (List.mem_of_getElem? (i := 7) rfl))) (g := (mkF m 48 #[iv p1, iv p2, iv p3, iv (1 : Int32), iv ng, .val (.double (FP.dmul (FP.i2d p2) (5039527983027585024 : UInt64))), .second, .unset, .unset, .unset, .unset, .unset] [(.float (FP.i2f p2))])) rfl (hb hby at_48) _ ?_
      show own_S p e below s₁ m 50 #[iv p1, iv p2, iv p3, iv (1 : Int32), iv ng, .val (.double (FP.dmul (FP.i2d p2) (5039527983027585024 : UInt64))), .second, .unset, .unset, .unset, .unset, .unset] [(.float (1870659584 : UInt32)), (.float (FP.i2f p2))] _
      refine XS.fmulS X0.here hx rfl (hb hby at_50) rfl (Jvm.FP.Core.OwnQ.fmul_nn _ (by unfold Jvm.Free.Fl.Fin32; decide)) (v := (FP.fmul (FP.i2f p2) (1870659584 : UInt32))) rfl ?_
      show own_S p e below s₁ m 51 #[iv p1, iv p2, iv p3, iv (1 : Int32), iv ng, .val (.double (FP.dmul (FP.i2d p2) (5039527983027585024 : UInt64))), .second, .unset, .unset, .unset, .unset, .unset] [(.float (FP.fmul (FP.i2f p2) (1870659584 : UInt32)))] _
      refine XS.fstore X0.here hx rfl (hb hby at_51) rfl (l' := #[iv p1, iv p2, iv p3, iv (1 : Int32), iv ng, .val (.double (FP.dmul (FP.i2d p2) (5039527983027585024 : UInt64))), .second, .val (.float (FP.fmul (FP.i2f p2) (1870659584 : UInt32))), .unset, .unset, .unset, .unset]) rfl ?_
      show own_S p e below s₁ m 53 #[iv p1, iv p2, iv p3, iv (1 : Int32), iv ng, .val (.double (FP.dmul (FP.i2d p2) (5039527983027585024 : UInt64))), .second, .val (.float (FP.fmul (FP.i2f p2) (1870659584 : UInt32))), .unset, .unset, .unset, .unset] [] _
      refine XS.goto X0.here hx rfl (pc0 := 53) (pc' := 335) rfl (hb hby at_53) (by decide) (by decide) ?_
      show own_S p e below s₁ m 335 #[iv p1, iv p2, iv p3, iv (1 : Int32), iv ng, .val (.double (FP.dmul (FP.i2d p2) (5039527983027585024 : UInt64))), .second, .val (.float (FP.fmul (FP.i2f p2) (1870659584 : UInt32))), .unset, .unset, .unset, .unset] [] _
      refine XS.dload X0.here hx rfl (hb hby at_335) rfl ?_
      show own_S p e below s₁ m 337 #[iv p1, iv p2, iv p3, iv (1 : Int32), iv ng, .val (.double (FP.dmul (FP.i2d p2) (5039527983027585024 : UInt64))), .second, .val (.float (FP.fmul (FP.i2f p2) (1870659584 : UInt32))), .unset, .unset, .unset, .unset] [(.double (FP.dmul (FP.i2d p2) (5039527983027585024 : UInt64)))] _
      refine st9 _ ?_
      show own_S p e below T9 m 340 #[iv p1, iv p2, iv p3, iv (1 : Int32), iv ng, .val (.double (FP.dmul (FP.i2d p2) (5039527983027585024 : UInt64))), .second, .val (.float (FP.fmul (FP.i2f p2) (1870659584 : UInt32))), .unset, .unset, .unset, .unset] [(.float (Jvm.FP.Core.OwnQ.nw (FP.dmul (FP.i2d p2) (5039527983027585024 : UInt64))))] _
      refine XS.fload X9.here hx rfl (hb hby at_340) rfl ?_
      show own_S p e below T9 m 342 #[iv p1, iv p2, iv p3, iv (1 : Int32), iv ng, .val (.double (FP.dmul (FP.i2d p2) (5039527983027585024 : UInt64))), .second, .val (.float (FP.fmul (FP.i2f p2) (1870659584 : UInt32))), .unset, .unset, .unset, .unset] [(.float (FP.fmul (FP.i2f p2) (1870659584 : UInt32))), (.float (Jvm.FP.Core.OwnQ.nw (FP.dmul (FP.i2d p2) (5039527983027585024 : UInt64))))] _
      refine XS.fcmpS X9.here hx rfl (hb hby at_342) rfl (v := (0 : Int32)) hgood.2 ?_
      show own_S p e below T9 m 343 #[iv p1, iv p2, iv p3, iv (1 : Int32), iv ng, .val (.double (FP.dmul (FP.i2d p2) (5039527983027585024 : UInt64))), .second, .val (.float (FP.fmul (FP.i2f p2) (1870659584 : UInt32))), .unset, .unset, .unset, .unset] [(.int (0 : Int32))] _
      refine XS.ifNo X9.here hx rfl (hb hby at_343) rfl ((if0 _ _).trans (teq (by decide : (0 : Int32) = (0 : Int32))).2) ?_
      show own_S p e below T9 m 346 #[iv p1, iv p2, iv p3, iv (1 : Int32), iv ng, .val (.double (FP.dmul (FP.i2d p2) (5039527983027585024 : UInt64))), .second, .val (.float (FP.fmul (FP.i2f p2) (1870659584 : UInt32))), .unset, .unset, .unset, .unset] [] _
      refine XS.iconst X9.here hx rfl (hb hby at_346) ?_
      show own_S p e below T9 m 347 #[iv p1, iv p2, iv p3, iv (1 : Int32), iv ng, .val (.double (FP.dmul (FP.i2d p2) (5039527983027585024 : UInt64))), .second, .val (.float (FP.fmul (FP.i2f p2) (1870659584 : UInt32))), .unset, .unset, .unset, .unset] [(.int (1 : Int32))] _
      refine XS.goto X9.here hx rfl (pc0 := 347) (pc' := 351) rfl (hb hby at_347) (by decide) (by decide) ?_
      exact k)
    obtain ⟨fs, hr, hrun, hended, hW, hsame⟩ := X9.leave (v := some (.int (nar .boolean (1 : Int32)))) (fun h => by rw [Bd.returns] at h; cases h)
    refine ⟨_, _, pre10 _ ?_, hrun, hended, _, _, rfl, ?_, ⟨_, rfl⟩, hW, hsame.mono (by decide) (by decide)⟩
    · show own_S p e below T9 m 351 #[iv p1, iv p2, iv p3, iv (1 : Int32), iv ng, .val (.double (FP.dmul (FP.i2d p2) (5039527983027585024 : UInt64))), .second, .val (.float (FP.fmul (FP.i2f p2) (1870659584 : UInt32))), .unset, .unset, .unset, .unset] [(.int (1 : Int32))] _
      exact retN X9 hx (t := .boolean) Bd.returns (by simp) (hb hby at_351) hr
    · show Q0 Z p1 p2 p3 h0 n0 _ T9.heap _
      rw [e9]
      exact ⟨rfl, N9⟩
  ·  -- case
    have hgood : Jvm.FP.Core.OwnQ.Good0 (FP.dmul (FP.i2d p2) (4156822456062967808 : UInt64)) (FP.fmul (FP.i2f p2) (226492416 : UInt32)) := (Jvm.FP.Core.OwnQ.mode2 p2)
    obtain ⟨_, _, ⟨T11, L11, k11, n11⟩, -, X11, ⟨Lc11, hQ11, l11, y11, z11⟩, st11⟩ := Jvm.LawKit.callS X0 hx (y := (⟨"com/example/converge/converge/compiler/FloatText", "narrow", "(D)F"⟩ : MethodName)) hown (mvT hZ (hw _ (List.mem_of_getElem? (i := 0) rfl))) (mvT hZ (hw _ (List.mem_of_getElem? (i := 1) rfl))) (mvT hZ (hw _ (List.mem_of_getElem? (i := 2) rfl))) (mvT hZ (hw _ (List.mem_of_getElem? (i := 3) rfl))) (by decide) (backOf (W := 0) (rm1 l Z a0 hw [] (FP.dmul (FP.i2d p2) (4156822456062967808 : UInt64)) h0 n0 Z0 hgood.1) hZ (hw _ (List.mem_of_getElem? (i := 3) rfl)) (hw _ (List.mem_of_getElem? (i := 2) rfl)) (by decide) (by decide)) (g := (mkF m 337 #[iv p1, iv p2, iv p3, iv (2 : Int32), iv ng, .val (.double (FP.dmul (FP.i2d p2) (4156822456062967808 : UInt64))), .second, .val (.float (FP.fmul (FP.i2f p2) (226492416 : UInt32))), .unset, .unset, .unset, .unset] [(.double (FP.dmul (FP.i2d p2) (4156822456062967808 : UInt64)))])) rfl (by rw [hml]; rfl) (argsL := [(.double (FP.dmul (FP.i2d p2) (4156822456062967808 : UInt64)))]) (rest := []) (lenOf pd_0 rfl) rfl (by show 2 * 0 + _ ≤ _; exact Nat.le_of_eq rfl) (hb hby at_337) (fun _ _ => ⟨rfl, e0, (by decide : 0 + 0 ≤ _), (by decide : 0 + 0 ≤ _)⟩)
    dsimp only [Pt.U, Pt.locs, Pt.cells, Pt.slots] at X11 l11 y11 z11 st11 hQ11
    subst l11 y11 z11
    obtain ⟨rfl, N11q, e11q⟩ := hQ11
    have N11 := Fr.app N0 N11q
    have e11 : T11.heap = h0 := e11q
    have pre12 : ∀ tg, own_S p e below T11 m 351 #[iv p1, iv p2, iv p3, iv (2 : Int32), iv ng, .val (.double (FP.dmul (FP.i2d p2) (4156822456062967808 : UInt64))), .second, .val (.float (FP.fmul (FP.i2f p2) (226492416 : UInt32))), .unset, .unset, .unset, .unset] [(.int (1 : Int32))] tg → Steps p.tables e below (s₁.setTop (entryFrame m #[(.int p1), (.int p2), (.int p3)] maxLocals)) tg := fun tg k => pre6 tg (by
      show own_S p e below s₁ m 18 #[iv p1, iv p2, iv p3, iv (2 : Int32), iv ng, .unset, .unset, .unset, .unset, .unset, .unset, .unset] [] _
      refine XS.iloadN X0.here hx rfl (hb hby at_18) rfl ?_
      show own_S p e below s₁ m 19 #[iv p1, iv p2, iv p3, iv (2 : Int32), iv ng, .unset, .unset, .unset, .unset, .unset, .unset, .unset] [(.int (2 : Int32))] _
      refine XS.ifYes X0.here hx rfl (pc0 := 19) (pc' := 33) rfl (hb hby at_19) rfl ((if0 _ _).trans (feq (by decide : ¬ ((2 : Int32) = (0 : Int32)))).2) (by decide) (by decide) ?_
      show own_S p e below s₁ m 33 #[iv p1, iv p2, iv p3, iv (2 : Int32), iv ng, .unset, .unset, .unset, .unset, .unset, .unset, .unset] [] _
      refine XS.iloadN X0.here hx rfl (hb hby at_33) rfl ?_
      show own_S p e below s₁ m 34 #[iv p1, iv p2, iv p3, iv (2 : Int32), iv ng, .unset, .unset, .unset, .unset, .unset, .unset, .unset] [(.int (2 : Int32))] _
      refine XS.iconst X0.here hx rfl (hb hby at_34) ?_
      show own_S p e below s₁ m 35 #[iv p1, iv p2, iv p3, iv (2 : Int32), iv ng, .unset, .unset, .unset, .unset, .unset, .unset, .unset] [(.int (1 : Int32)), (.int (2 : Int32))] _
      refine XS.icmpYes X0.here hx rfl (pc0 := 35) (pc' := 56) rfl (hb hby at_35) rfl (feq (by decide : ¬ ((2 : Int32) = (1 : Int32)))).2 (by decide) (by decide) ?_
      show own_S p e below s₁ m 56 #[iv p1, iv p2, iv p3, iv (2 : Int32), iv ng, .unset, .unset, .unset, .unset, .unset, .unset, .unset] [] _
      refine XS.iloadN X0.here hx rfl (hb hby at_56) rfl ?_
      show own_S p e below s₁ m 57 #[iv p1, iv p2, iv p3, iv (2 : Int32), iv ng, .unset, .unset, .unset, .unset, .unset, .unset, .unset] [(.int (2 : Int32))] _
      refine XS.iconst X0.here hx rfl (hb hby at_57) ?_
      show own_S p e below s₁ m 58 #[iv p1, iv p2, iv p3, iv (2 : Int32), iv ng, .unset, .unset, .unset, .unset, .unset, .unset, .unset] [(.int (2 : Int32)), (.int (2 : Int32))] _
      refine XS.icmpNo X0.here hx rfl (hb hby at_58) rfl (teq (by decide : (2 : Int32) = (2 : Int32))).2 ?_
      show own_S p e below s₁ m 61 #[iv p1, iv p2, iv p3, iv (2 : Int32), iv ng, .unset, .unset, .unset, .unset, .unset, .unset, .unset] [] _
      refine XS.iloadN X0.here hx rfl (hb hby at_61) rfl ?_
      show own_S p e below s₁ m 62 #[iv p1, iv p2, iv p3, iv (2 : Int32), iv ng, .unset, .unset, .unset, .unset, .unset, .unset, .unset] [(.int p2)] _
      refine XS.i2dS X0.here hx rfl (hb hby at_62) rfl rfl ?_
      show own_S p e below s₁ m 63 #[iv p1, iv p2, iv p3, iv (2 : Int32), iv ng, .unset, .unset, .unset, .unset, .unset, .unset, .unset] [(.double (FP.i2d p2))] _
      refine X0.ldc2DoubleC hx hown (mvT hZ (hw _ (List.mem_of_getElem? (i := 13) rfl))) (g := (mkF m 63 #[iv p1, iv p2, iv p3, iv (2 : Int32), iv ng, .unset, .unset, .unset, .unset, .unset, .unset, .unset] [(.double (FP.i2d p2))])) rfl (hb hby at_63) _ ?_
      show own_S p e below s₁ m 66 #[iv p1, iv p2, iv p3, iv (2 : Int32), iv ng, .unset, .unset, .unset, .unset, .unset, .unset, .unset] [(.double (4156822456062967808 : UInt64)), (.double (FP.i2d p2))] _
      refine XS.dmulS X0.here hx rfl (hb hby at_66) rfl (Jvm.FP.Core.OwnQ.dmul_nn Jvm.FP.Core.OwnQ.Dm100 (by decide) (by decide)) (v := (FP.dmul (FP.i2d p2) (4156822456062967808 : UInt64))) rfl ?_
      show own_S p e below s₁ m 67 #[iv p1, iv p2, iv p3, iv (2 : Int32), iv ng, .unset, .unset, .unset, .unset, .unset, .unset, .unset] [(.double (FP.dmul (FP.i2d p2) (4156822456062967808 : UInt64)))] _
      refine XS.dstore X0.here hx rfl (hb hby at_67) rfl (l' := #[iv p1, iv p2, iv p3, iv (2 : Int32), iv ng, .val (.double (FP.dmul (FP.i2d p2) (4156822456062967808 : UInt64))), .second, .unset, .unset, .unset, .unset, .unset]) rfl ?_
      show own_S p e below s₁ m 69 #[iv p1, iv p2, iv p3, iv (2 : Int32), iv ng, .val (.double (FP.dmul (FP.i2d p2) (4156822456062967808 : UInt64))), .second, .unset, .unset, .unset, .unset, .unset] [] _
      refine XS.iloadN X0.here hx rfl (hb hby at_69) rfl ?_
      show own_S p e below s₁ m 70 #[iv p1, iv p2, iv p3, iv (2 : Int32), iv ng, .val (.double (FP.dmul (FP.i2d p2) (4156822456062967808 : UInt64))), .second, .unset, .unset, .unset, .unset, .unset] [(.int p2)] _
      refine XS.i2fS X0.here hx rfl (hb hby at_70) rfl rfl ?_
      show own_S p e below s₁ m 71 #[iv p1, iv p2, iv p3, iv (2 : Int32), iv ng, .val (.double (FP.dmul (FP.i2d p2) (4156822456062967808 : UInt64))), .second, .unset, .unset, .unset, .unset, .unset] [(.float (FP.i2f p2))] _
      refine X0.ldcFloatC hx hown (mvT hZ (hw _ (List.mem_of_getElem? (i := 14) rfl))) (g := (mkF m 71 #[iv p1, iv p2, iv p3, iv (2 : Int32), iv ng, .val (.double (FP.dmul (FP.i2d p2) (4156822456062967808 : UInt64))), .second, .unset, .unset, .unset, .unset, .unset] [(.float (FP.i2f p2))])) rfl (hb hby at_71) _ ?_
      show own_S p e below s₁ m 73 #[iv p1, iv p2, iv p3, iv (2 : Int32), iv ng, .val (.double (FP.dmul (FP.i2d p2) (4156822456062967808 : UInt64))), .second, .unset, .unset, .unset, .unset, .unset] [(.float (226492416 : UInt32)), (.float (FP.i2f p2))] _
      refine XS.fmulS X0.here hx rfl (hb hby at_73) rfl (Jvm.FP.Core.OwnQ.fmul_nn _ (by unfold Jvm.Free.Fl.Fin32; decide)) (v := (FP.fmul (FP.i2f p2) (226492416 : UInt32))) rfl ?_
      show own_S p e below s₁ m 74 #[iv p1, iv p2, iv p3, iv (2 : Int32), iv ng, .val (.double (FP.dmul (FP.i2d p2) (4156822456062967808 : UInt64))), .second, .unset, .unset, .unset, .unset, .unset] [(.float (FP.fmul (FP.i2f p2) (226492416 : UInt32)))] _
      refine XS.fstore X0.here hx rfl (hb hby at_74) rfl (l' := #[iv p1, iv p2, iv p3, iv (2 : Int32), iv ng, .val (.double (FP.dmul (FP.i2d p2) (4156822456062967808 : UInt64))), .second, .val (.float (FP.fmul (FP.i2f p2) (226492416 : UInt32))), .unset, .unset, .unset, .unset]) rfl ?_
      show own_S p e below s₁ m 76 #[iv p1, iv p2, iv p3, iv (2 : Int32), iv ng, .val (.double (FP.dmul (FP.i2d p2) (4156822456062967808 : UInt64))), .second, .val (.float (FP.fmul (FP.i2f p2) (226492416 : UInt32))), .unset, .unset, .unset, .unset] [] _
      refine XS.goto X0.here hx rfl (pc0 := 76) (pc' := 335) rfl (hb hby at_76) (by decide) (by decide) ?_
      show own_S p e below s₁ m 335 #[iv p1, iv p2, iv p3, iv (2 : Int32), iv ng, .val (.double (FP.dmul (FP.i2d p2) (4156822456062967808 : UInt64))), .second, .val (.float (FP.fmul (FP.i2f p2) (226492416 : UInt32))), .unset, .unset, .unset, .unset] [] _
      refine XS.dload X0.here hx rfl (hb hby at_335) rfl ?_
      show own_S p e below s₁ m 337 #[iv p1, iv p2, iv p3, iv (2 : Int32), iv ng, .val (.double (FP.dmul (FP.i2d p2) (4156822456062967808 : UInt64))), .second, .val (.float (FP.fmul (FP.i2f p2) (226492416 : UInt32))), .unset, .unset, .unset, .unset] [(.double (FP.dmul (FP.i2d p2) (4156822456062967808 : UInt64)))] _
      refine st11 _ ?_
      show own_S p e below T11 m 340 #[iv p1, iv p2, iv p3, iv (2 : Int32), iv ng, .val (.double (FP.dmul (FP.i2d p2) (4156822456062967808 : UInt64))), .second, .val (.float (FP.fmul (FP.i2f p2) (226492416 : UInt32))), .unset, .unset, .unset, .unset] [(.float (Jvm.FP.Core.OwnQ.nw (FP.dmul (FP.i2d p2) (4156822456062967808 : UInt64))))] _
      refine XS.fload X11.here hx rfl (hb hby at_340) rfl ?_
      show own_S p e below T11 m 342 #[iv p1, iv p2, iv p3, iv (2 : Int32), iv ng, .val (.double (FP.dmul (FP.i2d p2) (4156822456062967808 : UInt64))), .second, .val (.float (FP.fmul (FP.i2f p2) (226492416 : UInt32))), .unset, .unset, .unset, .unset] [(.float (FP.fmul (FP.i2f p2) (226492416 : UInt32))), (.float (Jvm.FP.Core.OwnQ.nw (FP.dmul (FP.i2d p2) (4156822456062967808 : UInt64))))] _
      refine XS.fcmpS X11.here hx rfl (hb hby at_342) rfl (v := (0 : Int32)) hgood.2 ?_
      show own_S p e below T11 m 343 #[iv p1, iv p2, iv p3, iv (2 : Int32), iv ng, .val (.double (FP.dmul (FP.i2d p2) (4156822456062967808 : UInt64))), .second, .val (.float (FP.fmul (FP.i2f p2) (226492416 : UInt32))), .unset, .unset, .unset, .unset] [(.int (0 : Int32))] _
      refine XS.ifNo X11.here hx rfl (hb hby at_343) rfl ((if0 _ _).trans (teq (by decide : (0 : Int32) = (0 : Int32))).2) ?_
      show own_S p e below T11 m 346 #[iv p1, iv p2, iv p3, iv (2 : Int32), iv ng, .val (.double (FP.dmul (FP.i2d p2) (4156822456062967808 : UInt64))), .second, .val (.float (FP.fmul (FP.i2f p2) (226492416 : UInt32))), .unset, .unset, .unset, .unset] [] _
      refine XS.iconst X11.here hx rfl (hb hby at_346) ?_
      show own_S p e below T11 m 347 #[iv p1, iv p2, iv p3, iv (2 : Int32), iv ng, .val (.double (FP.dmul (FP.i2d p2) (4156822456062967808 : UInt64))), .second, .val (.float (FP.fmul (FP.i2f p2) (226492416 : UInt32))), .unset, .unset, .unset, .unset] [(.int (1 : Int32))] _
      refine XS.goto X11.here hx rfl (pc0 := 347) (pc' := 351) rfl (hb hby at_347) (by decide) (by decide) ?_
      exact k)
    obtain ⟨fs, hr, hrun, hended, hW, hsame⟩ := X11.leave (v := some (.int (nar .boolean (1 : Int32)))) (fun h => by rw [Bd.returns] at h; cases h)
    refine ⟨_, _, pre12 _ ?_, hrun, hended, _, _, rfl, ?_, ⟨_, rfl⟩, hW, hsame.mono (by decide) (by decide)⟩
    · show own_S p e below T11 m 351 #[iv p1, iv p2, iv p3, iv (2 : Int32), iv ng, .val (.double (FP.dmul (FP.i2d p2) (4156822456062967808 : UInt64))), .second, .val (.float (FP.fmul (FP.i2f p2) (226492416 : UInt32))), .unset, .unset, .unset, .unset] [(.int (1 : Int32))] _
      exact retN X11 hx (t := .boolean) Bd.returns (by simp) (hb hby at_351) hr
    · show Q0 Z p1 p2 p3 h0 n0 _ T11.heap _
      rw [e11]
      exact ⟨rfl, N11⟩
  ·  -- case
    have hgood : Jvm.FP.Core.OwnQ.Good0 (FP.dmul (FP.i2d (p2 >>> ((7 : Int32) &&& 31))) (3936146074321813504 : UInt64)) (FP.fmul (FP.i2f (p2 >>> ((7 : Int32) &&& 31))) (1 : UInt32)) := (Jvm.FP.Core.OwnQ.mode3 _ (Jvm.FP.Core.OwnQ.shr7 p2))
    obtain ⟨_, _, ⟨T13, L13, k13, n13⟩, -, X13, ⟨Lc13, hQ13, l13, y13, z13⟩, st13⟩ := Jvm.LawKit.callS X0 hx (y := (⟨"com/example/converge/converge/compiler/FloatText", "narrow", "(D)F"⟩ : MethodName)) hown (mvT hZ (hw _ (List.mem_of_getElem? (i := 0) rfl))) (mvT hZ (hw _ (List.mem_of_getElem? (i := 1) rfl))) (mvT hZ (hw _ (List.mem_of_getElem? (i := 2) rfl))) (mvT hZ (hw _ (List.mem_of_getElem? (i := 3) rfl))) (by decide) (backOf (W := 0) (rm1 l Z a0 hw [] (FP.dmul (FP.i2d (p2 >>> ((7 : Int32) &&& 31))) (3936146074321813504 : UInt64)) h0 n0 Z0 hgood.1) hZ (hw _ (List.mem_of_getElem? (i := 3) rfl)) (hw _ (List.mem_of_getElem? (i := 2) rfl)) (by decide) (by decide)) (g := (mkF m 337 #[iv p1, iv p2, iv p3, iv (3 : Int32), iv ng, .val (.double (FP.dmul (FP.i2d (p2 >>> ((7 : Int32) &&& 31))) (3936146074321813504 : UInt64))), .second, .val (.float (FP.fmul (FP.i2f (p2 >>> ((7 : Int32) &&& 31))) (1 : UInt32))), iv (p2 >>> ((7 : Int32) &&& 31)), .unset, .unset, .unset] [(.double (FP.dmul (FP.i2d (p2 >>> ((7 : Int32) &&& 31))) (3936146074321813504 : UInt64)))])) rfl (by rw [hml]; rfl) (argsL := [(.double (FP.dmul (FP.i2d (p2 >>> ((7 : Int32) &&& 31))) (3936146074321813504 : UInt64)))]) (rest := []) (lenOf pd_0 rfl) rfl (by show 2 * 0 + _ ≤ _; exact Nat.le_of_eq rfl) (hb hby at_337) (fun _ _ => ⟨rfl, e0, (by decide : 0 + 0 ≤ _), (by decide : 0 + 0 ≤ _)⟩)
    dsimp only [Pt.U, Pt.locs, Pt.cells, Pt.slots] at X13 l13 y13 z13 st13 hQ13
    subst l13 y13 z13
    obtain ⟨rfl, N13q, e13q⟩ := hQ13
    have N13 := Fr.app N0 N13q
    have e13 : T13.heap = h0 := e13q
    have pre14 : ∀ tg, own_S p e below T13 m 351 #[iv p1, iv p2, iv p3, iv (3 : Int32), iv ng, .val (.double (FP.dmul (FP.i2d (p2 >>> ((7 : Int32) &&& 31))) (3936146074321813504 : UInt64))), .second, .val (.float (FP.fmul (FP.i2f (p2 >>> ((7 : Int32) &&& 31))) (1 : UInt32))), iv (p2 >>> ((7 : Int32) &&& 31)), .unset, .unset, .unset] [(.int (1 : Int32))] tg → Steps p.tables e below (s₁.setTop (entryFrame m #[(.int p1), (.int p2), (.int p3)] maxLocals)) tg := fun tg k => pre6 tg (by
      show own_S p e below s₁ m 18 #[iv p1, iv p2, iv p3, iv (3 : Int32), iv ng, .unset, .unset, .unset, .unset, .unset, .unset, .unset] [] _
      refine XS.iloadN X0.here hx rfl (hb hby at_18) rfl ?_
      show own_S p e below s₁ m 19 #[iv p1, iv p2, iv p3, iv (3 : Int32), iv ng, .unset, .unset, .unset, .unset, .unset, .unset, .unset] [(.int (3 : Int32))] _
      refine XS.ifYes X0.here hx rfl (pc0 := 19) (pc' := 33) rfl (hb hby at_19) rfl ((if0 _ _).trans (feq (by decide : ¬ ((3 : Int32) = (0 : Int32)))).2) (by decide) (by decide) ?_
      show own_S p e below s₁ m 33 #[iv p1, iv p2, iv p3, iv (3 : Int32), iv ng, .unset, .unset, .unset, .unset, .unset, .unset, .unset] [] _
      refine XS.iloadN X0.here hx rfl (hb hby at_33) rfl ?_
      show own_S p e below s₁ m 34 #[iv p1, iv p2, iv p3, iv (3 : Int32), iv ng, .unset, .unset, .unset, .unset, .unset, .unset, .unset] [(.int (3 : Int32))] _
      refine XS.iconst X0.here hx rfl (hb hby at_34) ?_
      show own_S p e below s₁ m 35 #[iv p1, iv p2, iv p3, iv (3 : Int32), iv ng, .unset, .unset, .unset, .unset, .unset, .unset, .unset] [(.int (1 : Int32)), (.int (3 : Int32))] _
      refine XS.icmpYes X0.here hx rfl (pc0 := 35) (pc' := 56) rfl (hb hby at_35) rfl (feq (by decide : ¬ ((3 : Int32) = (1 : Int32)))).2 (by decide) (by decide) ?_
      show own_S p e below s₁ m 56 #[iv p1, iv p2, iv p3, iv (3 : Int32), iv ng, .unset, .unset, .unset, .unset, .unset, .unset, .unset] [] _
      refine XS.iloadN X0.here hx rfl (hb hby at_56) rfl ?_
      show own_S p e below s₁ m 57 #[iv p1, iv p2, iv p3, iv (3 : Int32), iv ng, .unset, .unset, .unset, .unset, .unset, .unset, .unset] [(.int (3 : Int32))] _
      refine XS.iconst X0.here hx rfl (hb hby at_57) ?_
      show own_S p e below s₁ m 58 #[iv p1, iv p2, iv p3, iv (3 : Int32), iv ng, .unset, .unset, .unset, .unset, .unset, .unset, .unset] [(.int (2 : Int32)), (.int (3 : Int32))] _
      refine XS.icmpYes X0.here hx rfl (pc0 := 58) (pc' := 79) rfl (hb hby at_58) rfl (feq (by decide : ¬ ((3 : Int32) = (2 : Int32)))).2 (by decide) (by decide) ?_
      show own_S p e below s₁ m 79 #[iv p1, iv p2, iv p3, iv (3 : Int32), iv ng, .unset, .unset, .unset, .unset, .unset, .unset, .unset] [] _
      refine XS.iloadN X0.here hx rfl (hb hby at_79) rfl ?_
      show own_S p e below s₁ m 80 #[iv p1, iv p2, iv p3, iv (3 : Int32), iv ng, .unset, .unset, .unset, .unset, .unset, .unset, .unset] [(.int (3 : Int32))] _
      refine XS.iconst X0.here hx rfl (hb hby at_80) ?_
      show own_S p e below s₁ m 81 #[iv p1, iv p2, iv p3, iv (3 : Int32), iv ng, .unset, .unset, .unset, .unset, .unset, .unset, .unset] [(.int (3 : Int32)), (.int (3 : Int32))] _
      refine XS.icmpNo X0.here hx rfl (hb hby at_81) rfl (teq (by decide : (3 : Int32) = (3 : Int32))).2 ?_
      show own_S p e below s₁ m 84 #[iv p1, iv p2, iv p3, iv (3 : Int32), iv ng, .unset, .unset, .unset, .unset, .unset, .unset, .unset] [] _
      refine XS.iloadN X0.here hx rfl (hb hby at_84) rfl ?_
      show own_S p e below s₁ m 85 #[iv p1, iv p2, iv p3, iv (3 : Int32), iv ng, .unset, .unset, .unset, .unset, .unset, .unset, .unset] [(.int p2)] _
      refine XS.bipush X0.here hx rfl (hb hby at_85) ?_
      show own_S p e below s₁ m 87 #[iv p1, iv p2, iv p3, iv (3 : Int32), iv ng, .unset, .unset, .unset, .unset, .unset, .unset, .unset] [(.int (7 : Int32)), (.int p2)] _
      refine XS.ishr X0.here hx rfl (hb hby at_87) rfl ?_
      show own_S p e below s₁ m 88 #[iv p1, iv p2, iv p3, iv (3 : Int32), iv ng, .unset, .unset, .unset, .unset, .unset, .unset, .unset] [(.int (p2 >>> ((7 : Int32) &&& 31)))] _
      refine XS.istore X0.here hx rfl (hb hby at_88) rfl (l' := #[iv p1, iv p2, iv p3, iv (3 : Int32), iv ng, .unset, .unset, .unset, iv (p2 >>> ((7 : Int32) &&& 31)), .unset, .unset, .unset]) rfl ?_
      show own_S p e below s₁ m 90 #[iv p1, iv p2, iv p3, iv (3 : Int32), iv ng, .unset, .unset, .unset, iv (p2 >>> ((7 : Int32) &&& 31)), .unset, .unset, .unset] [] _
      refine XS.iload X0.here hx rfl (hb hby at_90) rfl ?_
      show own_S p e below s₁ m 92 #[iv p1, iv p2, iv p3, iv (3 : Int32), iv ng, .unset, .unset, .unset, iv (p2 >>> ((7 : Int32) &&& 31)), .unset, .unset, .unset] [(.int (p2 >>> ((7 : Int32) &&& 31)))] _
      refine XS.i2dS X0.here hx rfl (hb hby at_92) rfl rfl ?_
      show own_S p e below s₁ m 93 #[iv p1, iv p2, iv p3, iv (3 : Int32), iv ng, .unset, .unset, .unset, iv (p2 >>> ((7 : Int32) &&& 31)), .unset, .unset, .unset] [(.double (FP.i2d (p2 >>> ((7 : Int32) &&& 31))))] _
      refine X0.ldc2DoubleC hx hown (mvT hZ (hw _ (List.mem_of_getElem? (i := 15) rfl))) (g := (mkF m 93 #[iv p1, iv p2, iv p3, iv (3 : Int32), iv ng, .unset, .unset, .unset, iv (p2 >>> ((7 : Int32) &&& 31)), .unset, .unset, .unset] [(.double (FP.i2d (p2 >>> ((7 : Int32) &&& 31))))])) rfl (hb hby at_93) _ ?_
      show own_S p e below s₁ m 96 #[iv p1, iv p2, iv p3, iv (3 : Int32), iv ng, .unset, .unset, .unset, iv (p2 >>> ((7 : Int32) &&& 31)), .unset, .unset, .unset] [(.double (3936146074321813504 : UInt64)), (.double (FP.i2d (p2 >>> ((7 : Int32) &&& 31))))] _
      refine XS.dmulS X0.here hx rfl (hb hby at_96) rfl (Jvm.FP.Core.OwnQ.dmul_nn Jvm.FP.Core.OwnQ.Dm149 (by decide) (by decide)) (v := (FP.dmul (FP.i2d (p2 >>> ((7 : Int32) &&& 31))) (3936146074321813504 : UInt64))) rfl ?_
      show own_S p e below s₁ m 97 #[iv p1, iv p2, iv p3, iv (3 : Int32), iv ng, .unset, .unset, .unset, iv (p2 >>> ((7 : Int32) &&& 31)), .unset, .unset, .unset] [(.double (FP.dmul (FP.i2d (p2 >>> ((7 : Int32) &&& 31))) (3936146074321813504 : UInt64)))] _
      refine XS.dstore X0.here hx rfl (hb hby at_97) rfl (l' := #[iv p1, iv p2, iv p3, iv (3 : Int32), iv ng, .val (.double (FP.dmul (FP.i2d (p2 >>> ((7 : Int32) &&& 31))) (3936146074321813504 : UInt64))), .second, .unset, iv (p2 >>> ((7 : Int32) &&& 31)), .unset, .unset, .unset]) rfl ?_
      show own_S p e below s₁ m 99 #[iv p1, iv p2, iv p3, iv (3 : Int32), iv ng, .val (.double (FP.dmul (FP.i2d (p2 >>> ((7 : Int32) &&& 31))) (3936146074321813504 : UInt64))), .second, .unset, iv (p2 >>> ((7 : Int32) &&& 31)), .unset, .unset, .unset] [] _
      refine XS.iload X0.here hx rfl (hb hby at_99) rfl ?_
      show own_S p e below s₁ m 101 #[iv p1, iv p2, iv p3, iv (3 : Int32), iv ng, .val (.double (FP.dmul (FP.i2d (p2 >>> ((7 : Int32) &&& 31))) (3936146074321813504 : UInt64))), .second, .unset, iv (p2 >>> ((7 : Int32) &&& 31)), .unset, .unset, .unset] [(.int (p2 >>> ((7 : Int32) &&& 31)))] _
      refine XS.i2fS X0.here hx rfl (hb hby at_101) rfl rfl ?_
      show own_S p e below s₁ m 102 #[iv p1, iv p2, iv p3, iv (3 : Int32), iv ng, .val (.double (FP.dmul (FP.i2d (p2 >>> ((7 : Int32) &&& 31))) (3936146074321813504 : UInt64))), .second, .unset, iv (p2 >>> ((7 : Int32) &&& 31)), .unset, .unset, .unset] [(.float (FP.i2f (p2 >>> ((7 : Int32) &&& 31))))] _
      refine X0.ldcFloatC hx hown (mvT hZ (hw _ (List.mem_of_getElem? (i := 16) rfl))) (g := (mkF m 102 #[iv p1, iv p2, iv p3, iv (3 : Int32), iv ng, .val (.double (FP.dmul (FP.i2d (p2 >>> ((7 : Int32) &&& 31))) (3936146074321813504 : UInt64))), .second, .unset, iv (p2 >>> ((7 : Int32) &&& 31)), .unset, .unset, .unset] [(.float (FP.i2f (p2 >>> ((7 : Int32) &&& 31))))])) rfl (hb hby at_102) _ ?_
      show own_S p e below s₁ m 104 #[iv p1, iv p2, iv p3, iv (3 : Int32), iv ng, .val (.double (FP.dmul (FP.i2d (p2 >>> ((7 : Int32) &&& 31))) (3936146074321813504 : UInt64))), .second, .unset, iv (p2 >>> ((7 : Int32) &&& 31)), .unset, .unset, .unset] [(.float (1 : UInt32)), (.float (FP.i2f (p2 >>> ((7 : Int32) &&& 31))))] _
      refine XS.fmulS X0.here hx rfl (hb hby at_104) rfl (Jvm.FP.Core.OwnQ.fmul_nn _ (by unfold Jvm.Free.Fl.Fin32; decide)) (v := (FP.fmul (FP.i2f (p2 >>> ((7 : Int32) &&& 31))) (1 : UInt32))) rfl ?_
      show own_S p e below s₁ m 105 #[iv p1, iv p2, iv p3, iv (3 : Int32), iv ng, .val (.double (FP.dmul (FP.i2d (p2 >>> ((7 : Int32) &&& 31))) (3936146074321813504 : UInt64))), .second, .unset, iv (p2 >>> ((7 : Int32) &&& 31)), .unset, .unset, .unset] [(.float (FP.fmul (FP.i2f (p2 >>> ((7 : Int32) &&& 31))) (1 : UInt32)))] _
      refine XS.fstore X0.here hx rfl (hb hby at_105) rfl (l' := #[iv p1, iv p2, iv p3, iv (3 : Int32), iv ng, .val (.double (FP.dmul (FP.i2d (p2 >>> ((7 : Int32) &&& 31))) (3936146074321813504 : UInt64))), .second, .val (.float (FP.fmul (FP.i2f (p2 >>> ((7 : Int32) &&& 31))) (1 : UInt32))), iv (p2 >>> ((7 : Int32) &&& 31)), .unset, .unset, .unset]) rfl ?_
      show own_S p e below s₁ m 107 #[iv p1, iv p2, iv p3, iv (3 : Int32), iv ng, .val (.double (FP.dmul (FP.i2d (p2 >>> ((7 : Int32) &&& 31))) (3936146074321813504 : UInt64))), .second, .val (.float (FP.fmul (FP.i2f (p2 >>> ((7 : Int32) &&& 31))) (1 : UInt32))), iv (p2 >>> ((7 : Int32) &&& 31)), .unset, .unset, .unset] [] _
      refine XS.goto X0.here hx rfl (pc0 := 107) (pc' := 335) rfl (hb hby at_107) (by decide) (by decide) ?_
      show own_S p e below s₁ m 335 #[iv p1, iv p2, iv p3, iv (3 : Int32), iv ng, .val (.double (FP.dmul (FP.i2d (p2 >>> ((7 : Int32) &&& 31))) (3936146074321813504 : UInt64))), .second, .val (.float (FP.fmul (FP.i2f (p2 >>> ((7 : Int32) &&& 31))) (1 : UInt32))), iv (p2 >>> ((7 : Int32) &&& 31)), .unset, .unset, .unset] [] _
      refine XS.dload X0.here hx rfl (hb hby at_335) rfl ?_
      show own_S p e below s₁ m 337 #[iv p1, iv p2, iv p3, iv (3 : Int32), iv ng, .val (.double (FP.dmul (FP.i2d (p2 >>> ((7 : Int32) &&& 31))) (3936146074321813504 : UInt64))), .second, .val (.float (FP.fmul (FP.i2f (p2 >>> ((7 : Int32) &&& 31))) (1 : UInt32))), iv (p2 >>> ((7 : Int32) &&& 31)), .unset, .unset, .unset] [(.double (FP.dmul (FP.i2d (p2 >>> ((7 : Int32) &&& 31))) (3936146074321813504 : UInt64)))] _
      refine st13 _ ?_
      show own_S p e below T13 m 340 #[iv p1, iv p2, iv p3, iv (3 : Int32), iv ng, .val (.double (FP.dmul (FP.i2d (p2 >>> ((7 : Int32) &&& 31))) (3936146074321813504 : UInt64))), .second, .val (.float (FP.fmul (FP.i2f (p2 >>> ((7 : Int32) &&& 31))) (1 : UInt32))), iv (p2 >>> ((7 : Int32) &&& 31)), .unset, .unset, .unset] [(.float (Jvm.FP.Core.OwnQ.nw (FP.dmul (FP.i2d (p2 >>> ((7 : Int32) &&& 31))) (3936146074321813504 : UInt64))))] _
      refine XS.fload X13.here hx rfl (hb hby at_340) rfl ?_
      show own_S p e below T13 m 342 #[iv p1, iv p2, iv p3, iv (3 : Int32), iv ng, .val (.double (FP.dmul (FP.i2d (p2 >>> ((7 : Int32) &&& 31))) (3936146074321813504 : UInt64))), .second, .val (.float (FP.fmul (FP.i2f (p2 >>> ((7 : Int32) &&& 31))) (1 : UInt32))), iv (p2 >>> ((7 : Int32) &&& 31)), .unset, .unset, .unset] [(.float (FP.fmul (FP.i2f (p2 >>> ((7 : Int32) &&& 31))) (1 : UInt32))), (.float (Jvm.FP.Core.OwnQ.nw (FP.dmul (FP.i2d (p2 >>> ((7 : Int32) &&& 31))) (3936146074321813504 : UInt64))))] _
      refine XS.fcmpS X13.here hx rfl (hb hby at_342) rfl (v := (0 : Int32)) hgood.2 ?_
      show own_S p e below T13 m 343 #[iv p1, iv p2, iv p3, iv (3 : Int32), iv ng, .val (.double (FP.dmul (FP.i2d (p2 >>> ((7 : Int32) &&& 31))) (3936146074321813504 : UInt64))), .second, .val (.float (FP.fmul (FP.i2f (p2 >>> ((7 : Int32) &&& 31))) (1 : UInt32))), iv (p2 >>> ((7 : Int32) &&& 31)), .unset, .unset, .unset] [(.int (0 : Int32))] _
      refine XS.ifNo X13.here hx rfl (hb hby at_343) rfl ((if0 _ _).trans (teq (by decide : (0 : Int32) = (0 : Int32))).2) ?_
      show own_S p e below T13 m 346 #[iv p1, iv p2, iv p3, iv (3 : Int32), iv ng, .val (.double (FP.dmul (FP.i2d (p2 >>> ((7 : Int32) &&& 31))) (3936146074321813504 : UInt64))), .second, .val (.float (FP.fmul (FP.i2f (p2 >>> ((7 : Int32) &&& 31))) (1 : UInt32))), iv (p2 >>> ((7 : Int32) &&& 31)), .unset, .unset, .unset] [] _
      refine XS.iconst X13.here hx rfl (hb hby at_346) ?_
      show own_S p e below T13 m 347 #[iv p1, iv p2, iv p3, iv (3 : Int32), iv ng, .val (.double (FP.dmul (FP.i2d (p2 >>> ((7 : Int32) &&& 31))) (3936146074321813504 : UInt64))), .second, .val (.float (FP.fmul (FP.i2f (p2 >>> ((7 : Int32) &&& 31))) (1 : UInt32))), iv (p2 >>> ((7 : Int32) &&& 31)), .unset, .unset, .unset] [(.int (1 : Int32))] _
      refine XS.goto X13.here hx rfl (pc0 := 347) (pc' := 351) rfl (hb hby at_347) (by decide) (by decide) ?_
      exact k)
    obtain ⟨fs, hr, hrun, hended, hW, hsame⟩ := X13.leave (v := some (.int (nar .boolean (1 : Int32)))) (fun h => by rw [Bd.returns] at h; cases h)
    refine ⟨_, _, pre14 _ ?_, hrun, hended, _, _, rfl, ?_, ⟨_, rfl⟩, hW, hsame.mono (by decide) (by decide)⟩
    · show own_S p e below T13 m 351 #[iv p1, iv p2, iv p3, iv (3 : Int32), iv ng, .val (.double (FP.dmul (FP.i2d (p2 >>> ((7 : Int32) &&& 31))) (3936146074321813504 : UInt64))), .second, .val (.float (FP.fmul (FP.i2f (p2 >>> ((7 : Int32) &&& 31))) (1 : UInt32))), iv (p2 >>> ((7 : Int32) &&& 31)), .unset, .unset, .unset] [(.int (1 : Int32))] _
      exact retN X13 hx (t := .boolean) Bd.returns (by simp) (hb hby at_351) hr
    · show Q0 Z p1 p2 p3 h0 n0 _ T13.heap _
      rw [e13]
      exact ⟨rfl, N13⟩
  ·  -- case
    have pre16 : ∀ tg, own_S p e below s₁ m 127 #[iv p1, iv p2, iv p3, iv (4 : Int32), iv ng, .val (.double (FP.dmul (FP.i2d p2) (5147614374084476928 : UInt64))), .second, .unset, .unset, .unset, .unset, .unset] [(.int (255 : Int32)), (.int p2)] tg → Steps p.tables e below (s₁.setTop (entryFrame m #[(.int p1), (.int p2), (.int p3)] maxLocals)) tg := fun tg k => pre6 tg (by
      show own_S p e below s₁ m 18 #[iv p1, iv p2, iv p3, iv (4 : Int32), iv ng, .unset, .unset, .unset, .unset, .unset, .unset, .unset] [] _
      refine XS.iloadN X0.here hx rfl (hb hby at_18) rfl ?_
      show own_S p e below s₁ m 19 #[iv p1, iv p2, iv p3, iv (4 : Int32), iv ng, .unset, .unset, .unset, .unset, .unset, .unset, .unset] [(.int (4 : Int32))] _
      refine XS.ifYes X0.here hx rfl (pc0 := 19) (pc' := 33) rfl (hb hby at_19) rfl ((if0 _ _).trans (feq (by decide : ¬ ((4 : Int32) = (0 : Int32)))).2) (by decide) (by decide) ?_
      show own_S p e below s₁ m 33 #[iv p1, iv p2, iv p3, iv (4 : Int32), iv ng, .unset, .unset, .unset, .unset, .unset, .unset, .unset] [] _
      refine XS.iloadN X0.here hx rfl (hb hby at_33) rfl ?_
      show own_S p e below s₁ m 34 #[iv p1, iv p2, iv p3, iv (4 : Int32), iv ng, .unset, .unset, .unset, .unset, .unset, .unset, .unset] [(.int (4 : Int32))] _
      refine XS.iconst X0.here hx rfl (hb hby at_34) ?_
      show own_S p e below s₁ m 35 #[iv p1, iv p2, iv p3, iv (4 : Int32), iv ng, .unset, .unset, .unset, .unset, .unset, .unset, .unset] [(.int (1 : Int32)), (.int (4 : Int32))] _
      refine XS.icmpYes X0.here hx rfl (pc0 := 35) (pc' := 56) rfl (hb hby at_35) rfl (feq (by decide : ¬ ((4 : Int32) = (1 : Int32)))).2 (by decide) (by decide) ?_
      show own_S p e below s₁ m 56 #[iv p1, iv p2, iv p3, iv (4 : Int32), iv ng, .unset, .unset, .unset, .unset, .unset, .unset, .unset] [] _
      refine XS.iloadN X0.here hx rfl (hb hby at_56) rfl ?_
      show own_S p e below s₁ m 57 #[iv p1, iv p2, iv p3, iv (4 : Int32), iv ng, .unset, .unset, .unset, .unset, .unset, .unset, .unset] [(.int (4 : Int32))] _
      refine XS.iconst X0.here hx rfl (hb hby at_57) ?_
      show own_S p e below s₁ m 58 #[iv p1, iv p2, iv p3, iv (4 : Int32), iv ng, .unset, .unset, .unset, .unset, .unset, .unset, .unset] [(.int (2 : Int32)), (.int (4 : Int32))] _
      refine XS.icmpYes X0.here hx rfl (pc0 := 58) (pc' := 79) rfl (hb hby at_58) rfl (feq (by decide : ¬ ((4 : Int32) = (2 : Int32)))).2 (by decide) (by decide) ?_
      show own_S p e below s₁ m 79 #[iv p1, iv p2, iv p3, iv (4 : Int32), iv ng, .unset, .unset, .unset, .unset, .unset, .unset, .unset] [] _
      refine XS.iloadN X0.here hx rfl (hb hby at_79) rfl ?_
      show own_S p e below s₁ m 80 #[iv p1, iv p2, iv p3, iv (4 : Int32), iv ng, .unset, .unset, .unset, .unset, .unset, .unset, .unset] [(.int (4 : Int32))] _
      refine XS.iconst X0.here hx rfl (hb hby at_80) ?_
      show own_S p e below s₁ m 81 #[iv p1, iv p2, iv p3, iv (4 : Int32), iv ng, .unset, .unset, .unset, .unset, .unset, .unset, .unset] [(.int (3 : Int32)), (.int (4 : Int32))] _
      refine XS.icmpYes X0.here hx rfl (pc0 := 81) (pc' := 110) rfl (hb hby at_81) rfl (feq (by decide : ¬ ((4 : Int32) = (3 : Int32)))).2 (by decide) (by decide) ?_
      show own_S p e below s₁ m 110 #[iv p1, iv p2, iv p3, iv (4 : Int32), iv ng, .unset, .unset, .unset, .unset, .unset, .unset, .unset] [] _
      refine XS.iloadN X0.here hx rfl (hb hby at_110) rfl ?_
      show own_S p e below s₁ m 111 #[iv p1, iv p2, iv p3, iv (4 : Int32), iv ng, .unset, .unset, .unset, .unset, .unset, .unset, .unset] [(.int (4 : Int32))] _
      refine XS.iconst X0.here hx rfl (hb hby at_111) ?_
      show own_S p e below s₁ m 112 #[iv p1, iv p2, iv p3, iv (4 : Int32), iv ng, .unset, .unset, .unset, .unset, .unset, .unset, .unset] [(.int (4 : Int32)), (.int (4 : Int32))] _
      refine XS.icmpNo X0.here hx rfl (hb hby at_112) rfl (teq (by decide : (4 : Int32) = (4 : Int32))).2 ?_
      show own_S p e below s₁ m 115 #[iv p1, iv p2, iv p3, iv (4 : Int32), iv ng, .unset, .unset, .unset, .unset, .unset, .unset, .unset] [] _
      refine XS.iloadN X0.here hx rfl (hb hby at_115) rfl ?_
      show own_S p e below s₁ m 116 #[iv p1, iv p2, iv p3, iv (4 : Int32), iv ng, .unset, .unset, .unset, .unset, .unset, .unset, .unset] [(.int p2)] _
      refine XS.i2dS X0.here hx rfl (hb hby at_116) rfl rfl ?_
      show own_S p e below s₁ m 117 #[iv p1, iv p2, iv p3, iv (4 : Int32), iv ng, .unset, .unset, .unset, .unset, .unset, .unset, .unset] [(.double (FP.i2d p2))] _
      refine X0.ldc2DoubleC hx hown (mvT hZ (hw _ (List.mem_of_getElem? (i := 8) rfl))) (g := (mkF m 117 #[iv p1, iv p2, iv p3, iv (4 : Int32), iv ng, .unset, .unset, .unset, .unset, .unset, .unset, .unset] [(.double (FP.i2d p2))])) rfl (hb hby at_117) _ ?_
      show own_S p e below s₁ m 120 #[iv p1, iv p2, iv p3, iv (4 : Int32), iv ng, .unset, .unset, .unset, .unset, .unset, .unset, .unset] [(.double (5147614374084476928 : UInt64)), (.double (FP.i2d p2))] _
      refine XS.dmulS X0.here hx rfl (hb hby at_120) rfl (Jvm.FP.Core.OwnQ.dmul_nn Jvm.FP.Core.OwnQ.D120 (by decide) (by decide)) (v := (FP.dmul (FP.i2d p2) (5147614374084476928 : UInt64))) rfl ?_
      show own_S p e below s₁ m 121 #[iv p1, iv p2, iv p3, iv (4 : Int32), iv ng, .unset, .unset, .unset, .unset, .unset, .unset, .unset] [(.double (FP.dmul (FP.i2d p2) (5147614374084476928 : UInt64)))] _
      refine XS.dstore X0.here hx rfl (hb hby at_121) rfl (l' := #[iv p1, iv p2, iv p3, iv (4 : Int32), iv ng, .val (.double (FP.dmul (FP.i2d p2) (5147614374084476928 : UInt64))), .second, .unset, .unset, .unset, .unset, .unset]) rfl ?_
      show own_S p e below s₁ m 123 #[iv p1, iv p2, iv p3, iv (4 : Int32), iv ng, .val (.double (FP.dmul (FP.i2d p2) (5147614374084476928 : UInt64))), .second, .unset, .unset, .unset, .unset, .unset] [] _
      refine XS.iloadN X0.here hx rfl (hb hby at_123) rfl ?_
      show own_S p e below s₁ m 124 #[iv p1, iv p2, iv p3, iv (4 : Int32), iv ng, .val (.double (FP.dmul (FP.i2d p2) (5147614374084476928 : UInt64))), .second, .unset, .unset, .unset, .unset, .unset] [(.int p2)] _
      refine XS.sipush X0.here hx rfl (hb hby at_124) ?_
      exact k)
    by_cases hc127_15 : (255 : Int32) < p2
    ·  -- pc 127 yes
      have hgood : Jvm.FP.Core.OwnQ.Good0 (FP.dmul (FP.i2d p2) (5147614374084476928 : UInt64)) (2139095040 : UInt32) := (Jvm.FP.Core.OwnQ.mode4h p2 (own_gt hc127_15 (by decide)))
      obtain ⟨_, _, ⟨T17, L17, k17, n17⟩, -, X17, ⟨Lc17, hQ17, l17, y17, z17⟩, st17⟩ := Jvm.LawKit.callS X0 hx (y := (⟨"com/example/converge/converge/compiler/FloatText", "narrow", "(D)F"⟩ : MethodName)) hown (mvT hZ (hw _ (List.mem_of_getElem? (i := 0) rfl))) (mvT hZ (hw _ (List.mem_of_getElem? (i := 1) rfl))) (mvT hZ (hw _ (List.mem_of_getElem? (i := 2) rfl))) (mvT hZ (hw _ (List.mem_of_getElem? (i := 3) rfl))) (by decide) (backOf (W := 0) (rm1 l Z a0 hw [] (FP.dmul (FP.i2d p2) (5147614374084476928 : UInt64)) h0 n0 Z0 hgood.1) hZ (hw _ (List.mem_of_getElem? (i := 3) rfl)) (hw _ (List.mem_of_getElem? (i := 2) rfl)) (by decide) (by decide)) (g := (mkF m 337 #[iv p1, iv p2, iv p3, iv (4 : Int32), iv ng, .val (.double (FP.dmul (FP.i2d p2) (5147614374084476928 : UInt64))), .second, .val (.float (2139095040 : UInt32)), .unset, .unset, .unset, .unset] [(.double (FP.dmul (FP.i2d p2) (5147614374084476928 : UInt64)))])) rfl (by rw [hml]; rfl) (argsL := [(.double (FP.dmul (FP.i2d p2) (5147614374084476928 : UInt64)))]) (rest := []) (lenOf pd_0 rfl) rfl (by show 2 * 0 + _ ≤ _; exact Nat.le_of_eq rfl) (hb hby at_337) (fun _ _ => ⟨rfl, e0, (by decide : 0 + 0 ≤ _), (by decide : 0 + 0 ≤ _)⟩)
      dsimp only [Pt.U, Pt.locs, Pt.cells, Pt.slots] at X17 l17 y17 z17 st17 hQ17
      subst l17 y17 z17
      obtain ⟨rfl, N17q, e17q⟩ := hQ17
      have N17 := Fr.app N0 N17q
      have e17 : T17.heap = h0 := e17q
      have pre18 : ∀ tg, own_S p e below T17 m 351 #[iv p1, iv p2, iv p3, iv (4 : Int32), iv ng, .val (.double (FP.dmul (FP.i2d p2) (5147614374084476928 : UInt64))), .second, .val (.float (2139095040 : UInt32)), .unset, .unset, .unset, .unset] [(.int (1 : Int32))] tg → Steps p.tables e below (s₁.setTop (entryFrame m #[(.int p1), (.int p2), (.int p3)] maxLocals)) tg := fun tg k => pre16 tg (by
        show own_S p e below s₁ m 127 #[iv p1, iv p2, iv p3, iv (4 : Int32), iv ng, .val (.double (FP.dmul (FP.i2d p2) (5147614374084476928 : UInt64))), .second, .unset, .unset, .unset, .unset, .unset] [(.int (255 : Int32)), (.int p2)] _
        refine XS.icmpNo X0.here hx rfl (hb hby at_127) rfl (tlt hc127_15).2.2.2 ?_
        show own_S p e below s₁ m 130 #[iv p1, iv p2, iv p3, iv (4 : Int32), iv ng, .val (.double (FP.dmul (FP.i2d p2) (5147614374084476928 : UInt64))), .second, .unset, .unset, .unset, .unset, .unset] [] _
        refine X0.ldcFloatC hx hown (mvT hZ (hw _ (List.mem_of_getElem? (i := 21) rfl))) (g := (mkF m 130 #[iv p1, iv p2, iv p3, iv (4 : Int32), iv ng, .val (.double (FP.dmul (FP.i2d p2) (5147614374084476928 : UInt64))), .second, .unset, .unset, .unset, .unset, .unset] [])) rfl (hb hby at_130) _ ?_
        show own_S p e below s₁ m 132 #[iv p1, iv p2, iv p3, iv (4 : Int32), iv ng, .val (.double (FP.dmul (FP.i2d p2) (5147614374084476928 : UInt64))), .second, .unset, .unset, .unset, .unset, .unset] [(.float (2139095040 : UInt32))] _
        refine XS.fstore X0.here hx rfl (hb hby at_132) rfl (l' := #[iv p1, iv p2, iv p3, iv (4 : Int32), iv ng, .val (.double (FP.dmul (FP.i2d p2) (5147614374084476928 : UInt64))), .second, .val (.float (2139095040 : UInt32)), .unset, .unset, .unset, .unset]) rfl ?_
        show own_S p e below s₁ m 134 #[iv p1, iv p2, iv p3, iv (4 : Int32), iv ng, .val (.double (FP.dmul (FP.i2d p2) (5147614374084476928 : UInt64))), .second, .val (.float (2139095040 : UInt32)), .unset, .unset, .unset, .unset] [] _
        refine XS.goto X0.here hx rfl (pc0 := 134) (pc' := 335) rfl (hb hby at_134) (by decide) (by decide) ?_
        show own_S p e below s₁ m 335 #[iv p1, iv p2, iv p3, iv (4 : Int32), iv ng, .val (.double (FP.dmul (FP.i2d p2) (5147614374084476928 : UInt64))), .second, .val (.float (2139095040 : UInt32)), .unset, .unset, .unset, .unset] [] _
        refine XS.dload X0.here hx rfl (hb hby at_335) rfl ?_
        show own_S p e below s₁ m 337 #[iv p1, iv p2, iv p3, iv (4 : Int32), iv ng, .val (.double (FP.dmul (FP.i2d p2) (5147614374084476928 : UInt64))), .second, .val (.float (2139095040 : UInt32)), .unset, .unset, .unset, .unset] [(.double (FP.dmul (FP.i2d p2) (5147614374084476928 : UInt64)))] _
        refine st17 _ ?_
        show own_S p e below T17 m 340 #[iv p1, iv p2, iv p3, iv (4 : Int32), iv ng, .val (.double (FP.dmul (FP.i2d p2) (5147614374084476928 : UInt64))), .second, .val (.float (2139095040 : UInt32)), .unset, .unset, .unset, .unset] [(.float (Jvm.FP.Core.OwnQ.nw (FP.dmul (FP.i2d p2) (5147614374084476928 : UInt64))))] _
        refine XS.fload X17.here hx rfl (hb hby at_340) rfl ?_
        show own_S p e below T17 m 342 #[iv p1, iv p2, iv p3, iv (4 : Int32), iv ng, .val (.double (FP.dmul (FP.i2d p2) (5147614374084476928 : UInt64))), .second, .val (.float (2139095040 : UInt32)), .unset, .unset, .unset, .unset] [(.float (2139095040 : UInt32)), (.float (Jvm.FP.Core.OwnQ.nw (FP.dmul (FP.i2d p2) (5147614374084476928 : UInt64))))] _
        refine XS.fcmpS X17.here hx rfl (hb hby at_342) rfl (v := (0 : Int32)) hgood.2 ?_
        show own_S p e below T17 m 343 #[iv p1, iv p2, iv p3, iv (4 : Int32), iv ng, .val (.double (FP.dmul (FP.i2d p2) (5147614374084476928 : UInt64))), .second, .val (.float (2139095040 : UInt32)), .unset, .unset, .unset, .unset] [(.int (0 : Int32))] _
        refine XS.ifNo X17.here hx rfl (hb hby at_343) rfl ((if0 _ _).trans (teq (by decide : (0 : Int32) = (0 : Int32))).2) ?_
        show own_S p e below T17 m 346 #[iv p1, iv p2, iv p3, iv (4 : Int32), iv ng, .val (.double (FP.dmul (FP.i2d p2) (5147614374084476928 : UInt64))), .second, .val (.float (2139095040 : UInt32)), .unset, .unset, .unset, .unset] [] _
        refine XS.iconst X17.here hx rfl (hb hby at_346) ?_
        show own_S p e below T17 m 347 #[iv p1, iv p2, iv p3, iv (4 : Int32), iv ng, .val (.double (FP.dmul (FP.i2d p2) (5147614374084476928 : UInt64))), .second, .val (.float (2139095040 : UInt32)), .unset, .unset, .unset, .unset] [(.int (1 : Int32))] _
        refine XS.goto X17.here hx rfl (pc0 := 347) (pc' := 351) rfl (hb hby at_347) (by decide) (by decide) ?_
        exact k)
      obtain ⟨fs, hr, hrun, hended, hW, hsame⟩ := X17.leave (v := some (.int (nar .boolean (1 : Int32)))) (fun h => by rw [Bd.returns] at h; cases h)
      refine ⟨_, _, pre18 _ ?_, hrun, hended, _, _, rfl, ?_, ⟨_, rfl⟩, hW, hsame.mono (by decide) (by decide)⟩
      · show own_S p e below T17 m 351 #[iv p1, iv p2, iv p3, iv (4 : Int32), iv ng, .val (.double (FP.dmul (FP.i2d p2) (5147614374084476928 : UInt64))), .second, .val (.float (2139095040 : UInt32)), .unset, .unset, .unset, .unset] [(.int (1 : Int32))] _
        exact retN X17 hx (t := .boolean) Bd.returns (by simp) (hb hby at_351) hr
      · show Q0 Z p1 p2 p3 h0 n0 _ T17.heap _
        rw [e17]
        exact ⟨rfl, N17⟩
    ·  -- pc 127 no
      have pre20 : ∀ tg, own_S p e below s₁ m 141 #[iv p1, iv p2, iv p3, iv (4 : Int32), iv ng, .val (.double (FP.dmul (FP.i2d p2) (5147614374084476928 : UInt64))), .second, .unset, .unset, .unset, .unset, .unset] [(.int (-255 : Int32)), (.int p2)] tg → Steps p.tables e below (s₁.setTop (entryFrame m #[(.int p1), (.int p2), (.int p3)] maxLocals)) tg := fun tg k => pre16 tg (by
        show own_S p e below s₁ m 127 #[iv p1, iv p2, iv p3, iv (4 : Int32), iv ng, .val (.double (FP.dmul (FP.i2d p2) (5147614374084476928 : UInt64))), .second, .unset, .unset, .unset, .unset, .unset] [(.int (255 : Int32)), (.int p2)] _
        refine XS.icmpYes X0.here hx rfl (pc0 := 127) (pc' := 137) rfl (hb hby at_127) rfl (flt hc127_15).2.2.2 (by decide) (by decide) ?_
        show own_S p e below s₁ m 137 #[iv p1, iv p2, iv p3, iv (4 : Int32), iv ng, .val (.double (FP.dmul (FP.i2d p2) (5147614374084476928 : UInt64))), .second, .unset, .unset, .unset, .unset, .unset] [] _
        refine XS.iloadN X0.here hx rfl (hb hby at_137) rfl ?_
        show own_S p e below s₁ m 138 #[iv p1, iv p2, iv p3, iv (4 : Int32), iv ng, .val (.double (FP.dmul (FP.i2d p2) (5147614374084476928 : UInt64))), .second, .unset, .unset, .unset, .unset, .unset] [(.int p2)] _
        refine XS.sipush X0.here hx rfl (hb hby at_138) ?_
        exact k)
      by_cases hc141_19 : p2 < (-255 : Int32)
      ·  -- pc 141 yes
        have hgood : Jvm.FP.Core.OwnQ.Good0 (FP.dmul (FP.i2d p2) (5147614374084476928 : UInt64)) (4286578688 : UInt32) := (Jvm.FP.Core.OwnQ.mode4l p2 (own_lt hc141_19 (by decide)))
        obtain ⟨_, _, ⟨T21, L21, k21, n21⟩, -, X21, ⟨Lc21, hQ21, l21, y21, z21⟩, st21⟩ := Jvm.LawKit.callS X0 hx (y := (⟨"com/example/converge/converge/compiler/FloatText", "narrow", "(D)F"⟩ : MethodName)) hown (mvT hZ (hw _ (List.mem_of_getElem? (i := 0) rfl))) (mvT hZ (hw _ (List.mem_of_getElem? (i := 1) rfl))) (mvT hZ (hw _ (List.mem_of_getElem? (i := 2) rfl))) (mvT hZ (hw _ (List.mem_of_getElem? (i := 3) rfl))) (by decide) (backOf (W := 0) (rm1 l Z a0 hw [] (FP.dmul (FP.i2d p2) (5147614374084476928 : UInt64)) h0 n0 Z0 hgood.1) hZ (hw _ (List.mem_of_getElem? (i := 3) rfl)) (hw _ (List.mem_of_getElem? (i := 2) rfl)) (by decide) (by decide)) (g := (mkF m 337 #[iv p1, iv p2, iv p3, iv (4 : Int32), iv ng, .val (.double (FP.dmul (FP.i2d p2) (5147614374084476928 : UInt64))), .second, .val (.float (4286578688 : UInt32)), .unset, .unset, .unset, .unset] [(.double (FP.dmul (FP.i2d p2) (5147614374084476928 : UInt64)))])) rfl (by rw [hml]; rfl) (argsL := [(.double (FP.dmul (FP.i2d p2) (5147614374084476928 : UInt64)))]) (rest := []) (lenOf pd_0 rfl) rfl (by show 2 * 0 + _ ≤ _; exact Nat.le_of_eq rfl) (hb hby at_337) (fun _ _ => ⟨rfl, e0, (by decide : 0 + 0 ≤ _), (by decide : 0 + 0 ≤ _)⟩)
        dsimp only [Pt.U, Pt.locs, Pt.cells, Pt.slots] at X21 l21 y21 z21 st21 hQ21
        subst l21 y21 z21
        obtain ⟨rfl, N21q, e21q⟩ := hQ21
        have N21 := Fr.app N0 N21q
        have e21 : T21.heap = h0 := e21q
        have pre22 : ∀ tg, own_S p e below T21 m 351 #[iv p1, iv p2, iv p3, iv (4 : Int32), iv ng, .val (.double (FP.dmul (FP.i2d p2) (5147614374084476928 : UInt64))), .second, .val (.float (4286578688 : UInt32)), .unset, .unset, .unset, .unset] [(.int (1 : Int32))] tg → Steps p.tables e below (s₁.setTop (entryFrame m #[(.int p1), (.int p2), (.int p3)] maxLocals)) tg := fun tg k => pre20 tg (by
          show own_S p e below s₁ m 141 #[iv p1, iv p2, iv p3, iv (4 : Int32), iv ng, .val (.double (FP.dmul (FP.i2d p2) (5147614374084476928 : UInt64))), .second, .unset, .unset, .unset, .unset, .unset] [(.int (-255 : Int32)), (.int p2)] _
          refine XS.icmpNo X0.here hx rfl (hb hby at_141) rfl (tlt hc141_19).2.1 ?_
          show own_S p e below s₁ m 144 #[iv p1, iv p2, iv p3, iv (4 : Int32), iv ng, .val (.double (FP.dmul (FP.i2d p2) (5147614374084476928 : UInt64))), .second, .unset, .unset, .unset, .unset, .unset] [] _
          refine X0.ldcFloatC hx hown (mvT hZ (hw _ (List.mem_of_getElem? (i := 11) rfl))) (g := (mkF m 144 #[iv p1, iv p2, iv p3, iv (4 : Int32), iv ng, .val (.double (FP.dmul (FP.i2d p2) (5147614374084476928 : UInt64))), .second, .unset, .unset, .unset, .unset, .unset] [])) rfl (hb hby at_144) _ ?_
          show own_S p e below s₁ m 146 #[iv p1, iv p2, iv p3, iv (4 : Int32), iv ng, .val (.double (FP.dmul (FP.i2d p2) (5147614374084476928 : UInt64))), .second, .unset, .unset, .unset, .unset, .unset] [(.float (4286578688 : UInt32))] _
          refine XS.fstore X0.here hx rfl (hb hby at_146) rfl (l' := #[iv p1, iv p2, iv p3, iv (4 : Int32), iv ng, .val (.double (FP.dmul (FP.i2d p2) (5147614374084476928 : UInt64))), .second, .val (.float (4286578688 : UInt32)), .unset, .unset, .unset, .unset]) rfl ?_
          show own_S p e below s₁ m 148 #[iv p1, iv p2, iv p3, iv (4 : Int32), iv ng, .val (.double (FP.dmul (FP.i2d p2) (5147614374084476928 : UInt64))), .second, .val (.float (4286578688 : UInt32)), .unset, .unset, .unset, .unset] [] _
          refine XS.goto X0.here hx rfl (pc0 := 148) (pc' := 335) rfl (hb hby at_148) (by decide) (by decide) ?_
          show own_S p e below s₁ m 335 #[iv p1, iv p2, iv p3, iv (4 : Int32), iv ng, .val (.double (FP.dmul (FP.i2d p2) (5147614374084476928 : UInt64))), .second, .val (.float (4286578688 : UInt32)), .unset, .unset, .unset, .unset] [] _
          refine XS.dload X0.here hx rfl (hb hby at_335) rfl ?_
          show own_S p e below s₁ m 337 #[iv p1, iv p2, iv p3, iv (4 : Int32), iv ng, .val (.double (FP.dmul (FP.i2d p2) (5147614374084476928 : UInt64))), .second, .val (.float (4286578688 : UInt32)), .unset, .unset, .unset, .unset] [(.double (FP.dmul (FP.i2d p2) (5147614374084476928 : UInt64)))] _
          refine st21 _ ?_
          show own_S p e below T21 m 340 #[iv p1, iv p2, iv p3, iv (4 : Int32), iv ng, .val (.double (FP.dmul (FP.i2d p2) (5147614374084476928 : UInt64))), .second, .val (.float (4286578688 : UInt32)), .unset, .unset, .unset, .unset] [(.float (Jvm.FP.Core.OwnQ.nw (FP.dmul (FP.i2d p2) (5147614374084476928 : UInt64))))] _
          refine XS.fload X21.here hx rfl (hb hby at_340) rfl ?_
          show own_S p e below T21 m 342 #[iv p1, iv p2, iv p3, iv (4 : Int32), iv ng, .val (.double (FP.dmul (FP.i2d p2) (5147614374084476928 : UInt64))), .second, .val (.float (4286578688 : UInt32)), .unset, .unset, .unset, .unset] [(.float (4286578688 : UInt32)), (.float (Jvm.FP.Core.OwnQ.nw (FP.dmul (FP.i2d p2) (5147614374084476928 : UInt64))))] _
          refine XS.fcmpS X21.here hx rfl (hb hby at_342) rfl (v := (0 : Int32)) hgood.2 ?_
          show own_S p e below T21 m 343 #[iv p1, iv p2, iv p3, iv (4 : Int32), iv ng, .val (.double (FP.dmul (FP.i2d p2) (5147614374084476928 : UInt64))), .second, .val (.float (4286578688 : UInt32)), .unset, .unset, .unset, .unset] [(.int (0 : Int32))] _
          refine XS.ifNo X21.here hx rfl (hb hby at_343) rfl ((if0 _ _).trans (teq (by decide : (0 : Int32) = (0 : Int32))).2) ?_
          show own_S p e below T21 m 346 #[iv p1, iv p2, iv p3, iv (4 : Int32), iv ng, .val (.double (FP.dmul (FP.i2d p2) (5147614374084476928 : UInt64))), .second, .val (.float (4286578688 : UInt32)), .unset, .unset, .unset, .unset] [] _
          refine XS.iconst X21.here hx rfl (hb hby at_346) ?_
          show own_S p e below T21 m 347 #[iv p1, iv p2, iv p3, iv (4 : Int32), iv ng, .val (.double (FP.dmul (FP.i2d p2) (5147614374084476928 : UInt64))), .second, .val (.float (4286578688 : UInt32)), .unset, .unset, .unset, .unset] [(.int (1 : Int32))] _
          refine XS.goto X21.here hx rfl (pc0 := 347) (pc' := 351) rfl (hb hby at_347) (by decide) (by decide) ?_
          exact k)
        obtain ⟨fs, hr, hrun, hended, hW, hsame⟩ := X21.leave (v := some (.int (nar .boolean (1 : Int32)))) (fun h => by rw [Bd.returns] at h; cases h)
        refine ⟨_, _, pre22 _ ?_, hrun, hended, _, _, rfl, ?_, ⟨_, rfl⟩, hW, hsame.mono (by decide) (by decide)⟩
        · show own_S p e below T21 m 351 #[iv p1, iv p2, iv p3, iv (4 : Int32), iv ng, .val (.double (FP.dmul (FP.i2d p2) (5147614374084476928 : UInt64))), .second, .val (.float (4286578688 : UInt32)), .unset, .unset, .unset, .unset] [(.int (1 : Int32))] _
          exact retN X21 hx (t := .boolean) Bd.returns (by simp) (hb hby at_351) hr
        · show Q0 Z p1 p2 p3 h0 n0 _ T21.heap _
          rw [e21]
          exact ⟨rfl, N21⟩
      ·  -- pc 141 no
        have hgood : Jvm.FP.Core.OwnQ.Good0 (FP.dmul (FP.i2d p2) (5147614374084476928 : UInt64)) (FP.fmul (FP.i2f p2) (2071986176 : UInt32)) := (Jvm.FP.Core.OwnQ.mode4 p2 (own_255 hc127_15 hc141_19))
        obtain ⟨_, _, ⟨T23, L23, k23, n23⟩, -, X23, ⟨Lc23, hQ23, l23, y23, z23⟩, st23⟩ := Jvm.LawKit.callS X0 hx (y := (⟨"com/example/converge/converge/compiler/FloatText", "narrow", "(D)F"⟩ : MethodName)) hown (mvT hZ (hw _ (List.mem_of_getElem? (i := 0) rfl))) (mvT hZ (hw _ (List.mem_of_getElem? (i := 1) rfl))) (mvT hZ (hw _ (List.mem_of_getElem? (i := 2) rfl))) (mvT hZ (hw _ (List.mem_of_getElem? (i := 3) rfl))) (by decide) (backOf (W := 0) (rm1 l Z a0 hw [] (FP.dmul (FP.i2d p2) (5147614374084476928 : UInt64)) h0 n0 Z0 hgood.1) hZ (hw _ (List.mem_of_getElem? (i := 3) rfl)) (hw _ (List.mem_of_getElem? (i := 2) rfl)) (by decide) (by decide)) (g := (mkF m 337 #[iv p1, iv p2, iv p3, iv (4 : Int32), iv ng, .val (.double (FP.dmul (FP.i2d p2) (5147614374084476928 : UInt64))), .second, .val (.float (FP.fmul (FP.i2f p2) (2071986176 : UInt32))), .unset, .unset, .unset, .unset] [(.double (FP.dmul (FP.i2d p2) (5147614374084476928 : UInt64)))])) rfl (by rw [hml]; rfl) (argsL := [(.double (FP.dmul (FP.i2d p2) (5147614374084476928 : UInt64)))]) (rest := []) (lenOf pd_0 rfl) rfl (by show 2 * 0 + _ ≤ _; exact Nat.le_of_eq rfl) (hb hby at_337) (fun _ _ => ⟨rfl, e0, (by decide : 0 + 0 ≤ _), (by decide : 0 + 0 ≤ _)⟩)
        dsimp only [Pt.U, Pt.locs, Pt.cells, Pt.slots] at X23 l23 y23 z23 st23 hQ23
        subst l23 y23 z23
        obtain ⟨rfl, N23q, e23q⟩ := hQ23
        have N23 := Fr.app N0 N23q
        have e23 : T23.heap = h0 := e23q
        have pre24 : ∀ tg, own_S p e below T23 m 351 #[iv p1, iv p2, iv p3, iv (4 : Int32), iv ng, .val (.double (FP.dmul (FP.i2d p2) (5147614374084476928 : UInt64))), .second, .val (.float (FP.fmul (FP.i2f p2) (2071986176 : UInt32))), .unset, .unset, .unset, .unset] [(.int (1 : Int32))] tg → Steps p.tables e below (s₁.setTop (entryFrame m #[(.int p1), (.int p2), (.int p3)] maxLocals)) tg := fun tg k => pre20 tg (by
          show own_S p e below s₁ m 141 #[iv p1, iv p2, iv p3, iv (4 : Int32), iv ng, .val (.double (FP.dmul (FP.i2d p2) (5147614374084476928 : UInt64))), .second, .unset, .unset, .unset, .unset, .unset] [(.int (-255 : Int32)), (.int p2)] _
          refine XS.icmpYes X0.here hx rfl (pc0 := 141) (pc' := 151) rfl (hb hby at_141) rfl (flt hc141_19).2.1 (by decide) (by decide) ?_
          show own_S p e below s₁ m 151 #[iv p1, iv p2, iv p3, iv (4 : Int32), iv ng, .val (.double (FP.dmul (FP.i2d p2) (5147614374084476928 : UInt64))), .second, .unset, .unset, .unset, .unset, .unset] [] _
          refine XS.iloadN X0.here hx rfl (hb hby at_151) rfl ?_
          show own_S p e below s₁ m 152 #[iv p1, iv p2, iv p3, iv (4 : Int32), iv ng, .val (.double (FP.dmul (FP.i2d p2) (5147614374084476928 : UInt64))), .second, .unset, .unset, .unset, .unset, .unset] [(.int p2)] _
          refine XS.i2fS X0.here hx rfl (hb hby at_152) rfl rfl ?_
          show own_S p e below s₁ m 153 #[iv p1, iv p2, iv p3, iv (4 : Int32), iv ng, .val (.double (FP.dmul (FP.i2d p2) (5147614374084476928 : UInt64))), .second, .unset, .unset, .unset, .unset, .unset] [(.float (FP.i2f p2))] _
          refine X0.ldcFloatC hx hown (mvT hZ (hw _ (List.mem_of_getElem? (i := 9) rfl))) (g := (mkF m 153 #[iv p1, iv p2, iv p3, iv (4 : Int32), iv ng, .val (.double (FP.dmul (FP.i2d p2) (5147614374084476928 : UInt64))), .second, .unset, .unset, .unset, .unset, .unset] [(.float (FP.i2f p2))])) rfl (hb hby at_153) _ ?_
          show own_S p e below s₁ m 155 #[iv p1, iv p2, iv p3, iv (4 : Int32), iv ng, .val (.double (FP.dmul (FP.i2d p2) (5147614374084476928 : UInt64))), .second, .unset, .unset, .unset, .unset, .unset] [(.float (2071986176 : UInt32)), (.float (FP.i2f p2))] _
          refine XS.fmulS X0.here hx rfl (hb hby at_155) rfl (Jvm.FP.Core.OwnQ.fmul_nn _ (by unfold Jvm.Free.Fl.Fin32; decide)) (v := (FP.fmul (FP.i2f p2) (2071986176 : UInt32))) rfl ?_
          show own_S p e below s₁ m 156 #[iv p1, iv p2, iv p3, iv (4 : Int32), iv ng, .val (.double (FP.dmul (FP.i2d p2) (5147614374084476928 : UInt64))), .second, .unset, .unset, .unset, .unset, .unset] [(.float (FP.fmul (FP.i2f p2) (2071986176 : UInt32)))] _
          refine XS.fstore X0.here hx rfl (hb hby at_156) rfl (l' := #[iv p1, iv p2, iv p3, iv (4 : Int32), iv ng, .val (.double (FP.dmul (FP.i2d p2) (5147614374084476928 : UInt64))), .second, .val (.float (FP.fmul (FP.i2f p2) (2071986176 : UInt32))), .unset, .unset, .unset, .unset]) rfl ?_
          show own_S p e below s₁ m 158 #[iv p1, iv p2, iv p3, iv (4 : Int32), iv ng, .val (.double (FP.dmul (FP.i2d p2) (5147614374084476928 : UInt64))), .second, .val (.float (FP.fmul (FP.i2f p2) (2071986176 : UInt32))), .unset, .unset, .unset, .unset] [] _
          refine XS.goto X0.here hx rfl (pc0 := 158) (pc' := 335) rfl (hb hby at_158) (by decide) (by decide) ?_
          show own_S p e below s₁ m 335 #[iv p1, iv p2, iv p3, iv (4 : Int32), iv ng, .val (.double (FP.dmul (FP.i2d p2) (5147614374084476928 : UInt64))), .second, .val (.float (FP.fmul (FP.i2f p2) (2071986176 : UInt32))), .unset, .unset, .unset, .unset] [] _
          refine XS.dload X0.here hx rfl (hb hby at_335) rfl ?_
          show own_S p e below s₁ m 337 #[iv p1, iv p2, iv p3, iv (4 : Int32), iv ng, .val (.double (FP.dmul (FP.i2d p2) (5147614374084476928 : UInt64))), .second, .val (.float (FP.fmul (FP.i2f p2) (2071986176 : UInt32))), .unset, .unset, .unset, .unset] [(.double (FP.dmul (FP.i2d p2) (5147614374084476928 : UInt64)))] _
          refine st23 _ ?_
          show own_S p e below T23 m 340 #[iv p1, iv p2, iv p3, iv (4 : Int32), iv ng, .val (.double (FP.dmul (FP.i2d p2) (5147614374084476928 : UInt64))), .second, .val (.float (FP.fmul (FP.i2f p2) (2071986176 : UInt32))), .unset, .unset, .unset, .unset] [(.float (Jvm.FP.Core.OwnQ.nw (FP.dmul (FP.i2d p2) (5147614374084476928 : UInt64))))] _
          refine XS.fload X23.here hx rfl (hb hby at_340) rfl ?_
          show own_S p e below T23 m 342 #[iv p1, iv p2, iv p3, iv (4 : Int32), iv ng, .val (.double (FP.dmul (FP.i2d p2) (5147614374084476928 : UInt64))), .second, .val (.float (FP.fmul (FP.i2f p2) (2071986176 : UInt32))), .unset, .unset, .unset, .unset] [(.float (FP.fmul (FP.i2f p2) (2071986176 : UInt32))), (.float (Jvm.FP.Core.OwnQ.nw (FP.dmul (FP.i2d p2) (5147614374084476928 : UInt64))))] _
          refine XS.fcmpS X23.here hx rfl (hb hby at_342) rfl (v := (0 : Int32)) hgood.2 ?_
          show own_S p e below T23 m 343 #[iv p1, iv p2, iv p3, iv (4 : Int32), iv ng, .val (.double (FP.dmul (FP.i2d p2) (5147614374084476928 : UInt64))), .second, .val (.float (FP.fmul (FP.i2f p2) (2071986176 : UInt32))), .unset, .unset, .unset, .unset] [(.int (0 : Int32))] _
          refine XS.ifNo X23.here hx rfl (hb hby at_343) rfl ((if0 _ _).trans (teq (by decide : (0 : Int32) = (0 : Int32))).2) ?_
          show own_S p e below T23 m 346 #[iv p1, iv p2, iv p3, iv (4 : Int32), iv ng, .val (.double (FP.dmul (FP.i2d p2) (5147614374084476928 : UInt64))), .second, .val (.float (FP.fmul (FP.i2f p2) (2071986176 : UInt32))), .unset, .unset, .unset, .unset] [] _
          refine XS.iconst X23.here hx rfl (hb hby at_346) ?_
          show own_S p e below T23 m 347 #[iv p1, iv p2, iv p3, iv (4 : Int32), iv ng, .val (.double (FP.dmul (FP.i2d p2) (5147614374084476928 : UInt64))), .second, .val (.float (FP.fmul (FP.i2f p2) (2071986176 : UInt32))), .unset, .unset, .unset, .unset] [(.int (1 : Int32))] _
          refine XS.goto X23.here hx rfl (pc0 := 347) (pc' := 351) rfl (hb hby at_347) (by decide) (by decide) ?_
          exact k)
        obtain ⟨fs, hr, hrun, hended, hW, hsame⟩ := X23.leave (v := some (.int (nar .boolean (1 : Int32)))) (fun h => by rw [Bd.returns] at h; cases h)
        refine ⟨_, _, pre24 _ ?_, hrun, hended, _, _, rfl, ?_, ⟨_, rfl⟩, hW, hsame.mono (by decide) (by decide)⟩
        · show own_S p e below T23 m 351 #[iv p1, iv p2, iv p3, iv (4 : Int32), iv ng, .val (.double (FP.dmul (FP.i2d p2) (5147614374084476928 : UInt64))), .second, .val (.float (FP.fmul (FP.i2f p2) (2071986176 : UInt32))), .unset, .unset, .unset, .unset] [(.int (1 : Int32))] _
          exact retN X23 hx (t := .boolean) Bd.returns (by simp) (hb hby at_351) hr
        · show Q0 Z p1 p2 p3 h0 n0 _ T23.heap _
          rw [e23]
          exact ⟨rfl, N23⟩
  ·  -- case
    have pre26 : ∀ tg, own_S p e below s₁ m 186 #[iv p1, iv p2, iv p3, iv (5 : Int32), iv ng, .unset, .unset, .unset, iv (p2 >>> ((4 : Int32) &&& 31)), .val (.double (FP.dadd (5183643170566569984 : UInt64) (FP.dmul (FP.i2d (p2 >>> ((4 : Int32) &&& 31))) (4944952390852804608 : UInt64)))), .second, .unset] [(.int (p2 >>> ((4 : Int32) &&& 31)))] tg → Steps p.tables e below (s₁.setTop (entryFrame m #[(.int p1), (.int p2), (.int p3)] maxLocals)) tg := fun tg k => pre6 tg (by
      show own_S p e below s₁ m 18 #[iv p1, iv p2, iv p3, iv (5 : Int32), iv ng, .unset, .unset, .unset, .unset, .unset, .unset, .unset] [] _
      refine XS.iloadN X0.here hx rfl (hb hby at_18) rfl ?_
      show own_S p e below s₁ m 19 #[iv p1, iv p2, iv p3, iv (5 : Int32), iv ng, .unset, .unset, .unset, .unset, .unset, .unset, .unset] [(.int (5 : Int32))] _
      refine XS.ifYes X0.here hx rfl (pc0 := 19) (pc' := 33) rfl (hb hby at_19) rfl ((if0 _ _).trans (feq (by decide : ¬ ((5 : Int32) = (0 : Int32)))).2) (by decide) (by decide) ?_
      show own_S p e below s₁ m 33 #[iv p1, iv p2, iv p3, iv (5 : Int32), iv ng, .unset, .unset, .unset, .unset, .unset, .unset, .unset] [] _
      refine XS.iloadN X0.here hx rfl (hb hby at_33) rfl ?_
      show own_S p e below s₁ m 34 #[iv p1, iv p2, iv p3, iv (5 : Int32), iv ng, .unset, .unset, .unset, .unset, .unset, .unset, .unset] [(.int (5 : Int32))] _
      refine XS.iconst X0.here hx rfl (hb hby at_34) ?_
      show own_S p e below s₁ m 35 #[iv p1, iv p2, iv p3, iv (5 : Int32), iv ng, .unset, .unset, .unset, .unset, .unset, .unset, .unset] [(.int (1 : Int32)), (.int (5 : Int32))] _
      refine XS.icmpYes X0.here hx rfl (pc0 := 35) (pc' := 56) rfl (hb hby at_35) rfl (feq (by decide : ¬ ((5 : Int32) = (1 : Int32)))).2 (by decide) (by decide) ?_
      show own_S p e below s₁ m 56 #[iv p1, iv p2, iv p3, iv (5 : Int32), iv ng, .unset, .unset, .unset, .unset, .unset, .unset, .unset] [] _
      refine XS.iloadN X0.here hx rfl (hb hby at_56) rfl ?_
      show own_S p e below s₁ m 57 #[iv p1, iv p2, iv p3, iv (5 : Int32), iv ng, .unset, .unset, .unset, .unset, .unset, .unset, .unset] [(.int (5 : Int32))] _
      refine XS.iconst X0.here hx rfl (hb hby at_57) ?_
      show own_S p e below s₁ m 58 #[iv p1, iv p2, iv p3, iv (5 : Int32), iv ng, .unset, .unset, .unset, .unset, .unset, .unset, .unset] [(.int (2 : Int32)), (.int (5 : Int32))] _
      refine XS.icmpYes X0.here hx rfl (pc0 := 58) (pc' := 79) rfl (hb hby at_58) rfl (feq (by decide : ¬ ((5 : Int32) = (2 : Int32)))).2 (by decide) (by decide) ?_
      show own_S p e below s₁ m 79 #[iv p1, iv p2, iv p3, iv (5 : Int32), iv ng, .unset, .unset, .unset, .unset, .unset, .unset, .unset] [] _
      refine XS.iloadN X0.here hx rfl (hb hby at_79) rfl ?_
      show own_S p e below s₁ m 80 #[iv p1, iv p2, iv p3, iv (5 : Int32), iv ng, .unset, .unset, .unset, .unset, .unset, .unset, .unset] [(.int (5 : Int32))] _
      refine XS.iconst X0.here hx rfl (hb hby at_80) ?_
      show own_S p e below s₁ m 81 #[iv p1, iv p2, iv p3, iv (5 : Int32), iv ng, .unset, .unset, .unset, .unset, .unset, .unset, .unset] [(.int (3 : Int32)), (.int (5 : Int32))] _
      refine XS.icmpYes X0.here hx rfl (pc0 := 81) (pc' := 110) rfl (hb hby at_81) rfl (feq (by decide : ¬ ((5 : Int32) = (3 : Int32)))).2 (by decide) (by decide) ?_
      show own_S p e below s₁ m 110 #[iv p1, iv p2, iv p3, iv (5 : Int32), iv ng, .unset, .unset, .unset, .unset, .unset, .unset, .unset] [] _
      refine XS.iloadN X0.here hx rfl (hb hby at_110) rfl ?_
      show own_S p e below s₁ m 111 #[iv p1, iv p2, iv p3, iv (5 : Int32), iv ng, .unset, .unset, .unset, .unset, .unset, .unset, .unset] [(.int (5 : Int32))] _
      refine XS.iconst X0.here hx rfl (hb hby at_111) ?_
      show own_S p e below s₁ m 112 #[iv p1, iv p2, iv p3, iv (5 : Int32), iv ng, .unset, .unset, .unset, .unset, .unset, .unset, .unset] [(.int (4 : Int32)), (.int (5 : Int32))] _
      refine XS.icmpYes X0.here hx rfl (pc0 := 112) (pc' := 161) rfl (hb hby at_112) rfl (feq (by decide : ¬ ((5 : Int32) = (4 : Int32)))).2 (by decide) (by decide) ?_
      show own_S p e below s₁ m 161 #[iv p1, iv p2, iv p3, iv (5 : Int32), iv ng, .unset, .unset, .unset, .unset, .unset, .unset, .unset] [] _
      refine XS.iloadN X0.here hx rfl (hb hby at_161) rfl ?_
      show own_S p e below s₁ m 162 #[iv p1, iv p2, iv p3, iv (5 : Int32), iv ng, .unset, .unset, .unset, .unset, .unset, .unset, .unset] [(.int (5 : Int32))] _
      refine XS.iconst X0.here hx rfl (hb hby at_162) ?_
      show own_S p e below s₁ m 163 #[iv p1, iv p2, iv p3, iv (5 : Int32), iv ng, .unset, .unset, .unset, .unset, .unset, .unset, .unset] [(.int (5 : Int32)), (.int (5 : Int32))] _
      refine XS.icmpNo X0.here hx rfl (hb hby at_163) rfl (teq (by decide : (5 : Int32) = (5 : Int32))).2 ?_
      show own_S p e below s₁ m 166 #[iv p1, iv p2, iv p3, iv (5 : Int32), iv ng, .unset, .unset, .unset, .unset, .unset, .unset, .unset] [] _
      refine XS.iloadN X0.here hx rfl (hb hby at_166) rfl ?_
      show own_S p e below s₁ m 167 #[iv p1, iv p2, iv p3, iv (5 : Int32), iv ng, .unset, .unset, .unset, .unset, .unset, .unset, .unset] [(.int p2)] _
      refine XS.iconst X0.here hx rfl (hb hby at_167) ?_
      show own_S p e below s₁ m 168 #[iv p1, iv p2, iv p3, iv (5 : Int32), iv ng, .unset, .unset, .unset, .unset, .unset, .unset, .unset] [(.int (4 : Int32)), (.int p2)] _
      refine XS.ishr X0.here hx rfl (hb hby at_168) rfl ?_
      show own_S p e below s₁ m 169 #[iv p1, iv p2, iv p3, iv (5 : Int32), iv ng, .unset, .unset, .unset, .unset, .unset, .unset, .unset] [(.int (p2 >>> ((4 : Int32) &&& 31)))] _
      refine XS.istore X0.here hx rfl (hb hby at_169) rfl (l' := #[iv p1, iv p2, iv p3, iv (5 : Int32), iv ng, .unset, .unset, .unset, iv (p2 >>> ((4 : Int32) &&& 31)), .unset, .unset, .unset]) rfl ?_
      show own_S p e below s₁ m 171 #[iv p1, iv p2, iv p3, iv (5 : Int32), iv ng, .unset, .unset, .unset, iv (p2 >>> ((4 : Int32) &&& 31)), .unset, .unset, .unset] [] _
      refine X0.ldc2DoubleC hx hown (mvT hZ (hw _ (List.mem_of_getElem? (i := 17) rfl))) (g := (mkF m 171 #[iv p1, iv p2, iv p3, iv (5 : Int32), iv ng, .unset, .unset, .unset, iv (p2 >>> ((4 : Int32) &&& 31)), .unset, .unset, .unset] [])) rfl (hb hby at_171) _ ?_
      show own_S p e below s₁ m 174 #[iv p1, iv p2, iv p3, iv (5 : Int32), iv ng, .unset, .unset, .unset, iv (p2 >>> ((4 : Int32) &&& 31)), .unset, .unset, .unset] [(.double (5183643170566569984 : UInt64))] _
      refine XS.iload X0.here hx rfl (hb hby at_174) rfl ?_
      show own_S p e below s₁ m 176 #[iv p1, iv p2, iv p3, iv (5 : Int32), iv ng, .unset, .unset, .unset, iv (p2 >>> ((4 : Int32) &&& 31)), .unset, .unset, .unset] [(.int (p2 >>> ((4 : Int32) &&& 31))), (.double (5183643170566569984 : UInt64))] _
      refine XS.i2dS X0.here hx rfl (hb hby at_176) rfl rfl ?_
      show own_S p e below s₁ m 177 #[iv p1, iv p2, iv p3, iv (5 : Int32), iv ng, .unset, .unset, .unset, iv (p2 >>> ((4 : Int32) &&& 31)), .unset, .unset, .unset] [(.double (FP.i2d (p2 >>> ((4 : Int32) &&& 31)))), (.double (5183643170566569984 : UInt64))] _
      refine X0.ldc2DoubleC hx hown (mvT hZ (hw _ (List.mem_of_getElem? (i := 18) rfl))) (g := (mkF m 177 #[iv p1, iv p2, iv p3, iv (5 : Int32), iv ng, .unset, .unset, .unset, iv (p2 >>> ((4 : Int32) &&& 31)), .unset, .unset, .unset] [(.double (FP.i2d (p2 >>> ((4 : Int32) &&& 31)))), (.double (5183643170566569984 : UInt64))])) rfl (hb hby at_177) _ ?_
      show own_S p e below s₁ m 180 #[iv p1, iv p2, iv p3, iv (5 : Int32), iv ng, .unset, .unset, .unset, iv (p2 >>> ((4 : Int32) &&& 31)), .unset, .unset, .unset] [(.double (4944952390852804608 : UInt64)), (.double (FP.i2d (p2 >>> ((4 : Int32) &&& 31)))), (.double (5183643170566569984 : UInt64))] _
      refine XS.dmulS X0.here hx rfl (hb hby at_180) rfl (Jvm.FP.Core.OwnQ.dmul_nn Jvm.FP.Core.OwnQ.D75 (by decide) (by decide)) (v := (FP.dmul (FP.i2d (p2 >>> ((4 : Int32) &&& 31))) (4944952390852804608 : UInt64))) rfl ?_
      show own_S p e below s₁ m 181 #[iv p1, iv p2, iv p3, iv (5 : Int32), iv ng, .unset, .unset, .unset, iv (p2 >>> ((4 : Int32) &&& 31)), .unset, .unset, .unset] [(.double (FP.dmul (FP.i2d (p2 >>> ((4 : Int32) &&& 31))) (4944952390852804608 : UInt64))), (.double (5183643170566569984 : UInt64))] _
      refine XS.daddS X0.here hx rfl (hb hby at_181) rfl (Jvm.FP.Core.OwnQ.up_nn _ (Jvm.FP.Core.OwnQ.shr4 p2)) (v := (FP.dadd (5183643170566569984 : UInt64) (FP.dmul (FP.i2d (p2 >>> ((4 : Int32) &&& 31))) (4944952390852804608 : UInt64)))) rfl ?_
      show own_S p e below s₁ m 182 #[iv p1, iv p2, iv p3, iv (5 : Int32), iv ng, .unset, .unset, .unset, iv (p2 >>> ((4 : Int32) &&& 31)), .unset, .unset, .unset] [(.double (FP.dadd (5183643170566569984 : UInt64) (FP.dmul (FP.i2d (p2 >>> ((4 : Int32) &&& 31))) (4944952390852804608 : UInt64))))] _
      refine XS.dstore X0.here hx rfl (hb hby at_182) rfl (l' := #[iv p1, iv p2, iv p3, iv (5 : Int32), iv ng, .unset, .unset, .unset, iv (p2 >>> ((4 : Int32) &&& 31)), .val (.double (FP.dadd (5183643170566569984 : UInt64) (FP.dmul (FP.i2d (p2 >>> ((4 : Int32) &&& 31))) (4944952390852804608 : UInt64)))), .second, .unset]) rfl ?_
      show own_S p e below s₁ m 184 #[iv p1, iv p2, iv p3, iv (5 : Int32), iv ng, .unset, .unset, .unset, iv (p2 >>> ((4 : Int32) &&& 31)), .val (.double (FP.dadd (5183643170566569984 : UInt64) (FP.dmul (FP.i2d (p2 >>> ((4 : Int32) &&& 31))) (4944952390852804608 : UInt64)))), .second, .unset] [] _
      refine XS.iload X0.here hx rfl (hb hby at_184) rfl ?_
      exact k)
    by_cases hc186_25 : (0 : Int32) < (p2 >>> ((4 : Int32) &&& 31))
    ·  -- pc 186 yes
      have pre28 : ∀ tg, own_S p e below s₁ m 200 #[iv p1, iv p2, iv p3, iv (5 : Int32), iv ng, .unset, .unset, .unset, iv (p2 >>> ((4 : Int32) &&& 31)), .val (.double (FP.dadd (5183643170566569984 : UInt64) (FP.dmul (FP.i2d (p2 >>> ((4 : Int32) &&& 31))) (4944952390852804608 : UInt64)))), .second, .val (.float (2139095040 : UInt32))] [(.int ng)] tg → Steps p.tables e below (s₁.setTop (entryFrame m #[(.int p1), (.int p2), (.int p3)] maxLocals)) tg := fun tg k => pre26 tg (by
        show own_S p e below s₁ m 186 #[iv p1, iv p2, iv p3, iv (5 : Int32), iv ng, .unset, .unset, .unset, iv (p2 >>> ((4 : Int32) &&& 31)), .val (.double (FP.dadd (5183643170566569984 : UInt64) (FP.dmul (FP.i2d (p2 >>> ((4 : Int32) &&& 31))) (4944952390852804608 : UInt64)))), .second, .unset] [(.int (p2 >>> ((4 : Int32) &&& 31)))] _
        refine XS.ifNo X0.here hx rfl (hb hby at_186) rfl ((if0 _ _).trans (tlt hc186_25).2.2.2) ?_
        show own_S p e below s₁ m 189 #[iv p1, iv p2, iv p3, iv (5 : Int32), iv ng, .unset, .unset, .unset, iv (p2 >>> ((4 : Int32) &&& 31)), .val (.double (FP.dadd (5183643170566569984 : UInt64) (FP.dmul (FP.i2d (p2 >>> ((4 : Int32) &&& 31))) (4944952390852804608 : UInt64)))), .second, .unset] [] _
        refine X0.ldcFloatC hx hown (mvT hZ (hw _ (List.mem_of_getElem? (i := 21) rfl))) (g := (mkF m 189 #[iv p1, iv p2, iv p3, iv (5 : Int32), iv ng, .unset, .unset, .unset, iv (p2 >>> ((4 : Int32) &&& 31)), .val (.double (FP.dadd (5183643170566569984 : UInt64) (FP.dmul (FP.i2d (p2 >>> ((4 : Int32) &&& 31))) (4944952390852804608 : UInt64)))), .second, .unset] [])) rfl (hb hby at_189) _ ?_
        show own_S p e below s₁ m 191 #[iv p1, iv p2, iv p3, iv (5 : Int32), iv ng, .unset, .unset, .unset, iv (p2 >>> ((4 : Int32) &&& 31)), .val (.double (FP.dadd (5183643170566569984 : UInt64) (FP.dmul (FP.i2d (p2 >>> ((4 : Int32) &&& 31))) (4944952390852804608 : UInt64)))), .second, .unset] [(.float (2139095040 : UInt32))] _
        refine XS.goto X0.here hx rfl (pc0 := 191) (pc' := 196) rfl (hb hby at_191) (by decide) (by decide) ?_
        show own_S p e below s₁ m 196 #[iv p1, iv p2, iv p3, iv (5 : Int32), iv ng, .unset, .unset, .unset, iv (p2 >>> ((4 : Int32) &&& 31)), .val (.double (FP.dadd (5183643170566569984 : UInt64) (FP.dmul (FP.i2d (p2 >>> ((4 : Int32) &&& 31))) (4944952390852804608 : UInt64)))), .second, .unset] [(.float (2139095040 : UInt32))] _
        refine XS.fstore X0.here hx rfl (hb hby at_196) rfl (l' := #[iv p1, iv p2, iv p3, iv (5 : Int32), iv ng, .unset, .unset, .unset, iv (p2 >>> ((4 : Int32) &&& 31)), .val (.double (FP.dadd (5183643170566569984 : UInt64) (FP.dmul (FP.i2d (p2 >>> ((4 : Int32) &&& 31))) (4944952390852804608 : UInt64)))), .second, .val (.float (2139095040 : UInt32))]) rfl ?_
        show own_S p e below s₁ m 198 #[iv p1, iv p2, iv p3, iv (5 : Int32), iv ng, .unset, .unset, .unset, iv (p2 >>> ((4 : Int32) &&& 31)), .val (.double (FP.dadd (5183643170566569984 : UInt64) (FP.dmul (FP.i2d (p2 >>> ((4 : Int32) &&& 31))) (4944952390852804608 : UInt64)))), .second, .val (.float (2139095040 : UInt32))] [] _
        refine XS.iload X0.here hx rfl (hb hby at_198) rfl ?_
        exact k)
      by_cases hc200_27 : ng = (0 : Int32)
      ·  -- pc 200 yes
        have hgood : Jvm.FP.Core.OwnQ.Good0 (FP.dadd (5183643170566569984 : UInt64) (FP.dmul (FP.i2d (p2 >>> ((4 : Int32) &&& 31))) (4944952390852804608 : UInt64))) (2139095040 : UInt32) := (Jvm.FP.Core.OwnQ.mode5a (Jvm.FP.Core.OwnQ.shr4 p2) hc186_25)
        obtain ⟨_, _, ⟨T29, L29, k29, n29⟩, -, X29, ⟨Lc29, hQ29, l29, y29, z29⟩, st29⟩ := Jvm.LawKit.callS X0 hx (y := (⟨"com/example/converge/converge/compiler/FloatText", "narrow", "(D)F"⟩ : MethodName)) hown (mvT hZ (hw _ (List.mem_of_getElem? (i := 0) rfl))) (mvT hZ (hw _ (List.mem_of_getElem? (i := 1) rfl))) (mvT hZ (hw _ (List.mem_of_getElem? (i := 2) rfl))) (mvT hZ (hw _ (List.mem_of_getElem? (i := 3) rfl))) (by decide) (backOf (W := 0) (rm1 l Z a0 hw [] (FP.dadd (5183643170566569984 : UInt64) (FP.dmul (FP.i2d (p2 >>> ((4 : Int32) &&& 31))) (4944952390852804608 : UInt64))) h0 n0 Z0 hgood.1) hZ (hw _ (List.mem_of_getElem? (i := 3) rfl)) (hw _ (List.mem_of_getElem? (i := 2) rfl)) (by decide) (by decide)) (g := (mkF m 337 #[iv p1, iv p2, iv p3, iv (5 : Int32), iv ng, .val (.double (FP.dadd (5183643170566569984 : UInt64) (FP.dmul (FP.i2d (p2 >>> ((4 : Int32) &&& 31))) (4944952390852804608 : UInt64)))), .second, .val (.float (2139095040 : UInt32)), iv (p2 >>> ((4 : Int32) &&& 31)), .val (.double (FP.dadd (5183643170566569984 : UInt64) (FP.dmul (FP.i2d (p2 >>> ((4 : Int32) &&& 31))) (4944952390852804608 : UInt64)))), .second, .val (.float (2139095040 : UInt32))] [(.double (FP.dadd (5183643170566569984 : UInt64) (FP.dmul (FP.i2d (p2 >>> ((4 : Int32) &&& 31))) (4944952390852804608 : UInt64))))])) rfl (by rw [hml]; rfl) (argsL := [(.double (FP.dadd (5183643170566569984 : UInt64) (FP.dmul (FP.i2d (p2 >>> ((4 : Int32) &&& 31))) (4944952390852804608 : UInt64))))]) (rest := []) (lenOf pd_0 rfl) rfl (by show 2 * 0 + _ ≤ _; exact Nat.le_of_eq rfl) (hb hby at_337) (fun _ _ => ⟨rfl, e0, (by decide : 0 + 0 ≤ _), (by decide : 0 + 0 ≤ _)⟩)
        dsimp only [Pt.U, Pt.locs, Pt.cells, Pt.slots] at X29 l29 y29 z29 st29 hQ29
        subst l29 y29 z29
        obtain ⟨rfl, N29q, e29q⟩ := hQ29
        have N29 := Fr.app N0 N29q
        have e29 : T29.heap = h0 := e29q
        have pre30 : ∀ tg, own_S p e below T29 m 351 #[iv p1, iv p2, iv p3, iv (5 : Int32), iv ng, .val (.double (FP.dadd (5183643170566569984 : UInt64) (FP.dmul (FP.i2d (p2 >>> ((4 : Int32) &&& 31))) (4944952390852804608 : UInt64)))), .second, .val (.float (2139095040 : UInt32)), iv (p2 >>> ((4 : Int32) &&& 31)), .val (.double (FP.dadd (5183643170566569984 : UInt64) (FP.dmul (FP.i2d (p2 >>> ((4 : Int32) &&& 31))) (4944952390852804608 : UInt64)))), .second, .val (.float (2139095040 : UInt32))] [(.int (1 : Int32))] tg → Steps p.tables e below (s₁.setTop (entryFrame m #[(.int p1), (.int p2), (.int p3)] maxLocals)) tg := fun tg k => pre28 tg (by
          show own_S p e below s₁ m 200 #[iv p1, iv p2, iv p3, iv (5 : Int32), iv ng, .unset, .unset, .unset, iv (p2 >>> ((4 : Int32) &&& 31)), .val (.double (FP.dadd (5183643170566569984 : UInt64) (FP.dmul (FP.i2d (p2 >>> ((4 : Int32) &&& 31))) (4944952390852804608 : UInt64)))), .second, .val (.float (2139095040 : UInt32))] [(.int ng)] _
          refine XS.ifYes X0.here hx rfl (pc0 := 200) (pc' := 209) rfl (hb hby at_200) rfl ((if0 _ _).trans (teq hc200_27).1) (by decide) (by decide) ?_
          show own_S p e below s₁ m 209 #[iv p1, iv p2, iv p3, iv (5 : Int32), iv ng, .unset, .unset, .unset, iv (p2 >>> ((4 : Int32) &&& 31)), .val (.double (FP.dadd (5183643170566569984 : UInt64) (FP.dmul (FP.i2d (p2 >>> ((4 : Int32) &&& 31))) (4944952390852804608 : UInt64)))), .second, .val (.float (2139095040 : UInt32))] [] _
          refine XS.dload X0.here hx rfl (hb hby at_209) rfl ?_
          show own_S p e below s₁ m 211 #[iv p1, iv p2, iv p3, iv (5 : Int32), iv ng, .unset, .unset, .unset, iv (p2 >>> ((4 : Int32) &&& 31)), .val (.double (FP.dadd (5183643170566569984 : UInt64) (FP.dmul (FP.i2d (p2 >>> ((4 : Int32) &&& 31))) (4944952390852804608 : UInt64)))), .second, .val (.float (2139095040 : UInt32))] [(.double (FP.dadd (5183643170566569984 : UInt64) (FP.dmul (FP.i2d (p2 >>> ((4 : Int32) &&& 31))) (4944952390852804608 : UInt64))))] _
          refine XS.dstore X0.here hx rfl (hb hby at_211) rfl (l' := #[iv p1, iv p2, iv p3, iv (5 : Int32), iv ng, .val (.double (FP.dadd (5183643170566569984 : UInt64) (FP.dmul (FP.i2d (p2 >>> ((4 : Int32) &&& 31))) (4944952390852804608 : UInt64)))), .second, .unset, iv (p2 >>> ((4 : Int32) &&& 31)), .val (.double (FP.dadd (5183643170566569984 : UInt64) (FP.dmul (FP.i2d (p2 >>> ((4 : Int32) &&& 31))) (4944952390852804608 : UInt64)))), .second, .val (.float (2139095040 : UInt32))]) rfl ?_
          show own_S p e below s₁ m 213 #[iv p1, iv p2, iv p3, iv (5 : Int32), iv ng, .val (.double (FP.dadd (5183643170566569984 : UInt64) (FP.dmul (FP.i2d (p2 >>> ((4 : Int32) &&& 31))) (4944952390852804608 : UInt64)))), .second, .unset, iv (p2 >>> ((4 : Int32) &&& 31)), .val (.double (FP.dadd (5183643170566569984 : UInt64) (FP.dmul (FP.i2d (p2 >>> ((4 : Int32) &&& 31))) (4944952390852804608 : UInt64)))), .second, .val (.float (2139095040 : UInt32))] [] _
          refine XS.iload X0.here hx rfl (hb hby at_213) rfl ?_
          show own_S p e below s₁ m 215 #[iv p1, iv p2, iv p3, iv (5 : Int32), iv ng, .val (.double (FP.dadd (5183643170566569984 : UInt64) (FP.dmul (FP.i2d (p2 >>> ((4 : Int32) &&& 31))) (4944952390852804608 : UInt64)))), .second, .unset, iv (p2 >>> ((4 : Int32) &&& 31)), .val (.double (FP.dadd (5183643170566569984 : UInt64) (FP.dmul (FP.i2d (p2 >>> ((4 : Int32) &&& 31))) (4944952390852804608 : UInt64)))), .second, .val (.float (2139095040 : UInt32))] [(.int ng)] _
          refine XS.ifYes X0.here hx rfl (pc0 := 215) (pc' := 224) rfl (hb hby at_215) rfl ((if0 _ _).trans (teq hc200_27).1) (by decide) (by decide) ?_
          show own_S p e below s₁ m 224 #[iv p1, iv p2, iv p3, iv (5 : Int32), iv ng, .val (.double (FP.dadd (5183643170566569984 : UInt64) (FP.dmul (FP.i2d (p2 >>> ((4 : Int32) &&& 31))) (4944952390852804608 : UInt64)))), .second, .unset, iv (p2 >>> ((4 : Int32) &&& 31)), .val (.double (FP.dadd (5183643170566569984 : UInt64) (FP.dmul (FP.i2d (p2 >>> ((4 : Int32) &&& 31))) (4944952390852804608 : UInt64)))), .second, .val (.float (2139095040 : UInt32))] [] _
          refine XS.fload X0.here hx rfl (hb hby at_224) rfl ?_
          show own_S p e below s₁ m 226 #[iv p1, iv p2, iv p3, iv (5 : Int32), iv ng, .val (.double (FP.dadd (5183643170566569984 : UInt64) (FP.dmul (FP.i2d (p2 >>> ((4 : Int32) &&& 31))) (4944952390852804608 : UInt64)))), .second, .unset, iv (p2 >>> ((4 : Int32) &&& 31)), .val (.double (FP.dadd (5183643170566569984 : UInt64) (FP.dmul (FP.i2d (p2 >>> ((4 : Int32) &&& 31))) (4944952390852804608 : UInt64)))), .second, .val (.float (2139095040 : UInt32))] [(.float (2139095040 : UInt32))] _
          refine XS.fstore X0.here hx rfl (hb hby at_226) rfl (l' := #[iv p1, iv p2, iv p3, iv (5 : Int32), iv ng, .val (.double (FP.dadd (5183643170566569984 : UInt64) (FP.dmul (FP.i2d (p2 >>> ((4 : Int32) &&& 31))) (4944952390852804608 : UInt64)))), .second, .val (.float (2139095040 : UInt32)), iv (p2 >>> ((4 : Int32) &&& 31)), .val (.double (FP.dadd (5183643170566569984 : UInt64) (FP.dmul (FP.i2d (p2 >>> ((4 : Int32) &&& 31))) (4944952390852804608 : UInt64)))), .second, .val (.float (2139095040 : UInt32))]) rfl ?_
          show own_S p e below s₁ m 228 #[iv p1, iv p2, iv p3, iv (5 : Int32), iv ng, .val (.double (FP.dadd (5183643170566569984 : UInt64) (FP.dmul (FP.i2d (p2 >>> ((4 : Int32) &&& 31))) (4944952390852804608 : UInt64)))), .second, .val (.float (2139095040 : UInt32)), iv (p2 >>> ((4 : Int32) &&& 31)), .val (.double (FP.dadd (5183643170566569984 : UInt64) (FP.dmul (FP.i2d (p2 >>> ((4 : Int32) &&& 31))) (4944952390852804608 : UInt64)))), .second, .val (.float (2139095040 : UInt32))] [] _
          refine XS.goto X0.here hx rfl (pc0 := 228) (pc' := 335) rfl (hb hby at_228) (by decide) (by decide) ?_
          show own_S p e below s₁ m 335 #[iv p1, iv p2, iv p3, iv (5 : Int32), iv ng, .val (.double (FP.dadd (5183643170566569984 : UInt64) (FP.dmul (FP.i2d (p2 >>> ((4 : Int32) &&& 31))) (4944952390852804608 : UInt64)))), .second, .val (.float (2139095040 : UInt32)), iv (p2 >>> ((4 : Int32) &&& 31)), .val (.double (FP.dadd (5183643170566569984 : UInt64) (FP.dmul (FP.i2d (p2 >>> ((4 : Int32) &&& 31))) (4944952390852804608 : UInt64)))), .second, .val (.float (2139095040 : UInt32))] [] _
          refine XS.dload X0.here hx rfl (hb hby at_335) rfl ?_
          show own_S p e below s₁ m 337 #[iv p1, iv p2, iv p3, iv (5 : Int32), iv ng, .val (.double (FP.dadd (5183643170566569984 : UInt64) (FP.dmul (FP.i2d (p2 >>> ((4 : Int32) &&& 31))) (4944952390852804608 : UInt64)))), .second, .val (.float (2139095040 : UInt32)), iv (p2 >>> ((4 : Int32) &&& 31)), .val (.double (FP.dadd (5183643170566569984 : UInt64) (FP.dmul (FP.i2d (p2 >>> ((4 : Int32) &&& 31))) (4944952390852804608 : UInt64)))), .second, .val (.float (2139095040 : UInt32))] [(.double (FP.dadd (5183643170566569984 : UInt64) (FP.dmul (FP.i2d (p2 >>> ((4 : Int32) &&& 31))) (4944952390852804608 : UInt64))))] _
          refine st29 _ ?_
          show own_S p e below T29 m 340 #[iv p1, iv p2, iv p3, iv (5 : Int32), iv ng, .val (.double (FP.dadd (5183643170566569984 : UInt64) (FP.dmul (FP.i2d (p2 >>> ((4 : Int32) &&& 31))) (4944952390852804608 : UInt64)))), .second, .val (.float (2139095040 : UInt32)), iv (p2 >>> ((4 : Int32) &&& 31)), .val (.double (FP.dadd (5183643170566569984 : UInt64) (FP.dmul (FP.i2d (p2 >>> ((4 : Int32) &&& 31))) (4944952390852804608 : UInt64)))), .second, .val (.float (2139095040 : UInt32))] [(.float (Jvm.FP.Core.OwnQ.nw (FP.dadd (5183643170566569984 : UInt64) (FP.dmul (FP.i2d (p2 >>> ((4 : Int32) &&& 31))) (4944952390852804608 : UInt64)))))] _
          refine XS.fload X29.here hx rfl (hb hby at_340) rfl ?_
          show own_S p e below T29 m 342 #[iv p1, iv p2, iv p3, iv (5 : Int32), iv ng, .val (.double (FP.dadd (5183643170566569984 : UInt64) (FP.dmul (FP.i2d (p2 >>> ((4 : Int32) &&& 31))) (4944952390852804608 : UInt64)))), .second, .val (.float (2139095040 : UInt32)), iv (p2 >>> ((4 : Int32) &&& 31)), .val (.double (FP.dadd (5183643170566569984 : UInt64) (FP.dmul (FP.i2d (p2 >>> ((4 : Int32) &&& 31))) (4944952390852804608 : UInt64)))), .second, .val (.float (2139095040 : UInt32))] [(.float (2139095040 : UInt32)), (.float (Jvm.FP.Core.OwnQ.nw (FP.dadd (5183643170566569984 : UInt64) (FP.dmul (FP.i2d (p2 >>> ((4 : Int32) &&& 31))) (4944952390852804608 : UInt64)))))] _
          refine XS.fcmpS X29.here hx rfl (hb hby at_342) rfl (v := (0 : Int32)) hgood.2 ?_
          show own_S p e below T29 m 343 #[iv p1, iv p2, iv p3, iv (5 : Int32), iv ng, .val (.double (FP.dadd (5183643170566569984 : UInt64) (FP.dmul (FP.i2d (p2 >>> ((4 : Int32) &&& 31))) (4944952390852804608 : UInt64)))), .second, .val (.float (2139095040 : UInt32)), iv (p2 >>> ((4 : Int32) &&& 31)), .val (.double (FP.dadd (5183643170566569984 : UInt64) (FP.dmul (FP.i2d (p2 >>> ((4 : Int32) &&& 31))) (4944952390852804608 : UInt64)))), .second, .val (.float (2139095040 : UInt32))] [(.int (0 : Int32))] _
          refine XS.ifNo X29.here hx rfl (hb hby at_343) rfl ((if0 _ _).trans (teq (by decide : (0 : Int32) = (0 : Int32))).2) ?_
          show own_S p e below T29 m 346 #[iv p1, iv p2, iv p3, iv (5 : Int32), iv ng, .val (.double (FP.dadd (5183643170566569984 : UInt64) (FP.dmul (FP.i2d (p2 >>> ((4 : Int32) &&& 31))) (4944952390852804608 : UInt64)))), .second, .val (.float (2139095040 : UInt32)), iv (p2 >>> ((4 : Int32) &&& 31)), .val (.double (FP.dadd (5183643170566569984 : UInt64) (FP.dmul (FP.i2d (p2 >>> ((4 : Int32) &&& 31))) (4944952390852804608 : UInt64)))), .second, .val (.float (2139095040 : UInt32))] [] _
          refine XS.iconst X29.here hx rfl (hb hby at_346) ?_
          show own_S p e below T29 m 347 #[iv p1, iv p2, iv p3, iv (5 : Int32), iv ng, .val (.double (FP.dadd (5183643170566569984 : UInt64) (FP.dmul (FP.i2d (p2 >>> ((4 : Int32) &&& 31))) (4944952390852804608 : UInt64)))), .second, .val (.float (2139095040 : UInt32)), iv (p2 >>> ((4 : Int32) &&& 31)), .val (.double (FP.dadd (5183643170566569984 : UInt64) (FP.dmul (FP.i2d (p2 >>> ((4 : Int32) &&& 31))) (4944952390852804608 : UInt64)))), .second, .val (.float (2139095040 : UInt32))] [(.int (1 : Int32))] _
          refine XS.goto X29.here hx rfl (pc0 := 347) (pc' := 351) rfl (hb hby at_347) (by decide) (by decide) ?_
          exact k)
        obtain ⟨fs, hr, hrun, hended, hW, hsame⟩ := X29.leave (v := some (.int (nar .boolean (1 : Int32)))) (fun h => by rw [Bd.returns] at h; cases h)
        refine ⟨_, _, pre30 _ ?_, hrun, hended, _, _, rfl, ?_, ⟨_, rfl⟩, hW, hsame.mono (by decide) (by decide)⟩
        · show own_S p e below T29 m 351 #[iv p1, iv p2, iv p3, iv (5 : Int32), iv ng, .val (.double (FP.dadd (5183643170566569984 : UInt64) (FP.dmul (FP.i2d (p2 >>> ((4 : Int32) &&& 31))) (4944952390852804608 : UInt64)))), .second, .val (.float (2139095040 : UInt32)), iv (p2 >>> ((4 : Int32) &&& 31)), .val (.double (FP.dadd (5183643170566569984 : UInt64) (FP.dmul (FP.i2d (p2 >>> ((4 : Int32) &&& 31))) (4944952390852804608 : UInt64)))), .second, .val (.float (2139095040 : UInt32))] [(.int (1 : Int32))] _
          exact retN X29 hx (t := .boolean) Bd.returns (by simp) (hb hby at_351) hr
        · show Q0 Z p1 p2 p3 h0 n0 _ T29.heap _
          rw [e29]
          exact ⟨rfl, N29⟩
      ·  -- pc 200 no
        have hgood : Jvm.FP.Core.OwnQ.Good0 (FP.dneg (FP.dadd (5183643170566569984 : UInt64) (FP.dmul (FP.i2d (p2 >>> ((4 : Int32) &&& 31))) (4944952390852804608 : UInt64)))) (FP.fneg (2139095040 : UInt32)) := (Jvm.FP.Core.OwnQ.mode5c (Jvm.FP.Core.OwnQ.shr4 p2) hc186_25)
        obtain ⟨_, _, ⟨T31, L31, k31, n31⟩, -, X31, ⟨Lc31, hQ31, l31, y31, z31⟩, st31⟩ := Jvm.LawKit.callS X0 hx (y := (⟨"com/example/converge/converge/compiler/FloatText", "narrow", "(D)F"⟩ : MethodName)) hown (mvT hZ (hw _ (List.mem_of_getElem? (i := 0) rfl))) (mvT hZ (hw _ (List.mem_of_getElem? (i := 1) rfl))) (mvT hZ (hw _ (List.mem_of_getElem? (i := 2) rfl))) (mvT hZ (hw _ (List.mem_of_getElem? (i := 3) rfl))) (by decide) (backOf (W := 0) (rm1 l Z a0 hw [] (FP.dneg (FP.dadd (5183643170566569984 : UInt64) (FP.dmul (FP.i2d (p2 >>> ((4 : Int32) &&& 31))) (4944952390852804608 : UInt64)))) h0 n0 Z0 hgood.1) hZ (hw _ (List.mem_of_getElem? (i := 3) rfl)) (hw _ (List.mem_of_getElem? (i := 2) rfl)) (by decide) (by decide)) (g := (mkF m 337 #[iv p1, iv p2, iv p3, iv (5 : Int32), iv ng, .val (.double (FP.dneg (FP.dadd (5183643170566569984 : UInt64) (FP.dmul (FP.i2d (p2 >>> ((4 : Int32) &&& 31))) (4944952390852804608 : UInt64))))), .second, .val (.float (FP.fneg (2139095040 : UInt32))), iv (p2 >>> ((4 : Int32) &&& 31)), .val (.double (FP.dadd (5183643170566569984 : UInt64) (FP.dmul (FP.i2d (p2 >>> ((4 : Int32) &&& 31))) (4944952390852804608 : UInt64)))), .second, .val (.float (2139095040 : UInt32))] [(.double (FP.dneg (FP.dadd (5183643170566569984 : UInt64) (FP.dmul (FP.i2d (p2 >>> ((4 : Int32) &&& 31))) (4944952390852804608 : UInt64)))))])) rfl (by rw [hml]; rfl) (argsL := [(.double (FP.dneg (FP.dadd (5183643170566569984 : UInt64) (FP.dmul (FP.i2d (p2 >>> ((4 : Int32) &&& 31))) (4944952390852804608 : UInt64)))))]) (rest := []) (lenOf pd_0 rfl) rfl (by show 2 * 0 + _ ≤ _; exact Nat.le_of_eq rfl) (hb hby at_337) (fun _ _ => ⟨rfl, e0, (by decide : 0 + 0 ≤ _), (by decide : 0 + 0 ≤ _)⟩)
        dsimp only [Pt.U, Pt.locs, Pt.cells, Pt.slots] at X31 l31 y31 z31 st31 hQ31
        subst l31 y31 z31
        obtain ⟨rfl, N31q, e31q⟩ := hQ31
        have N31 := Fr.app N0 N31q
        have e31 : T31.heap = h0 := e31q
        have pre32 : ∀ tg, own_S p e below T31 m 351 #[iv p1, iv p2, iv p3, iv (5 : Int32), iv ng, .val (.double (FP.dneg (FP.dadd (5183643170566569984 : UInt64) (FP.dmul (FP.i2d (p2 >>> ((4 : Int32) &&& 31))) (4944952390852804608 : UInt64))))), .second, .val (.float (FP.fneg (2139095040 : UInt32))), iv (p2 >>> ((4 : Int32) &&& 31)), .val (.double (FP.dadd (5183643170566569984 : UInt64) (FP.dmul (FP.i2d (p2 >>> ((4 : Int32) &&& 31))) (4944952390852804608 : UInt64)))), .second, .val (.float (2139095040 : UInt32))] [(.int (1 : Int32))] tg → Steps p.tables e below (s₁.setTop (entryFrame m #[(.int p1), (.int p2), (.int p3)] maxLocals)) tg := fun tg k => pre28 tg (by
          show own_S p e below s₁ m 200 #[iv p1, iv p2, iv p3, iv (5 : Int32), iv ng, .unset, .unset, .unset, iv (p2 >>> ((4 : Int32) &&& 31)), .val (.double (FP.dadd (5183643170566569984 : UInt64) (FP.dmul (FP.i2d (p2 >>> ((4 : Int32) &&& 31))) (4944952390852804608 : UInt64)))), .second, .val (.float (2139095040 : UInt32))] [(.int ng)] _
          refine XS.ifNo X0.here hx rfl (hb hby at_200) rfl ((if0 _ _).trans (feq hc200_27).1) ?_
          show own_S p e below s₁ m 203 #[iv p1, iv p2, iv p3, iv (5 : Int32), iv ng, .unset, .unset, .unset, iv (p2 >>> ((4 : Int32) &&& 31)), .val (.double (FP.dadd (5183643170566569984 : UInt64) (FP.dmul (FP.i2d (p2 >>> ((4 : Int32) &&& 31))) (4944952390852804608 : UInt64)))), .second, .val (.float (2139095040 : UInt32))] [] _
          refine XS.dload X0.here hx rfl (hb hby at_203) rfl ?_
          show own_S p e below s₁ m 205 #[iv p1, iv p2, iv p3, iv (5 : Int32), iv ng, .unset, .unset, .unset, iv (p2 >>> ((4 : Int32) &&& 31)), .val (.double (FP.dadd (5183643170566569984 : UInt64) (FP.dmul (FP.i2d (p2 >>> ((4 : Int32) &&& 31))) (4944952390852804608 : UInt64)))), .second, .val (.float (2139095040 : UInt32))] [(.double (FP.dadd (5183643170566569984 : UInt64) (FP.dmul (FP.i2d (p2 >>> ((4 : Int32) &&& 31))) (4944952390852804608 : UInt64))))] _
          refine XS.dnegS X0.here hx rfl (hb hby at_205) rfl rfl ?_
          show own_S p e below s₁ m 206 #[iv p1, iv p2, iv p3, iv (5 : Int32), iv ng, .unset, .unset, .unset, iv (p2 >>> ((4 : Int32) &&& 31)), .val (.double (FP.dadd (5183643170566569984 : UInt64) (FP.dmul (FP.i2d (p2 >>> ((4 : Int32) &&& 31))) (4944952390852804608 : UInt64)))), .second, .val (.float (2139095040 : UInt32))] [(.double (FP.dneg (FP.dadd (5183643170566569984 : UInt64) (FP.dmul (FP.i2d (p2 >>> ((4 : Int32) &&& 31))) (4944952390852804608 : UInt64)))))] _
          refine XS.goto X0.here hx rfl (pc0 := 206) (pc' := 211) rfl (hb hby at_206) (by decide) (by decide) ?_
          show own_S p e below s₁ m 211 #[iv p1, iv p2, iv p3, iv (5 : Int32), iv ng, .unset, .unset, .unset, iv (p2 >>> ((4 : Int32) &&& 31)), .val (.double (FP.dadd (5183643170566569984 : UInt64) (FP.dmul (FP.i2d (p2 >>> ((4 : Int32) &&& 31))) (4944952390852804608 : UInt64)))), .second, .val (.float (2139095040 : UInt32))] [(.double (FP.dneg (FP.dadd (5183643170566569984 : UInt64) (FP.dmul (FP.i2d (p2 >>> ((4 : Int32) &&& 31))) (4944952390852804608 : UInt64)))))] _
          refine XS.dstore X0.here hx rfl (hb hby at_211) rfl (l' := #[iv p1, iv p2, iv p3, iv (5 : Int32), iv ng, .val (.double (FP.dneg (FP.dadd (5183643170566569984 : UInt64) (FP.dmul (FP.i2d (p2 >>> ((4 : Int32) &&& 31))) (4944952390852804608 : UInt64))))), .second, .unset, iv (p2 >>> ((4 : Int32) &&& 31)), .val (.double (FP.dadd (5183643170566569984 : UInt64) (FP.dmul (FP.i2d (p2 >>> ((4 : Int32) &&& 31))) (4944952390852804608 : UInt64)))), .second, .val (.float (2139095040 : UInt32))]) rfl ?_
          show own_S p e below s₁ m 213 #[iv p1, iv p2, iv p3, iv (5 : Int32), iv ng, .val (.double (FP.dneg (FP.dadd (5183643170566569984 : UInt64) (FP.dmul (FP.i2d (p2 >>> ((4 : Int32) &&& 31))) (4944952390852804608 : UInt64))))), .second, .unset, iv (p2 >>> ((4 : Int32) &&& 31)), .val (.double (FP.dadd (5183643170566569984 : UInt64) (FP.dmul (FP.i2d (p2 >>> ((4 : Int32) &&& 31))) (4944952390852804608 : UInt64)))), .second, .val (.float (2139095040 : UInt32))] [] _
          refine XS.iload X0.here hx rfl (hb hby at_213) rfl ?_
          show own_S p e below s₁ m 215 #[iv p1, iv p2, iv p3, iv (5 : Int32), iv ng, .val (.double (FP.dneg (FP.dadd (5183643170566569984 : UInt64) (FP.dmul (FP.i2d (p2 >>> ((4 : Int32) &&& 31))) (4944952390852804608 : UInt64))))), .second, .unset, iv (p2 >>> ((4 : Int32) &&& 31)), .val (.double (FP.dadd (5183643170566569984 : UInt64) (FP.dmul (FP.i2d (p2 >>> ((4 : Int32) &&& 31))) (4944952390852804608 : UInt64)))), .second, .val (.float (2139095040 : UInt32))] [(.int ng)] _
          refine XS.ifNo X0.here hx rfl (hb hby at_215) rfl ((if0 _ _).trans (feq hc200_27).1) ?_
          show own_S p e below s₁ m 218 #[iv p1, iv p2, iv p3, iv (5 : Int32), iv ng, .val (.double (FP.dneg (FP.dadd (5183643170566569984 : UInt64) (FP.dmul (FP.i2d (p2 >>> ((4 : Int32) &&& 31))) (4944952390852804608 : UInt64))))), .second, .unset, iv (p2 >>> ((4 : Int32) &&& 31)), .val (.double (FP.dadd (5183643170566569984 : UInt64) (FP.dmul (FP.i2d (p2 >>> ((4 : Int32) &&& 31))) (4944952390852804608 : UInt64)))), .second, .val (.float (2139095040 : UInt32))] [] _
          refine XS.fload X0.here hx rfl (hb hby at_218) rfl ?_
          show own_S p e below s₁ m 220 #[iv p1, iv p2, iv p3, iv (5 : Int32), iv ng, .val (.double (FP.dneg (FP.dadd (5183643170566569984 : UInt64) (FP.dmul (FP.i2d (p2 >>> ((4 : Int32) &&& 31))) (4944952390852804608 : UInt64))))), .second, .unset, iv (p2 >>> ((4 : Int32) &&& 31)), .val (.double (FP.dadd (5183643170566569984 : UInt64) (FP.dmul (FP.i2d (p2 >>> ((4 : Int32) &&& 31))) (4944952390852804608 : UInt64)))), .second, .val (.float (2139095040 : UInt32))] [(.float (2139095040 : UInt32))] _
          refine XS.fnegS X0.here hx rfl (hb hby at_220) rfl rfl ?_
          show own_S p e below s₁ m 221 #[iv p1, iv p2, iv p3, iv (5 : Int32), iv ng, .val (.double (FP.dneg (FP.dadd (5183643170566569984 : UInt64) (FP.dmul (FP.i2d (p2 >>> ((4 : Int32) &&& 31))) (4944952390852804608 : UInt64))))), .second, .unset, iv (p2 >>> ((4 : Int32) &&& 31)), .val (.double (FP.dadd (5183643170566569984 : UInt64) (FP.dmul (FP.i2d (p2 >>> ((4 : Int32) &&& 31))) (4944952390852804608 : UInt64)))), .second, .val (.float (2139095040 : UInt32))] [(.float (FP.fneg (2139095040 : UInt32)))] _
          refine XS.goto X0.here hx rfl (pc0 := 221) (pc' := 226) rfl (hb hby at_221) (by decide) (by decide) ?_
          show own_S p e below s₁ m 226 #[iv p1, iv p2, iv p3, iv (5 : Int32), iv ng, .val (.double (FP.dneg (FP.dadd (5183643170566569984 : UInt64) (FP.dmul (FP.i2d (p2 >>> ((4 : Int32) &&& 31))) (4944952390852804608 : UInt64))))), .second, .unset, iv (p2 >>> ((4 : Int32) &&& 31)), .val (.double (FP.dadd (5183643170566569984 : UInt64) (FP.dmul (FP.i2d (p2 >>> ((4 : Int32) &&& 31))) (4944952390852804608 : UInt64)))), .second, .val (.float (2139095040 : UInt32))] [(.float (FP.fneg (2139095040 : UInt32)))] _
          refine XS.fstore X0.here hx rfl (hb hby at_226) rfl (l' := #[iv p1, iv p2, iv p3, iv (5 : Int32), iv ng, .val (.double (FP.dneg (FP.dadd (5183643170566569984 : UInt64) (FP.dmul (FP.i2d (p2 >>> ((4 : Int32) &&& 31))) (4944952390852804608 : UInt64))))), .second, .val (.float (FP.fneg (2139095040 : UInt32))), iv (p2 >>> ((4 : Int32) &&& 31)), .val (.double (FP.dadd (5183643170566569984 : UInt64) (FP.dmul (FP.i2d (p2 >>> ((4 : Int32) &&& 31))) (4944952390852804608 : UInt64)))), .second, .val (.float (2139095040 : UInt32))]) rfl ?_
          show own_S p e below s₁ m 228 #[iv p1, iv p2, iv p3, iv (5 : Int32), iv ng, .val (.double (FP.dneg (FP.dadd (5183643170566569984 : UInt64) (FP.dmul (FP.i2d (p2 >>> ((4 : Int32) &&& 31))) (4944952390852804608 : UInt64))))), .second, .val (.float (FP.fneg (2139095040 : UInt32))), iv (p2 >>> ((4 : Int32) &&& 31)), .val (.double (FP.dadd (5183643170566569984 : UInt64) (FP.dmul (FP.i2d (p2 >>> ((4 : Int32) &&& 31))) (4944952390852804608 : UInt64)))), .second, .val (.float (2139095040 : UInt32))] [] _
          refine XS.goto X0.here hx rfl (pc0 := 228) (pc' := 335) rfl (hb hby at_228) (by decide) (by decide) ?_
          show own_S p e below s₁ m 335 #[iv p1, iv p2, iv p3, iv (5 : Int32), iv ng, .val (.double (FP.dneg (FP.dadd (5183643170566569984 : UInt64) (FP.dmul (FP.i2d (p2 >>> ((4 : Int32) &&& 31))) (4944952390852804608 : UInt64))))), .second, .val (.float (FP.fneg (2139095040 : UInt32))), iv (p2 >>> ((4 : Int32) &&& 31)), .val (.double (FP.dadd (5183643170566569984 : UInt64) (FP.dmul (FP.i2d (p2 >>> ((4 : Int32) &&& 31))) (4944952390852804608 : UInt64)))), .second, .val (.float (2139095040 : UInt32))] [] _
          refine XS.dload X0.here hx rfl (hb hby at_335) rfl ?_
          show own_S p e below s₁ m 337 #[iv p1, iv p2, iv p3, iv (5 : Int32), iv ng, .val (.double (FP.dneg (FP.dadd (5183643170566569984 : UInt64) (FP.dmul (FP.i2d (p2 >>> ((4 : Int32) &&& 31))) (4944952390852804608 : UInt64))))), .second, .val (.float (FP.fneg (2139095040 : UInt32))), iv (p2 >>> ((4 : Int32) &&& 31)), .val (.double (FP.dadd (5183643170566569984 : UInt64) (FP.dmul (FP.i2d (p2 >>> ((4 : Int32) &&& 31))) (4944952390852804608 : UInt64)))), .second, .val (.float (2139095040 : UInt32))] [(.double (FP.dneg (FP.dadd (5183643170566569984 : UInt64) (FP.dmul (FP.i2d (p2 >>> ((4 : Int32) &&& 31))) (4944952390852804608 : UInt64)))))] _
          refine st31 _ ?_
          show own_S p e below T31 m 340 #[iv p1, iv p2, iv p3, iv (5 : Int32), iv ng, .val (.double (FP.dneg (FP.dadd (5183643170566569984 : UInt64) (FP.dmul (FP.i2d (p2 >>> ((4 : Int32) &&& 31))) (4944952390852804608 : UInt64))))), .second, .val (.float (FP.fneg (2139095040 : UInt32))), iv (p2 >>> ((4 : Int32) &&& 31)), .val (.double (FP.dadd (5183643170566569984 : UInt64) (FP.dmul (FP.i2d (p2 >>> ((4 : Int32) &&& 31))) (4944952390852804608 : UInt64)))), .second, .val (.float (2139095040 : UInt32))] [(.float (Jvm.FP.Core.OwnQ.nw (FP.dneg (FP.dadd (5183643170566569984 : UInt64) (FP.dmul (FP.i2d (p2 >>> ((4 : Int32) &&& 31))) (4944952390852804608 : UInt64))))))] _
          refine XS.fload X31.here hx rfl (hb hby at_340) rfl ?_
          show own_S p e below T31 m 342 #[iv p1, iv p2, iv p3, iv (5 : Int32), iv ng, .val (.double (FP.dneg (FP.dadd (5183643170566569984 : UInt64) (FP.dmul (FP.i2d (p2 >>> ((4 : Int32) &&& 31))) (4944952390852804608 : UInt64))))), .second, .val (.float (FP.fneg (2139095040 : UInt32))), iv (p2 >>> ((4 : Int32) &&& 31)), .val (.double (FP.dadd (5183643170566569984 : UInt64) (FP.dmul (FP.i2d (p2 >>> ((4 : Int32) &&& 31))) (4944952390852804608 : UInt64)))), .second, .val (.float (2139095040 : UInt32))] [(.float (FP.fneg (2139095040 : UInt32))), (.float (Jvm.FP.Core.OwnQ.nw (FP.dneg (FP.dadd (5183643170566569984 : UInt64) (FP.dmul (FP.i2d (p2 >>> ((4 : Int32) &&& 31))) (4944952390852804608 : UInt64))))))] _
          refine XS.fcmpS X31.here hx rfl (hb hby at_342) rfl (v := (0 : Int32)) hgood.2 ?_
          show own_S p e below T31 m 343 #[iv p1, iv p2, iv p3, iv (5 : Int32), iv ng, .val (.double (FP.dneg (FP.dadd (5183643170566569984 : UInt64) (FP.dmul (FP.i2d (p2 >>> ((4 : Int32) &&& 31))) (4944952390852804608 : UInt64))))), .second, .val (.float (FP.fneg (2139095040 : UInt32))), iv (p2 >>> ((4 : Int32) &&& 31)), .val (.double (FP.dadd (5183643170566569984 : UInt64) (FP.dmul (FP.i2d (p2 >>> ((4 : Int32) &&& 31))) (4944952390852804608 : UInt64)))), .second, .val (.float (2139095040 : UInt32))] [(.int (0 : Int32))] _
          refine XS.ifNo X31.here hx rfl (hb hby at_343) rfl ((if0 _ _).trans (teq (by decide : (0 : Int32) = (0 : Int32))).2) ?_
          show own_S p e below T31 m 346 #[iv p1, iv p2, iv p3, iv (5 : Int32), iv ng, .val (.double (FP.dneg (FP.dadd (5183643170566569984 : UInt64) (FP.dmul (FP.i2d (p2 >>> ((4 : Int32) &&& 31))) (4944952390852804608 : UInt64))))), .second, .val (.float (FP.fneg (2139095040 : UInt32))), iv (p2 >>> ((4 : Int32) &&& 31)), .val (.double (FP.dadd (5183643170566569984 : UInt64) (FP.dmul (FP.i2d (p2 >>> ((4 : Int32) &&& 31))) (4944952390852804608 : UInt64)))), .second, .val (.float (2139095040 : UInt32))] [] _
          refine XS.iconst X31.here hx rfl (hb hby at_346) ?_
          show own_S p e below T31 m 347 #[iv p1, iv p2, iv p3, iv (5 : Int32), iv ng, .val (.double (FP.dneg (FP.dadd (5183643170566569984 : UInt64) (FP.dmul (FP.i2d (p2 >>> ((4 : Int32) &&& 31))) (4944952390852804608 : UInt64))))), .second, .val (.float (FP.fneg (2139095040 : UInt32))), iv (p2 >>> ((4 : Int32) &&& 31)), .val (.double (FP.dadd (5183643170566569984 : UInt64) (FP.dmul (FP.i2d (p2 >>> ((4 : Int32) &&& 31))) (4944952390852804608 : UInt64)))), .second, .val (.float (2139095040 : UInt32))] [(.int (1 : Int32))] _
          refine XS.goto X31.here hx rfl (pc0 := 347) (pc' := 351) rfl (hb hby at_347) (by decide) (by decide) ?_
          exact k)
        obtain ⟨fs, hr, hrun, hended, hW, hsame⟩ := X31.leave (v := some (.int (nar .boolean (1 : Int32)))) (fun h => by rw [Bd.returns] at h; cases h)
        refine ⟨_, _, pre32 _ ?_, hrun, hended, _, _, rfl, ?_, ⟨_, rfl⟩, hW, hsame.mono (by decide) (by decide)⟩
        · show own_S p e below T31 m 351 #[iv p1, iv p2, iv p3, iv (5 : Int32), iv ng, .val (.double (FP.dneg (FP.dadd (5183643170566569984 : UInt64) (FP.dmul (FP.i2d (p2 >>> ((4 : Int32) &&& 31))) (4944952390852804608 : UInt64))))), .second, .val (.float (FP.fneg (2139095040 : UInt32))), iv (p2 >>> ((4 : Int32) &&& 31)), .val (.double (FP.dadd (5183643170566569984 : UInt64) (FP.dmul (FP.i2d (p2 >>> ((4 : Int32) &&& 31))) (4944952390852804608 : UInt64)))), .second, .val (.float (2139095040 : UInt32))] [(.int (1 : Int32))] _
          exact retN X31 hx (t := .boolean) Bd.returns (by simp) (hb hby at_351) hr
        · show Q0 Z p1 p2 p3 h0 n0 _ T31.heap _
          rw [e31]
          exact ⟨rfl, N31⟩
    ·  -- pc 186 no
      have pre34 : ∀ tg, own_S p e below s₁ m 200 #[iv p1, iv p2, iv p3, iv (5 : Int32), iv ng, .unset, .unset, .unset, iv (p2 >>> ((4 : Int32) &&& 31)), .val (.double (FP.dadd (5183643170566569984 : UInt64) (FP.dmul (FP.i2d (p2 >>> ((4 : Int32) &&& 31))) (4944952390852804608 : UInt64)))), .second, .val (.float (2139095039 : UInt32))] [(.int ng)] tg → Steps p.tables e below (s₁.setTop (entryFrame m #[(.int p1), (.int p2), (.int p3)] maxLocals)) tg := fun tg k => pre26 tg (by
        show own_S p e below s₁ m 186 #[iv p1, iv p2, iv p3, iv (5 : Int32), iv ng, .unset, .unset, .unset, iv (p2 >>> ((4 : Int32) &&& 31)), .val (.double (FP.dadd (5183643170566569984 : UInt64) (FP.dmul (FP.i2d (p2 >>> ((4 : Int32) &&& 31))) (4944952390852804608 : UInt64)))), .second, .unset] [(.int (p2 >>> ((4 : Int32) &&& 31)))] _
        refine XS.ifYes X0.here hx rfl (pc0 := 186) (pc' := 194) rfl (hb hby at_186) rfl ((if0 _ _).trans (flt hc186_25).2.2.2) (by decide) (by decide) ?_
        show own_S p e below s₁ m 194 #[iv p1, iv p2, iv p3, iv (5 : Int32), iv ng, .unset, .unset, .unset, iv (p2 >>> ((4 : Int32) &&& 31)), .val (.double (FP.dadd (5183643170566569984 : UInt64) (FP.dmul (FP.i2d (p2 >>> ((4 : Int32) &&& 31))) (4944952390852804608 : UInt64)))), .second, .unset] [] _
        refine X0.ldcFloatC hx hown (mvT hZ (hw _ (List.mem_of_getElem? (i := 19) rfl))) (g := (mkF m 194 #[iv p1, iv p2, iv p3, iv (5 : Int32), iv ng, .unset, .unset, .unset, iv (p2 >>> ((4 : Int32) &&& 31)), .val (.double (FP.dadd (5183643170566569984 : UInt64) (FP.dmul (FP.i2d (p2 >>> ((4 : Int32) &&& 31))) (4944952390852804608 : UInt64)))), .second, .unset] [])) rfl (hb hby at_194) _ ?_
        show own_S p e below s₁ m 196 #[iv p1, iv p2, iv p3, iv (5 : Int32), iv ng, .unset, .unset, .unset, iv (p2 >>> ((4 : Int32) &&& 31)), .val (.double (FP.dadd (5183643170566569984 : UInt64) (FP.dmul (FP.i2d (p2 >>> ((4 : Int32) &&& 31))) (4944952390852804608 : UInt64)))), .second, .unset] [(.float (2139095039 : UInt32))] _
        refine XS.fstore X0.here hx rfl (hb hby at_196) rfl (l' := #[iv p1, iv p2, iv p3, iv (5 : Int32), iv ng, .unset, .unset, .unset, iv (p2 >>> ((4 : Int32) &&& 31)), .val (.double (FP.dadd (5183643170566569984 : UInt64) (FP.dmul (FP.i2d (p2 >>> ((4 : Int32) &&& 31))) (4944952390852804608 : UInt64)))), .second, .val (.float (2139095039 : UInt32))]) rfl ?_
        show own_S p e below s₁ m 198 #[iv p1, iv p2, iv p3, iv (5 : Int32), iv ng, .unset, .unset, .unset, iv (p2 >>> ((4 : Int32) &&& 31)), .val (.double (FP.dadd (5183643170566569984 : UInt64) (FP.dmul (FP.i2d (p2 >>> ((4 : Int32) &&& 31))) (4944952390852804608 : UInt64)))), .second, .val (.float (2139095039 : UInt32))] [] _
        refine XS.iload X0.here hx rfl (hb hby at_198) rfl ?_
        exact k)
      by_cases hc200_33 : ng = (0 : Int32)
      ·  -- pc 200 yes
        have hgood : Jvm.FP.Core.OwnQ.Good0 (FP.dadd (5183643170566569984 : UInt64) (FP.dmul (FP.i2d (p2 >>> ((4 : Int32) &&& 31))) (4944952390852804608 : UInt64))) (2139095039 : UInt32) := (Jvm.FP.Core.OwnQ.mode5b (Jvm.FP.Core.OwnQ.shr4 p2) hc186_25)
        obtain ⟨_, _, ⟨T35, L35, k35, n35⟩, -, X35, ⟨Lc35, hQ35, l35, y35, z35⟩, st35⟩ := Jvm.LawKit.callS X0 hx (y := (⟨"com/example/converge/converge/compiler/FloatText", "narrow", "(D)F"⟩ : MethodName)) hown (mvT hZ (hw _ (List.mem_of_getElem? (i := 0) rfl))) (mvT hZ (hw _ (List.mem_of_getElem? (i := 1) rfl))) (mvT hZ (hw _ (List.mem_of_getElem? (i := 2) rfl))) (mvT hZ (hw _ (List.mem_of_getElem? (i := 3) rfl))) (by decide) (backOf (W := 0) (rm1 l Z a0 hw [] (FP.dadd (5183643170566569984 : UInt64) (FP.dmul (FP.i2d (p2 >>> ((4 : Int32) &&& 31))) (4944952390852804608 : UInt64))) h0 n0 Z0 hgood.1) hZ (hw _ (List.mem_of_getElem? (i := 3) rfl)) (hw _ (List.mem_of_getElem? (i := 2) rfl)) (by decide) (by decide)) (g := (mkF m 337 #[iv p1, iv p2, iv p3, iv (5 : Int32), iv ng, .val (.double (FP.dadd (5183643170566569984 : UInt64) (FP.dmul (FP.i2d (p2 >>> ((4 : Int32) &&& 31))) (4944952390852804608 : UInt64)))), .second, .val (.float (2139095039 : UInt32)), iv (p2 >>> ((4 : Int32) &&& 31)), .val (.double (FP.dadd (5183643170566569984 : UInt64) (FP.dmul (FP.i2d (p2 >>> ((4 : Int32) &&& 31))) (4944952390852804608 : UInt64)))), .second, .val (.float (2139095039 : UInt32))] [(.double (FP.dadd (5183643170566569984 : UInt64) (FP.dmul (FP.i2d (p2 >>> ((4 : Int32) &&& 31))) (4944952390852804608 : UInt64))))])) rfl (by rw [hml]; rfl) (argsL := [(.double (FP.dadd (5183643170566569984 : UInt64) (FP.dmul (FP.i2d (p2 >>> ((4 : Int32) &&& 31))) (4944952390852804608 : UInt64))))]) (rest := []) (lenOf pd_0 rfl) rfl (by show 2 * 0 + _ ≤ _; exact Nat.le_of_eq rfl) (hb hby at_337) (fun _ _ => ⟨rfl, e0, (by decide : 0 + 0 ≤ _), (by decide : 0 + 0 ≤ _)⟩)
        dsimp only [Pt.U, Pt.locs, Pt.cells, Pt.slots] at X35 l35 y35 z35 st35 hQ35
        subst l35 y35 z35
        obtain ⟨rfl, N35q, e35q⟩ := hQ35
        have N35 := Fr.app N0 N35q
        have e35 : T35.heap = h0 := e35q
        have pre36 : ∀ tg, own_S p e below T35 m 351 #[iv p1, iv p2, iv p3, iv (5 : Int32), iv ng, .val (.double (FP.dadd (5183643170566569984 : UInt64) (FP.dmul (FP.i2d (p2 >>> ((4 : Int32) &&& 31))) (4944952390852804608 : UInt64)))), .second, .val (.float (2139095039 : UInt32)), iv (p2 >>> ((4 : Int32) &&& 31)), .val (.double (FP.dadd (5183643170566569984 : UInt64) (FP.dmul (FP.i2d (p2 >>> ((4 : Int32) &&& 31))) (4944952390852804608 : UInt64)))), .second, .val (.float (2139095039 : UInt32))] [(.int (1 : Int32))] tg → Steps p.tables e below (s₁.setTop (entryFrame m #[(.int p1), (.int p2), (.int p3)] maxLocals)) tg := fun tg k => pre34 tg (by
          show own_S p e below s₁ m 200 #[iv p1, iv p2, iv p3, iv (5 : Int32), iv ng, .unset, .unset, .unset, iv (p2 >>> ((4 : Int32) &&& 31)), .val (.double (FP.dadd (5183643170566569984 : UInt64) (FP.dmul (FP.i2d (p2 >>> ((4 : Int32) &&& 31))) (4944952390852804608 : UInt64)))), .second, .val (.float (2139095039 : UInt32))] [(.int ng)] _
          refine XS.ifYes X0.here hx rfl (pc0 := 200) (pc' := 209) rfl (hb hby at_200) rfl ((if0 _ _).trans (teq hc200_33).1) (by decide) (by decide) ?_
          show own_S p e below s₁ m 209 #[iv p1, iv p2, iv p3, iv (5 : Int32), iv ng, .unset, .unset, .unset, iv (p2 >>> ((4 : Int32) &&& 31)), .val (.double (FP.dadd (5183643170566569984 : UInt64) (FP.dmul (FP.i2d (p2 >>> ((4 : Int32) &&& 31))) (4944952390852804608 : UInt64)))), .second, .val (.float (2139095039 : UInt32))] [] _
          refine XS.dload X0.here hx rfl (hb hby at_209) rfl ?_
          show own_S p e below s₁ m 211 #[iv p1, iv p2, iv p3, iv (5 : Int32), iv ng, .unset, .unset, .unset, iv (p2 >>> ((4 : Int32) &&& 31)), .val (.double (FP.dadd (5183643170566569984 : UInt64) (FP.dmul (FP.i2d (p2 >>> ((4 : Int32) &&& 31))) (4944952390852804608 : UInt64)))), .second, .val (.float (2139095039 : UInt32))] [(.double (FP.dadd (5183643170566569984 : UInt64) (FP.dmul (FP.i2d (p2 >>> ((4 : Int32) &&& 31))) (4944952390852804608 : UInt64))))] _
          refine XS.dstore X0.here hx rfl (hb hby at_211) rfl (l' := #[iv p1, iv p2, iv p3, iv (5 : Int32), iv ng, .val (.double (FP.dadd (5183643170566569984 : UInt64) (FP.dmul (FP.i2d (p2 >>> ((4 : Int32) &&& 31))) (4944952390852804608 : UInt64)))), .second, .unset, iv (p2 >>> ((4 : Int32) &&& 31)), .val (.double (FP.dadd (5183643170566569984 : UInt64) (FP.dmul (FP.i2d (p2 >>> ((4 : Int32) &&& 31))) (4944952390852804608 : UInt64)))), .second, .val (.float (2139095039 : UInt32))]) rfl ?_
          show own_S p e below s₁ m 213 #[iv p1, iv p2, iv p3, iv (5 : Int32), iv ng, .val (.double (FP.dadd (5183643170566569984 : UInt64) (FP.dmul (FP.i2d (p2 >>> ((4 : Int32) &&& 31))) (4944952390852804608 : UInt64)))), .second, .unset, iv (p2 >>> ((4 : Int32) &&& 31)), .val (.double (FP.dadd (5183643170566569984 : UInt64) (FP.dmul (FP.i2d (p2 >>> ((4 : Int32) &&& 31))) (4944952390852804608 : UInt64)))), .second, .val (.float (2139095039 : UInt32))] [] _
          refine XS.iload X0.here hx rfl (hb hby at_213) rfl ?_
          show own_S p e below s₁ m 215 #[iv p1, iv p2, iv p3, iv (5 : Int32), iv ng, .val (.double (FP.dadd (5183643170566569984 : UInt64) (FP.dmul (FP.i2d (p2 >>> ((4 : Int32) &&& 31))) (4944952390852804608 : UInt64)))), .second, .unset, iv (p2 >>> ((4 : Int32) &&& 31)), .val (.double (FP.dadd (5183643170566569984 : UInt64) (FP.dmul (FP.i2d (p2 >>> ((4 : Int32) &&& 31))) (4944952390852804608 : UInt64)))), .second, .val (.float (2139095039 : UInt32))] [(.int ng)] _
          refine XS.ifYes X0.here hx rfl (pc0 := 215) (pc' := 224) rfl (hb hby at_215) rfl ((if0 _ _).trans (teq hc200_33).1) (by decide) (by decide) ?_
          show own_S p e below s₁ m 224 #[iv p1, iv p2, iv p3, iv (5 : Int32), iv ng, .val (.double (FP.dadd (5183643170566569984 : UInt64) (FP.dmul (FP.i2d (p2 >>> ((4 : Int32) &&& 31))) (4944952390852804608 : UInt64)))), .second, .unset, iv (p2 >>> ((4 : Int32) &&& 31)), .val (.double (FP.dadd (5183643170566569984 : UInt64) (FP.dmul (FP.i2d (p2 >>> ((4 : Int32) &&& 31))) (4944952390852804608 : UInt64)))), .second, .val (.float (2139095039 : UInt32))] [] _
          refine XS.fload X0.here hx rfl (hb hby at_224) rfl ?_
          show own_S p e below s₁ m 226 #[iv p1, iv p2, iv p3, iv (5 : Int32), iv ng, .val (.double (FP.dadd (5183643170566569984 : UInt64) (FP.dmul (FP.i2d (p2 >>> ((4 : Int32) &&& 31))) (4944952390852804608 : UInt64)))), .second, .unset, iv (p2 >>> ((4 : Int32) &&& 31)), .val (.double (FP.dadd (5183643170566569984 : UInt64) (FP.dmul (FP.i2d (p2 >>> ((4 : Int32) &&& 31))) (4944952390852804608 : UInt64)))), .second, .val (.float (2139095039 : UInt32))] [(.float (2139095039 : UInt32))] _
          refine XS.fstore X0.here hx rfl (hb hby at_226) rfl (l' := #[iv p1, iv p2, iv p3, iv (5 : Int32), iv ng, .val (.double (FP.dadd (5183643170566569984 : UInt64) (FP.dmul (FP.i2d (p2 >>> ((4 : Int32) &&& 31))) (4944952390852804608 : UInt64)))), .second, .val (.float (2139095039 : UInt32)), iv (p2 >>> ((4 : Int32) &&& 31)), .val (.double (FP.dadd (5183643170566569984 : UInt64) (FP.dmul (FP.i2d (p2 >>> ((4 : Int32) &&& 31))) (4944952390852804608 : UInt64)))), .second, .val (.float (2139095039 : UInt32))]) rfl ?_
          show own_S p e below s₁ m 228 #[iv p1, iv p2, iv p3, iv (5 : Int32), iv ng, .val (.double (FP.dadd (5183643170566569984 : UInt64) (FP.dmul (FP.i2d (p2 >>> ((4 : Int32) &&& 31))) (4944952390852804608 : UInt64)))), .second, .val (.float (2139095039 : UInt32)), iv (p2 >>> ((4 : Int32) &&& 31)), .val (.double (FP.dadd (5183643170566569984 : UInt64) (FP.dmul (FP.i2d (p2 >>> ((4 : Int32) &&& 31))) (4944952390852804608 : UInt64)))), .second, .val (.float (2139095039 : UInt32))] [] _
          refine XS.goto X0.here hx rfl (pc0 := 228) (pc' := 335) rfl (hb hby at_228) (by decide) (by decide) ?_
          show own_S p e below s₁ m 335 #[iv p1, iv p2, iv p3, iv (5 : Int32), iv ng, .val (.double (FP.dadd (5183643170566569984 : UInt64) (FP.dmul (FP.i2d (p2 >>> ((4 : Int32) &&& 31))) (4944952390852804608 : UInt64)))), .second, .val (.float (2139095039 : UInt32)), iv (p2 >>> ((4 : Int32) &&& 31)), .val (.double (FP.dadd (5183643170566569984 : UInt64) (FP.dmul (FP.i2d (p2 >>> ((4 : Int32) &&& 31))) (4944952390852804608 : UInt64)))), .second, .val (.float (2139095039 : UInt32))] [] _
          refine XS.dload X0.here hx rfl (hb hby at_335) rfl ?_
          show own_S p e below s₁ m 337 #[iv p1, iv p2, iv p3, iv (5 : Int32), iv ng, .val (.double (FP.dadd (5183643170566569984 : UInt64) (FP.dmul (FP.i2d (p2 >>> ((4 : Int32) &&& 31))) (4944952390852804608 : UInt64)))), .second, .val (.float (2139095039 : UInt32)), iv (p2 >>> ((4 : Int32) &&& 31)), .val (.double (FP.dadd (5183643170566569984 : UInt64) (FP.dmul (FP.i2d (p2 >>> ((4 : Int32) &&& 31))) (4944952390852804608 : UInt64)))), .second, .val (.float (2139095039 : UInt32))] [(.double (FP.dadd (5183643170566569984 : UInt64) (FP.dmul (FP.i2d (p2 >>> ((4 : Int32) &&& 31))) (4944952390852804608 : UInt64))))] _
          refine st35 _ ?_
          show own_S p e below T35 m 340 #[iv p1, iv p2, iv p3, iv (5 : Int32), iv ng, .val (.double (FP.dadd (5183643170566569984 : UInt64) (FP.dmul (FP.i2d (p2 >>> ((4 : Int32) &&& 31))) (4944952390852804608 : UInt64)))), .second, .val (.float (2139095039 : UInt32)), iv (p2 >>> ((4 : Int32) &&& 31)), .val (.double (FP.dadd (5183643170566569984 : UInt64) (FP.dmul (FP.i2d (p2 >>> ((4 : Int32) &&& 31))) (4944952390852804608 : UInt64)))), .second, .val (.float (2139095039 : UInt32))] [(.float (Jvm.FP.Core.OwnQ.nw (FP.dadd (5183643170566569984 : UInt64) (FP.dmul (FP.i2d (p2 >>> ((4 : Int32) &&& 31))) (4944952390852804608 : UInt64)))))] _
          refine XS.fload X35.here hx rfl (hb hby at_340) rfl ?_
          show own_S p e below T35 m 342 #[iv p1, iv p2, iv p3, iv (5 : Int32), iv ng, .val (.double (FP.dadd (5183643170566569984 : UInt64) (FP.dmul (FP.i2d (p2 >>> ((4 : Int32) &&& 31))) (4944952390852804608 : UInt64)))), .second, .val (.float (2139095039 : UInt32)), iv (p2 >>> ((4 : Int32) &&& 31)), .val (.double (FP.dadd (5183643170566569984 : UInt64) (FP.dmul (FP.i2d (p2 >>> ((4 : Int32) &&& 31))) (4944952390852804608 : UInt64)))), .second, .val (.float (2139095039 : UInt32))] [(.float (2139095039 : UInt32)), (.float (Jvm.FP.Core.OwnQ.nw (FP.dadd (5183643170566569984 : UInt64) (FP.dmul (FP.i2d (p2 >>> ((4 : Int32) &&& 31))) (4944952390852804608 : UInt64)))))] _
          refine XS.fcmpS X35.here hx rfl (hb hby at_342) rfl (v := (0 : Int32)) hgood.2 ?_
          show own_S p e below T35 m 343 #[iv p1, iv p2, iv p3, iv (5 : Int32), iv ng, .val (.double (FP.dadd (5183643170566569984 : UInt64) (FP.dmul (FP.i2d (p2 >>> ((4 : Int32) &&& 31))) (4944952390852804608 : UInt64)))), .second, .val (.float (2139095039 : UInt32)), iv (p2 >>> ((4 : Int32) &&& 31)), .val (.double (FP.dadd (5183643170566569984 : UInt64) (FP.dmul (FP.i2d (p2 >>> ((4 : Int32) &&& 31))) (4944952390852804608 : UInt64)))), .second, .val (.float (2139095039 : UInt32))] [(.int (0 : Int32))] _
          refine XS.ifNo X35.here hx rfl (hb hby at_343) rfl ((if0 _ _).trans (teq (by decide : (0 : Int32) = (0 : Int32))).2) ?_
          show own_S p e below T35 m 346 #[iv p1, iv p2, iv p3, iv (5 : Int32), iv ng, .val (.double (FP.dadd (5183643170566569984 : UInt64) (FP.dmul (FP.i2d (p2 >>> ((4 : Int32) &&& 31))) (4944952390852804608 : UInt64)))), .second, .val (.float (2139095039 : UInt32)), iv (p2 >>> ((4 : Int32) &&& 31)), .val (.double (FP.dadd (5183643170566569984 : UInt64) (FP.dmul (FP.i2d (p2 >>> ((4 : Int32) &&& 31))) (4944952390852804608 : UInt64)))), .second, .val (.float (2139095039 : UInt32))] [] _
          refine XS.iconst X35.here hx rfl (hb hby at_346) ?_
          show own_S p e below T35 m 347 #[iv p1, iv p2, iv p3, iv (5 : Int32), iv ng, .val (.double (FP.dadd (5183643170566569984 : UInt64) (FP.dmul (FP.i2d (p2 >>> ((4 : Int32) &&& 31))) (4944952390852804608 : UInt64)))), .second, .val (.float (2139095039 : UInt32)), iv (p2 >>> ((4 : Int32) &&& 31)), .val (.double (FP.dadd (5183643170566569984 : UInt64) (FP.dmul (FP.i2d (p2 >>> ((4 : Int32) &&& 31))) (4944952390852804608 : UInt64)))), .second, .val (.float (2139095039 : UInt32))] [(.int (1 : Int32))] _
          refine XS.goto X35.here hx rfl (pc0 := 347) (pc' := 351) rfl (hb hby at_347) (by decide) (by decide) ?_
          exact k)
        obtain ⟨fs, hr, hrun, hended, hW, hsame⟩ := X35.leave (v := some (.int (nar .boolean (1 : Int32)))) (fun h => by rw [Bd.returns] at h; cases h)
        refine ⟨_, _, pre36 _ ?_, hrun, hended, _, _, rfl, ?_, ⟨_, rfl⟩, hW, hsame.mono (by decide) (by decide)⟩
        · show own_S p e below T35 m 351 #[iv p1, iv p2, iv p3, iv (5 : Int32), iv ng, .val (.double (FP.dadd (5183643170566569984 : UInt64) (FP.dmul (FP.i2d (p2 >>> ((4 : Int32) &&& 31))) (4944952390852804608 : UInt64)))), .second, .val (.float (2139095039 : UInt32)), iv (p2 >>> ((4 : Int32) &&& 31)), .val (.double (FP.dadd (5183643170566569984 : UInt64) (FP.dmul (FP.i2d (p2 >>> ((4 : Int32) &&& 31))) (4944952390852804608 : UInt64)))), .second, .val (.float (2139095039 : UInt32))] [(.int (1 : Int32))] _
          exact retN X35 hx (t := .boolean) Bd.returns (by simp) (hb hby at_351) hr
        · show Q0 Z p1 p2 p3 h0 n0 _ T35.heap _
          rw [e35]
          exact ⟨rfl, N35⟩
      ·  -- pc 200 no
        have hgood : Jvm.FP.Core.OwnQ.Good0 (FP.dneg (FP.dadd (5183643170566569984 : UInt64) (FP.dmul (FP.i2d (p2 >>> ((4 : Int32) &&& 31))) (4944952390852804608 : UInt64)))) (FP.fneg (2139095039 : UInt32)) := (Jvm.FP.Core.OwnQ.mode5d (Jvm.FP.Core.OwnQ.shr4 p2) hc186_25)
        obtain ⟨_, _, ⟨T37, L37, k37, n37⟩, -, X37, ⟨Lc37, hQ37, l37, y37, z37⟩, st37⟩ := Jvm.LawKit.callS X0 hx (y := (⟨"com/example/converge/converge/compiler/FloatText", "narrow", "(D)F"⟩ : MethodName)) hown (mvT hZ (hw _ (List.mem_of_getElem? (i := 0) rfl))) (mvT hZ (hw _ (List.mem_of_getElem? (i := 1) rfl))) (mvT hZ (hw _ (List.mem_of_getElem? (i := 2) rfl))) (mvT hZ (hw _ (List.mem_of_getElem? (i := 3) rfl))) (by decide) (backOf (W := 0) (rm1 l Z a0 hw [] (FP.dneg (FP.dadd (5183643170566569984 : UInt64) (FP.dmul (FP.i2d (p2 >>> ((4 : Int32) &&& 31))) (4944952390852804608 : UInt64)))) h0 n0 Z0 hgood.1) hZ (hw _ (List.mem_of_getElem? (i := 3) rfl)) (hw _ (List.mem_of_getElem? (i := 2) rfl)) (by decide) (by decide)) (g := (mkF m 337 #[iv p1, iv p2, iv p3, iv (5 : Int32), iv ng, .val (.double (FP.dneg (FP.dadd (5183643170566569984 : UInt64) (FP.dmul (FP.i2d (p2 >>> ((4 : Int32) &&& 31))) (4944952390852804608 : UInt64))))), .second, .val (.float (FP.fneg (2139095039 : UInt32))), iv (p2 >>> ((4 : Int32) &&& 31)), .val (.double (FP.dadd (5183643170566569984 : UInt64) (FP.dmul (FP.i2d (p2 >>> ((4 : Int32) &&& 31))) (4944952390852804608 : UInt64)))), .second, .val (.float (2139095039 : UInt32))] [(.double (FP.dneg (FP.dadd (5183643170566569984 : UInt64) (FP.dmul (FP.i2d (p2 >>> ((4 : Int32) &&& 31))) (4944952390852804608 : UInt64)))))])) rfl (by rw [hml]; rfl) (argsL := [(.double (FP.dneg (FP.dadd (5183643170566569984 : UInt64) (FP.dmul (FP.i2d (p2 >>> ((4 : Int32) &&& 31))) (4944952390852804608 : UInt64)))))]) (rest := []) (lenOf pd_0 rfl) rfl (by show 2 * 0 + _ ≤ _; exact Nat.le_of_eq rfl) (hb hby at_337) (fun _ _ => ⟨rfl, e0, (by decide : 0 + 0 ≤ _), (by decide : 0 + 0 ≤ _)⟩)
        dsimp only [Pt.U, Pt.locs, Pt.cells, Pt.slots] at X37 l37 y37 z37 st37 hQ37
        subst l37 y37 z37
        obtain ⟨rfl, N37q, e37q⟩ := hQ37
        have N37 := Fr.app N0 N37q
        have e37 : T37.heap = h0 := e37q
        have pre38 : ∀ tg, own_S p e below T37 m 351 #[iv p1, iv p2, iv p3, iv (5 : Int32), iv ng, .val (.double (FP.dneg (FP.dadd (5183643170566569984 : UInt64) (FP.dmul (FP.i2d (p2 >>> ((4 : Int32) &&& 31))) (4944952390852804608 : UInt64))))), .second, .val (.float (FP.fneg (2139095039 : UInt32))), iv (p2 >>> ((4 : Int32) &&& 31)), .val (.double (FP.dadd (5183643170566569984 : UInt64) (FP.dmul (FP.i2d (p2 >>> ((4 : Int32) &&& 31))) (4944952390852804608 : UInt64)))), .second, .val (.float (2139095039 : UInt32))] [(.int (1 : Int32))] tg → Steps p.tables e below (s₁.setTop (entryFrame m #[(.int p1), (.int p2), (.int p3)] maxLocals)) tg := fun tg k => pre34 tg (by
          show own_S p e below s₁ m 200 #[iv p1, iv p2, iv p3, iv (5 : Int32), iv ng, .unset, .unset, .unset, iv (p2 >>> ((4 : Int32) &&& 31)), .val (.double (FP.dadd (5183643170566569984 : UInt64) (FP.dmul (FP.i2d (p2 >>> ((4 : Int32) &&& 31))) (4944952390852804608 : UInt64)))), .second, .val (.float (2139095039 : UInt32))] [(.int ng)] _
          refine XS.ifNo X0.here hx rfl (hb hby at_200) rfl ((if0 _ _).trans (feq hc200_33).1) ?_
          show own_S p e below s₁ m 203 #[iv p1, iv p2, iv p3, iv (5 : Int32), iv ng, .unset, .unset, .unset, iv (p2 >>> ((4 : Int32) &&& 31)), .val (.double (FP.dadd (5183643170566569984 : UInt64) (FP.dmul (FP.i2d (p2 >>> ((4 : Int32) &&& 31))) (4944952390852804608 : UInt64)))), .second, .val (.float (2139095039 : UInt32))] [] _
          refine XS.dload X0.here hx rfl (hb hby at_203) rfl ?_
          show own_S p e below s₁ m 205 #[iv p1, iv p2, iv p3, iv (5 : Int32), iv ng, .unset, .unset, .unset, iv (p2 >>> ((4 : Int32) &&& 31)), .val (.double (FP.dadd (5183643170566569984 : UInt64) (FP.dmul (FP.i2d (p2 >>> ((4 : Int32) &&& 31))) (4944952390852804608 : UInt64)))), .second, .val (.float (2139095039 : UInt32))] [(.double (FP.dadd (5183643170566569984 : UInt64) (FP.dmul (FP.i2d (p2 >>> ((4 : Int32) &&& 31))) (4944952390852804608 : UInt64))))] _
          refine XS.dnegS X0.here hx rfl (hb hby at_205) rfl rfl ?_
          show own_S p e below s₁ m 206 #[iv p1, iv p2, iv p3, iv (5 : Int32), iv ng, .unset, .unset, .unset, iv (p2 >>> ((4 : Int32) &&& 31)), .val (.double (FP.dadd (5183643170566569984 : UInt64) (FP.dmul (FP.i2d (p2 >>> ((4 : Int32) &&& 31))) (4944952390852804608 : UInt64)))), .second, .val (.float (2139095039 : UInt32))] [(.double (FP.dneg (FP.dadd (5183643170566569984 : UInt64) (FP.dmul (FP.i2d (p2 >>> ((4 : Int32) &&& 31))) (4944952390852804608 : UInt64)))))] _
          refine XS.goto X0.here hx rfl (pc0 := 206) (pc' := 211) rfl (hb hby at_206) (by decide) (by decide) ?_
          show own_S p e below s₁ m 211 #[iv p1, iv p2, iv p3, iv (5 : Int32), iv ng, .unset, .unset, .unset, iv (p2 >>> ((4 : Int32) &&& 31)), .val (.double (FP.dadd (5183643170566569984 : UInt64) (FP.dmul (FP.i2d (p2 >>> ((4 : Int32) &&& 31))) (4944952390852804608 : UInt64)))), .second, .val (.float (2139095039 : UInt32))] [(.double (FP.dneg (FP.dadd (5183643170566569984 : UInt64) (FP.dmul (FP.i2d (p2 >>> ((4 : Int32) &&& 31))) (4944952390852804608 : UInt64)))))] _
          refine XS.dstore X0.here hx rfl (hb hby at_211) rfl (l' := #[iv p1, iv p2, iv p3, iv (5 : Int32), iv ng, .val (.double (FP.dneg (FP.dadd (5183643170566569984 : UInt64) (FP.dmul (FP.i2d (p2 >>> ((4 : Int32) &&& 31))) (4944952390852804608 : UInt64))))), .second, .unset, iv (p2 >>> ((4 : Int32) &&& 31)), .val (.double (FP.dadd (5183643170566569984 : UInt64) (FP.dmul (FP.i2d (p2 >>> ((4 : Int32) &&& 31))) (4944952390852804608 : UInt64)))), .second, .val (.float (2139095039 : UInt32))]) rfl ?_
          show own_S p e below s₁ m 213 #[iv p1, iv p2, iv p3, iv (5 : Int32), iv ng, .val (.double (FP.dneg (FP.dadd (5183643170566569984 : UInt64) (FP.dmul (FP.i2d (p2 >>> ((4 : Int32) &&& 31))) (4944952390852804608 : UInt64))))), .second, .unset, iv (p2 >>> ((4 : Int32) &&& 31)), .val (.double (FP.dadd (5183643170566569984 : UInt64) (FP.dmul (FP.i2d (p2 >>> ((4 : Int32) &&& 31))) (4944952390852804608 : UInt64)))), .second, .val (.float (2139095039 : UInt32))] [] _
          refine XS.iload X0.here hx rfl (hb hby at_213) rfl ?_
          show own_S p e below s₁ m 215 #[iv p1, iv p2, iv p3, iv (5 : Int32), iv ng, .val (.double (FP.dneg (FP.dadd (5183643170566569984 : UInt64) (FP.dmul (FP.i2d (p2 >>> ((4 : Int32) &&& 31))) (4944952390852804608 : UInt64))))), .second, .unset, iv (p2 >>> ((4 : Int32) &&& 31)), .val (.double (FP.dadd (5183643170566569984 : UInt64) (FP.dmul (FP.i2d (p2 >>> ((4 : Int32) &&& 31))) (4944952390852804608 : UInt64)))), .second, .val (.float (2139095039 : UInt32))] [(.int ng)] _
          refine XS.ifNo X0.here hx rfl (hb hby at_215) rfl ((if0 _ _).trans (feq hc200_33).1) ?_
          show own_S p e below s₁ m 218 #[iv p1, iv p2, iv p3, iv (5 : Int32), iv ng, .val (.double (FP.dneg (FP.dadd (5183643170566569984 : UInt64) (FP.dmul (FP.i2d (p2 >>> ((4 : Int32) &&& 31))) (4944952390852804608 : UInt64))))), .second, .unset, iv (p2 >>> ((4 : Int32) &&& 31)), .val (.double (FP.dadd (5183643170566569984 : UInt64) (FP.dmul (FP.i2d (p2 >>> ((4 : Int32) &&& 31))) (4944952390852804608 : UInt64)))), .second, .val (.float (2139095039 : UInt32))] [] _
          refine XS.fload X0.here hx rfl (hb hby at_218) rfl ?_
          show own_S p e below s₁ m 220 #[iv p1, iv p2, iv p3, iv (5 : Int32), iv ng, .val (.double (FP.dneg (FP.dadd (5183643170566569984 : UInt64) (FP.dmul (FP.i2d (p2 >>> ((4 : Int32) &&& 31))) (4944952390852804608 : UInt64))))), .second, .unset, iv (p2 >>> ((4 : Int32) &&& 31)), .val (.double (FP.dadd (5183643170566569984 : UInt64) (FP.dmul (FP.i2d (p2 >>> ((4 : Int32) &&& 31))) (4944952390852804608 : UInt64)))), .second, .val (.float (2139095039 : UInt32))] [(.float (2139095039 : UInt32))] _
          refine XS.fnegS X0.here hx rfl (hb hby at_220) rfl rfl ?_
          show own_S p e below s₁ m 221 #[iv p1, iv p2, iv p3, iv (5 : Int32), iv ng, .val (.double (FP.dneg (FP.dadd (5183643170566569984 : UInt64) (FP.dmul (FP.i2d (p2 >>> ((4 : Int32) &&& 31))) (4944952390852804608 : UInt64))))), .second, .unset, iv (p2 >>> ((4 : Int32) &&& 31)), .val (.double (FP.dadd (5183643170566569984 : UInt64) (FP.dmul (FP.i2d (p2 >>> ((4 : Int32) &&& 31))) (4944952390852804608 : UInt64)))), .second, .val (.float (2139095039 : UInt32))] [(.float (FP.fneg (2139095039 : UInt32)))] _
          refine XS.goto X0.here hx rfl (pc0 := 221) (pc' := 226) rfl (hb hby at_221) (by decide) (by decide) ?_
          show own_S p e below s₁ m 226 #[iv p1, iv p2, iv p3, iv (5 : Int32), iv ng, .val (.double (FP.dneg (FP.dadd (5183643170566569984 : UInt64) (FP.dmul (FP.i2d (p2 >>> ((4 : Int32) &&& 31))) (4944952390852804608 : UInt64))))), .second, .unset, iv (p2 >>> ((4 : Int32) &&& 31)), .val (.double (FP.dadd (5183643170566569984 : UInt64) (FP.dmul (FP.i2d (p2 >>> ((4 : Int32) &&& 31))) (4944952390852804608 : UInt64)))), .second, .val (.float (2139095039 : UInt32))] [(.float (FP.fneg (2139095039 : UInt32)))] _
          refine XS.fstore X0.here hx rfl (hb hby at_226) rfl (l' := #[iv p1, iv p2, iv p3, iv (5 : Int32), iv ng, .val (.double (FP.dneg (FP.dadd (5183643170566569984 : UInt64) (FP.dmul (FP.i2d (p2 >>> ((4 : Int32) &&& 31))) (4944952390852804608 : UInt64))))), .second, .val (.float (FP.fneg (2139095039 : UInt32))), iv (p2 >>> ((4 : Int32) &&& 31)), .val (.double (FP.dadd (5183643170566569984 : UInt64) (FP.dmul (FP.i2d (p2 >>> ((4 : Int32) &&& 31))) (4944952390852804608 : UInt64)))), .second, .val (.float (2139095039 : UInt32))]) rfl ?_
          show own_S p e below s₁ m 228 #[iv p1, iv p2, iv p3, iv (5 : Int32), iv ng, .val (.double (FP.dneg (FP.dadd (5183643170566569984 : UInt64) (FP.dmul (FP.i2d (p2 >>> ((4 : Int32) &&& 31))) (4944952390852804608 : UInt64))))), .second, .val (.float (FP.fneg (2139095039 : UInt32))), iv (p2 >>> ((4 : Int32) &&& 31)), .val (.double (FP.dadd (5183643170566569984 : UInt64) (FP.dmul (FP.i2d (p2 >>> ((4 : Int32) &&& 31))) (4944952390852804608 : UInt64)))), .second, .val (.float (2139095039 : UInt32))] [] _
          refine XS.goto X0.here hx rfl (pc0 := 228) (pc' := 335) rfl (hb hby at_228) (by decide) (by decide) ?_
          show own_S p e below s₁ m 335 #[iv p1, iv p2, iv p3, iv (5 : Int32), iv ng, .val (.double (FP.dneg (FP.dadd (5183643170566569984 : UInt64) (FP.dmul (FP.i2d (p2 >>> ((4 : Int32) &&& 31))) (4944952390852804608 : UInt64))))), .second, .val (.float (FP.fneg (2139095039 : UInt32))), iv (p2 >>> ((4 : Int32) &&& 31)), .val (.double (FP.dadd (5183643170566569984 : UInt64) (FP.dmul (FP.i2d (p2 >>> ((4 : Int32) &&& 31))) (4944952390852804608 : UInt64)))), .second, .val (.float (2139095039 : UInt32))] [] _
          refine XS.dload X0.here hx rfl (hb hby at_335) rfl ?_
          show own_S p e below s₁ m 337 #[iv p1, iv p2, iv p3, iv (5 : Int32), iv ng, .val (.double (FP.dneg (FP.dadd (5183643170566569984 : UInt64) (FP.dmul (FP.i2d (p2 >>> ((4 : Int32) &&& 31))) (4944952390852804608 : UInt64))))), .second, .val (.float (FP.fneg (2139095039 : UInt32))), iv (p2 >>> ((4 : Int32) &&& 31)), .val (.double (FP.dadd (5183643170566569984 : UInt64) (FP.dmul (FP.i2d (p2 >>> ((4 : Int32) &&& 31))) (4944952390852804608 : UInt64)))), .second, .val (.float (2139095039 : UInt32))] [(.double (FP.dneg (FP.dadd (5183643170566569984 : UInt64) (FP.dmul (FP.i2d (p2 >>> ((4 : Int32) &&& 31))) (4944952390852804608 : UInt64)))))] _
          refine st37 _ ?_
          show own_S p e below T37 m 340 #[iv p1, iv p2, iv p3, iv (5 : Int32), iv ng, .val (.double (FP.dneg (FP.dadd (5183643170566569984 : UInt64) (FP.dmul (FP.i2d (p2 >>> ((4 : Int32) &&& 31))) (4944952390852804608 : UInt64))))), .second, .val (.float (FP.fneg (2139095039 : UInt32))), iv (p2 >>> ((4 : Int32) &&& 31)), .val (.double (FP.dadd (5183643170566569984 : UInt64) (FP.dmul (FP.i2d (p2 >>> ((4 : Int32) &&& 31))) (4944952390852804608 : UInt64)))), .second, .val (.float (2139095039 : UInt32))] [(.float (Jvm.FP.Core.OwnQ.nw (FP.dneg (FP.dadd (5183643170566569984 : UInt64) (FP.dmul (FP.i2d (p2 >>> ((4 : Int32) &&& 31))) (4944952390852804608 : UInt64))))))] _
          refine XS.fload X37.here hx rfl (hb hby at_340) rfl ?_
          show own_S p e below T37 m 342 #[iv p1, iv p2, iv p3, iv (5 : Int32), iv ng, .val (.double (FP.dneg (FP.dadd (5183643170566569984 : UInt64) (FP.dmul (FP.i2d (p2 >>> ((4 : Int32) &&& 31))) (4944952390852804608 : UInt64))))), .second, .val (.float (FP.fneg (2139095039 : UInt32))), iv (p2 >>> ((4 : Int32) &&& 31)), .val (.double (FP.dadd (5183643170566569984 : UInt64) (FP.dmul (FP.i2d (p2 >>> ((4 : Int32) &&& 31))) (4944952390852804608 : UInt64)))), .second, .val (.float (2139095039 : UInt32))] [(.float (FP.fneg (2139095039 : UInt32))), (.float (Jvm.FP.Core.OwnQ.nw (FP.dneg (FP.dadd (5183643170566569984 : UInt64) (FP.dmul (FP.i2d (p2 >>> ((4 : Int32) &&& 31))) (4944952390852804608 : UInt64))))))] _
          refine XS.fcmpS X37.here hx rfl (hb hby at_342) rfl (v := (0 : Int32)) hgood.2 ?_
          show own_S p e below T37 m 343 #[iv p1, iv p2, iv p3, iv (5 : Int32), iv ng, .val (.double (FP.dneg (FP.dadd (5183643170566569984 : UInt64) (FP.dmul (FP.i2d (p2 >>> ((4 : Int32) &&& 31))) (4944952390852804608 : UInt64))))), .second, .val (.float (FP.fneg (2139095039 : UInt32))), iv (p2 >>> ((4 : Int32) &&& 31)), .val (.double (FP.dadd (5183643170566569984 : UInt64) (FP.dmul (FP.i2d (p2 >>> ((4 : Int32) &&& 31))) (4944952390852804608 : UInt64)))), .second, .val (.float (2139095039 : UInt32))] [(.int (0 : Int32))] _
          refine XS.ifNo X37.here hx rfl (hb hby at_343) rfl ((if0 _ _).trans (teq (by decide : (0 : Int32) = (0 : Int32))).2) ?_
          show own_S p e below T37 m 346 #[iv p1, iv p2, iv p3, iv (5 : Int32), iv ng, .val (.double (FP.dneg (FP.dadd (5183643170566569984 : UInt64) (FP.dmul (FP.i2d (p2 >>> ((4 : Int32) &&& 31))) (4944952390852804608 : UInt64))))), .second, .val (.float (FP.fneg (2139095039 : UInt32))), iv (p2 >>> ((4 : Int32) &&& 31)), .val (.double (FP.dadd (5183643170566569984 : UInt64) (FP.dmul (FP.i2d (p2 >>> ((4 : Int32) &&& 31))) (4944952390852804608 : UInt64)))), .second, .val (.float (2139095039 : UInt32))] [] _
          refine XS.iconst X37.here hx rfl (hb hby at_346) ?_
          show own_S p e below T37 m 347 #[iv p1, iv p2, iv p3, iv (5 : Int32), iv ng, .val (.double (FP.dneg (FP.dadd (5183643170566569984 : UInt64) (FP.dmul (FP.i2d (p2 >>> ((4 : Int32) &&& 31))) (4944952390852804608 : UInt64))))), .second, .val (.float (FP.fneg (2139095039 : UInt32))), iv (p2 >>> ((4 : Int32) &&& 31)), .val (.double (FP.dadd (5183643170566569984 : UInt64) (FP.dmul (FP.i2d (p2 >>> ((4 : Int32) &&& 31))) (4944952390852804608 : UInt64)))), .second, .val (.float (2139095039 : UInt32))] [(.int (1 : Int32))] _
          refine XS.goto X37.here hx rfl (pc0 := 347) (pc' := 351) rfl (hb hby at_347) (by decide) (by decide) ?_
          exact k)
        obtain ⟨fs, hr, hrun, hended, hW, hsame⟩ := X37.leave (v := some (.int (nar .boolean (1 : Int32)))) (fun h => by rw [Bd.returns] at h; cases h)
        refine ⟨_, _, pre38 _ ?_, hrun, hended, _, _, rfl, ?_, ⟨_, rfl⟩, hW, hsame.mono (by decide) (by decide)⟩
        · show own_S p e below T37 m 351 #[iv p1, iv p2, iv p3, iv (5 : Int32), iv ng, .val (.double (FP.dneg (FP.dadd (5183643170566569984 : UInt64) (FP.dmul (FP.i2d (p2 >>> ((4 : Int32) &&& 31))) (4944952390852804608 : UInt64))))), .second, .val (.float (FP.fneg (2139095039 : UInt32))), iv (p2 >>> ((4 : Int32) &&& 31)), .val (.double (FP.dadd (5183643170566569984 : UInt64) (FP.dmul (FP.i2d (p2 >>> ((4 : Int32) &&& 31))) (4944952390852804608 : UInt64)))), .second, .val (.float (2139095039 : UInt32))] [(.int (1 : Int32))] _
          exact retN X37 hx (t := .boolean) Bd.returns (by simp) (hb hby at_351) hr
        · show Q0 Z p1 p2 p3 h0 n0 _ T37.heap _
          rw [e37]
          exact ⟨rfl, N37⟩
  ·  -- case
    have pre40 : ∀ tg, own_S p e below s₁ m 239 #[iv p1, iv p2, iv p3, iv (6 : Int32), iv ng, .unset, .unset, .unset, .unset, .unset, .unset, .unset] [(.int ng)] tg → Steps p.tables e below (s₁.setTop (entryFrame m #[(.int p1), (.int p2), (.int p3)] maxLocals)) tg := fun tg k => pre6 tg (by
      show own_S p e below s₁ m 18 #[iv p1, iv p2, iv p3, iv (6 : Int32), iv ng, .unset, .unset, .unset, .unset, .unset, .unset, .unset] [] _
      refine XS.iloadN X0.here hx rfl (hb hby at_18) rfl ?_
      show own_S p e below s₁ m 19 #[iv p1, iv p2, iv p3, iv (6 : Int32), iv ng, .unset, .unset, .unset, .unset, .unset, .unset, .unset] [(.int (6 : Int32))] _
      refine XS.ifYes X0.here hx rfl (pc0 := 19) (pc' := 33) rfl (hb hby at_19) rfl ((if0 _ _).trans (feq (by decide : ¬ ((6 : Int32) = (0 : Int32)))).2) (by decide) (by decide) ?_
      show own_S p e below s₁ m 33 #[iv p1, iv p2, iv p3, iv (6 : Int32), iv ng, .unset, .unset, .unset, .unset, .unset, .unset, .unset] [] _
      refine XS.iloadN X0.here hx rfl (hb hby at_33) rfl ?_
      show own_S p e below s₁ m 34 #[iv p1, iv p2, iv p3, iv (6 : Int32), iv ng, .unset, .unset, .unset, .unset, .unset, .unset, .unset] [(.int (6 : Int32))] _
      refine XS.iconst X0.here hx rfl (hb hby at_34) ?_
      show own_S p e below s₁ m 35 #[iv p1, iv p2, iv p3, iv (6 : Int32), iv ng, .unset, .unset, .unset, .unset, .unset, .unset, .unset] [(.int (1 : Int32)), (.int (6 : Int32))] _
      refine XS.icmpYes X0.here hx rfl (pc0 := 35) (pc' := 56) rfl (hb hby at_35) rfl (feq (by decide : ¬ ((6 : Int32) = (1 : Int32)))).2 (by decide) (by decide) ?_
      show own_S p e below s₁ m 56 #[iv p1, iv p2, iv p3, iv (6 : Int32), iv ng, .unset, .unset, .unset, .unset, .unset, .unset, .unset] [] _
      refine XS.iloadN X0.here hx rfl (hb hby at_56) rfl ?_
      show own_S p e below s₁ m 57 #[iv p1, iv p2, iv p3, iv (6 : Int32), iv ng, .unset, .unset, .unset, .unset, .unset, .unset, .unset] [(.int (6 : Int32))] _
      refine XS.iconst X0.here hx rfl (hb hby at_57) ?_
      show own_S p e below s₁ m 58 #[iv p1, iv p2, iv p3, iv (6 : Int32), iv ng, .unset, .unset, .unset, .unset, .unset, .unset, .unset] [(.int (2 : Int32)), (.int (6 : Int32))] _
      refine XS.icmpYes X0.here hx rfl (pc0 := 58) (pc' := 79) rfl (hb hby at_58) rfl (feq (by decide : ¬ ((6 : Int32) = (2 : Int32)))).2 (by decide) (by decide) ?_
      show own_S p e below s₁ m 79 #[iv p1, iv p2, iv p3, iv (6 : Int32), iv ng, .unset, .unset, .unset, .unset, .unset, .unset, .unset] [] _
      refine XS.iloadN X0.here hx rfl (hb hby at_79) rfl ?_
      show own_S p e below s₁ m 80 #[iv p1, iv p2, iv p3, iv (6 : Int32), iv ng, .unset, .unset, .unset, .unset, .unset, .unset, .unset] [(.int (6 : Int32))] _
      refine XS.iconst X0.here hx rfl (hb hby at_80) ?_
      show own_S p e below s₁ m 81 #[iv p1, iv p2, iv p3, iv (6 : Int32), iv ng, .unset, .unset, .unset, .unset, .unset, .unset, .unset] [(.int (3 : Int32)), (.int (6 : Int32))] _
      refine XS.icmpYes X0.here hx rfl (pc0 := 81) (pc' := 110) rfl (hb hby at_81) rfl (feq (by decide : ¬ ((6 : Int32) = (3 : Int32)))).2 (by decide) (by decide) ?_
      show own_S p e below s₁ m 110 #[iv p1, iv p2, iv p3, iv (6 : Int32), iv ng, .unset, .unset, .unset, .unset, .unset, .unset, .unset] [] _
      refine XS.iloadN X0.here hx rfl (hb hby at_110) rfl ?_
      show own_S p e below s₁ m 111 #[iv p1, iv p2, iv p3, iv (6 : Int32), iv ng, .unset, .unset, .unset, .unset, .unset, .unset, .unset] [(.int (6 : Int32))] _
      refine XS.iconst X0.here hx rfl (hb hby at_111) ?_
      show own_S p e below s₁ m 112 #[iv p1, iv p2, iv p3, iv (6 : Int32), iv ng, .unset, .unset, .unset, .unset, .unset, .unset, .unset] [(.int (4 : Int32)), (.int (6 : Int32))] _
      refine XS.icmpYes X0.here hx rfl (pc0 := 112) (pc' := 161) rfl (hb hby at_112) rfl (feq (by decide : ¬ ((6 : Int32) = (4 : Int32)))).2 (by decide) (by decide) ?_
      show own_S p e below s₁ m 161 #[iv p1, iv p2, iv p3, iv (6 : Int32), iv ng, .unset, .unset, .unset, .unset, .unset, .unset, .unset] [] _
      refine XS.iloadN X0.here hx rfl (hb hby at_161) rfl ?_
      show own_S p e below s₁ m 162 #[iv p1, iv p2, iv p3, iv (6 : Int32), iv ng, .unset, .unset, .unset, .unset, .unset, .unset, .unset] [(.int (6 : Int32))] _
      refine XS.iconst X0.here hx rfl (hb hby at_162) ?_
      show own_S p e below s₁ m 163 #[iv p1, iv p2, iv p3, iv (6 : Int32), iv ng, .unset, .unset, .unset, .unset, .unset, .unset, .unset] [(.int (5 : Int32)), (.int (6 : Int32))] _
      refine XS.icmpYes X0.here hx rfl (pc0 := 163) (pc' := 231) rfl (hb hby at_163) rfl (feq (by decide : ¬ ((6 : Int32) = (5 : Int32)))).2 (by decide) (by decide) ?_
      show own_S p e below s₁ m 231 #[iv p1, iv p2, iv p3, iv (6 : Int32), iv ng, .unset, .unset, .unset, .unset, .unset, .unset, .unset] [] _
      refine XS.iloadN X0.here hx rfl (hb hby at_231) rfl ?_
      show own_S p e below s₁ m 232 #[iv p1, iv p2, iv p3, iv (6 : Int32), iv ng, .unset, .unset, .unset, .unset, .unset, .unset, .unset] [(.int (6 : Int32))] _
      refine XS.bipush X0.here hx rfl (hb hby at_232) ?_
      show own_S p e below s₁ m 234 #[iv p1, iv p2, iv p3, iv (6 : Int32), iv ng, .unset, .unset, .unset, .unset, .unset, .unset, .unset] [(.int (6 : Int32)), (.int (6 : Int32))] _
      refine XS.icmpNo X0.here hx rfl (hb hby at_234) rfl (teq (by decide : (6 : Int32) = (6 : Int32))).2 ?_
      show own_S p e below s₁ m 237 #[iv p1, iv p2, iv p3, iv (6 : Int32), iv ng, .unset, .unset, .unset, .unset, .unset, .unset, .unset] [] _
      refine XS.iload X0.here hx rfl (hb hby at_237) rfl ?_
      exact k)
    by_cases hc239_39 : ng = (0 : Int32)
    ·  -- pc 239 yes
      have hgood : Jvm.FP.Core.OwnQ.Good0 (9218868437227405312 : UInt64) (2139095040 : UInt32) := (Jvm.FP.Core.OwnQ.const (by decide +kernel) (by decide +kernel))
      obtain ⟨_, _, ⟨T41, L41, k41, n41⟩, -, X41, ⟨Lc41, hQ41, l41, y41, z41⟩, st41⟩ := Jvm.LawKit.callS X0 hx (y := (⟨"com/example/converge/converge/compiler/FloatText", "narrow", "(D)F"⟩ : MethodName)) hown (mvT hZ (hw _ (List.mem_of_getElem? (i := 0) rfl))) (mvT hZ (hw _ (List.mem_of_getElem? (i := 1) rfl))) (mvT hZ (hw _ (List.mem_of_getElem? (i := 2) rfl))) (mvT hZ (hw _ (List.mem_of_getElem? (i := 3) rfl))) (by decide) (backOf (W := 0) (rm1 l Z a0 hw [] (9218868437227405312 : UInt64) h0 n0 Z0 hgood.1) hZ (hw _ (List.mem_of_getElem? (i := 3) rfl)) (hw _ (List.mem_of_getElem? (i := 2) rfl)) (by decide) (by decide)) (g := (mkF m 337 #[iv p1, iv p2, iv p3, iv (6 : Int32), iv ng, .val (.double (9218868437227405312 : UInt64)), .second, .val (.float (2139095040 : UInt32)), .unset, .unset, .unset, .unset] [(.double (9218868437227405312 : UInt64))])) rfl (by rw [hml]; rfl) (argsL := [(.double (9218868437227405312 : UInt64))]) (rest := []) (lenOf pd_0 rfl) rfl (by show 2 * 0 + _ ≤ _; exact Nat.le_of_eq rfl) (hb hby at_337) (fun _ _ => ⟨rfl, e0, (by decide : 0 + 0 ≤ _), (by decide : 0 + 0 ≤ _)⟩)
      dsimp only [Pt.U, Pt.locs, Pt.cells, Pt.slots] at X41 l41 y41 z41 st41 hQ41
      subst l41 y41 z41
      obtain ⟨rfl, N41q, e41q⟩ := hQ41
      have N41 := Fr.app N0 N41q
      have e41 : T41.heap = h0 := e41q
      have pre42 : ∀ tg, own_S p e below T41 m 351 #[iv p1, iv p2, iv p3, iv (6 : Int32), iv ng, .val (.double (9218868437227405312 : UInt64)), .second, .val (.float (2139095040 : UInt32)), .unset, .unset, .unset, .unset] [(.int (1 : Int32))] tg → Steps p.tables e below (s₁.setTop (entryFrame m #[(.int p1), (.int p2), (.int p3)] maxLocals)) tg := fun tg k => pre40 tg (by
        show own_S p e below s₁ m 239 #[iv p1, iv p2, iv p3, iv (6 : Int32), iv ng, .unset, .unset, .unset, .unset, .unset, .unset, .unset] [(.int ng)] _
        refine XS.ifYes X0.here hx rfl (pc0 := 239) (pc' := 248) rfl (hb hby at_239) rfl ((if0 _ _).trans (teq hc239_39).1) (by decide) (by decide) ?_
        show own_S p e below s₁ m 248 #[iv p1, iv p2, iv p3, iv (6 : Int32), iv ng, .unset, .unset, .unset, .unset, .unset, .unset, .unset] [] _
        refine X0.ldc2DoubleC hx hown (mvT hZ (hw _ (List.mem_of_getElem? (i := 24) rfl))) (g := (mkF m 248 #[iv p1, iv p2, iv p3, iv (6 : Int32), iv ng, .unset, .unset, .unset, .unset, .unset, .unset, .unset] [])) rfl (hb hby at_248) _ ?_
        show own_S p e below s₁ m 251 #[iv p1, iv p2, iv p3, iv (6 : Int32), iv ng, .unset, .unset, .unset, .unset, .unset, .unset, .unset] [(.double (9218868437227405312 : UInt64))] _
        refine XS.dstore X0.here hx rfl (hb hby at_251) rfl (l' := #[iv p1, iv p2, iv p3, iv (6 : Int32), iv ng, .val (.double (9218868437227405312 : UInt64)), .second, .unset, .unset, .unset, .unset, .unset]) rfl ?_
        show own_S p e below s₁ m 253 #[iv p1, iv p2, iv p3, iv (6 : Int32), iv ng, .val (.double (9218868437227405312 : UInt64)), .second, .unset, .unset, .unset, .unset, .unset] [] _
        refine XS.iload X0.here hx rfl (hb hby at_253) rfl ?_
        show own_S p e below s₁ m 255 #[iv p1, iv p2, iv p3, iv (6 : Int32), iv ng, .val (.double (9218868437227405312 : UInt64)), .second, .unset, .unset, .unset, .unset, .unset] [(.int ng)] _
        refine XS.ifYes X0.here hx rfl (pc0 := 255) (pc' := 263) rfl (hb hby at_255) rfl ((if0 _ _).trans (teq hc239_39).1) (by decide) (by decide) ?_
        show own_S p e below s₁ m 263 #[iv p1, iv p2, iv p3, iv (6 : Int32), iv ng, .val (.double (9218868437227405312 : UInt64)), .second, .unset, .unset, .unset, .unset, .unset] [] _
        refine X0.ldcFloatC hx hown (mvT hZ (hw _ (List.mem_of_getElem? (i := 21) rfl))) (g := (mkF m 263 #[iv p1, iv p2, iv p3, iv (6 : Int32), iv ng, .val (.double (9218868437227405312 : UInt64)), .second, .unset, .unset, .unset, .unset, .unset] [])) rfl (hb hby at_263) _ ?_
        show own_S p e below s₁ m 265 #[iv p1, iv p2, iv p3, iv (6 : Int32), iv ng, .val (.double (9218868437227405312 : UInt64)), .second, .unset, .unset, .unset, .unset, .unset] [(.float (2139095040 : UInt32))] _
        refine XS.fstore X0.here hx rfl (hb hby at_265) rfl (l' := #[iv p1, iv p2, iv p3, iv (6 : Int32), iv ng, .val (.double (9218868437227405312 : UInt64)), .second, .val (.float (2139095040 : UInt32)), .unset, .unset, .unset, .unset]) rfl ?_
        show own_S p e below s₁ m 267 #[iv p1, iv p2, iv p3, iv (6 : Int32), iv ng, .val (.double (9218868437227405312 : UInt64)), .second, .val (.float (2139095040 : UInt32)), .unset, .unset, .unset, .unset] [] _
        refine XS.goto X0.here hx rfl (pc0 := 267) (pc' := 335) rfl (hb hby at_267) (by decide) (by decide) ?_
        show own_S p e below s₁ m 335 #[iv p1, iv p2, iv p3, iv (6 : Int32), iv ng, .val (.double (9218868437227405312 : UInt64)), .second, .val (.float (2139095040 : UInt32)), .unset, .unset, .unset, .unset] [] _
        refine XS.dload X0.here hx rfl (hb hby at_335) rfl ?_
        show own_S p e below s₁ m 337 #[iv p1, iv p2, iv p3, iv (6 : Int32), iv ng, .val (.double (9218868437227405312 : UInt64)), .second, .val (.float (2139095040 : UInt32)), .unset, .unset, .unset, .unset] [(.double (9218868437227405312 : UInt64))] _
        refine st41 _ ?_
        show own_S p e below T41 m 340 #[iv p1, iv p2, iv p3, iv (6 : Int32), iv ng, .val (.double (9218868437227405312 : UInt64)), .second, .val (.float (2139095040 : UInt32)), .unset, .unset, .unset, .unset] [(.float (Jvm.FP.Core.OwnQ.nw (9218868437227405312 : UInt64)))] _
        refine XS.fload X41.here hx rfl (hb hby at_340) rfl ?_
        show own_S p e below T41 m 342 #[iv p1, iv p2, iv p3, iv (6 : Int32), iv ng, .val (.double (9218868437227405312 : UInt64)), .second, .val (.float (2139095040 : UInt32)), .unset, .unset, .unset, .unset] [(.float (2139095040 : UInt32)), (.float (Jvm.FP.Core.OwnQ.nw (9218868437227405312 : UInt64)))] _
        refine XS.fcmpS X41.here hx rfl (hb hby at_342) rfl (v := (0 : Int32)) hgood.2 ?_
        show own_S p e below T41 m 343 #[iv p1, iv p2, iv p3, iv (6 : Int32), iv ng, .val (.double (9218868437227405312 : UInt64)), .second, .val (.float (2139095040 : UInt32)), .unset, .unset, .unset, .unset] [(.int (0 : Int32))] _
        refine XS.ifNo X41.here hx rfl (hb hby at_343) rfl ((if0 _ _).trans (teq (by decide : (0 : Int32) = (0 : Int32))).2) ?_
        show own_S p e below T41 m 346 #[iv p1, iv p2, iv p3, iv (6 : Int32), iv ng, .val (.double (9218868437227405312 : UInt64)), .second, .val (.float (2139095040 : UInt32)), .unset, .unset, .unset, .unset] [] _
        refine XS.iconst X41.here hx rfl (hb hby at_346) ?_
        show own_S p e below T41 m 347 #[iv p1, iv p2, iv p3, iv (6 : Int32), iv ng, .val (.double (9218868437227405312 : UInt64)), .second, .val (.float (2139095040 : UInt32)), .unset, .unset, .unset, .unset] [(.int (1 : Int32))] _
        refine XS.goto X41.here hx rfl (pc0 := 347) (pc' := 351) rfl (hb hby at_347) (by decide) (by decide) ?_
        exact k)
      obtain ⟨fs, hr, hrun, hended, hW, hsame⟩ := X41.leave (v := some (.int (nar .boolean (1 : Int32)))) (fun h => by rw [Bd.returns] at h; cases h)
      refine ⟨_, _, pre42 _ ?_, hrun, hended, _, _, rfl, ?_, ⟨_, rfl⟩, hW, hsame.mono (by decide) (by decide)⟩
      · show own_S p e below T41 m 351 #[iv p1, iv p2, iv p3, iv (6 : Int32), iv ng, .val (.double (9218868437227405312 : UInt64)), .second, .val (.float (2139095040 : UInt32)), .unset, .unset, .unset, .unset] [(.int (1 : Int32))] _
        exact retN X41 hx (t := .boolean) Bd.returns (by simp) (hb hby at_351) hr
      · show Q0 Z p1 p2 p3 h0 n0 _ T41.heap _
        rw [e41]
        exact ⟨rfl, N41⟩
    ·  -- pc 239 no
      have hgood : Jvm.FP.Core.OwnQ.Good0 (18442240474082181120 : UInt64) (4286578688 : UInt32) := (Jvm.FP.Core.OwnQ.const (by decide +kernel) (by decide +kernel))
      obtain ⟨_, _, ⟨T43, L43, k43, n43⟩, -, X43, ⟨Lc43, hQ43, l43, y43, z43⟩, st43⟩ := Jvm.LawKit.callS X0 hx (y := (⟨"com/example/converge/converge/compiler/FloatText", "narrow", "(D)F"⟩ : MethodName)) hown (mvT hZ (hw _ (List.mem_of_getElem? (i := 0) rfl))) (mvT hZ (hw _ (List.mem_of_getElem? (i := 1) rfl))) (mvT hZ (hw _ (List.mem_of_getElem? (i := 2) rfl))) (mvT hZ (hw _ (List.mem_of_getElem? (i := 3) rfl))) (by decide) (backOf (W := 0) (rm1 l Z a0 hw [] (18442240474082181120 : UInt64) h0 n0 Z0 hgood.1) hZ (hw _ (List.mem_of_getElem? (i := 3) rfl)) (hw _ (List.mem_of_getElem? (i := 2) rfl)) (by decide) (by decide)) (g := (mkF m 337 #[iv p1, iv p2, iv p3, iv (6 : Int32), iv ng, .val (.double (18442240474082181120 : UInt64)), .second, .val (.float (4286578688 : UInt32)), .unset, .unset, .unset, .unset] [(.double (18442240474082181120 : UInt64))])) rfl (by rw [hml]; rfl) (argsL := [(.double (18442240474082181120 : UInt64))]) (rest := []) (lenOf pd_0 rfl) rfl (by show 2 * 0 + _ ≤ _; exact Nat.le_of_eq rfl) (hb hby at_337) (fun _ _ => ⟨rfl, e0, (by decide : 0 + 0 ≤ _), (by decide : 0 + 0 ≤ _)⟩)
      dsimp only [Pt.U, Pt.locs, Pt.cells, Pt.slots] at X43 l43 y43 z43 st43 hQ43
      subst l43 y43 z43
      obtain ⟨rfl, N43q, e43q⟩ := hQ43
      have N43 := Fr.app N0 N43q
      have e43 : T43.heap = h0 := e43q
      have pre44 : ∀ tg, own_S p e below T43 m 351 #[iv p1, iv p2, iv p3, iv (6 : Int32), iv ng, .val (.double (18442240474082181120 : UInt64)), .second, .val (.float (4286578688 : UInt32)), .unset, .unset, .unset, .unset] [(.int (1 : Int32))] tg → Steps p.tables e below (s₁.setTop (entryFrame m #[(.int p1), (.int p2), (.int p3)] maxLocals)) tg := fun tg k => pre40 tg (by
        show own_S p e below s₁ m 239 #[iv p1, iv p2, iv p3, iv (6 : Int32), iv ng, .unset, .unset, .unset, .unset, .unset, .unset, .unset] [(.int ng)] _
        refine XS.ifNo X0.here hx rfl (hb hby at_239) rfl ((if0 _ _).trans (feq hc239_39).1) ?_
        show own_S p e below s₁ m 242 #[iv p1, iv p2, iv p3, iv (6 : Int32), iv ng, .unset, .unset, .unset, .unset, .unset, .unset, .unset] [] _
        refine X0.ldc2DoubleC hx hown (mvT hZ (hw _ (List.mem_of_getElem? (i := 22) rfl))) (g := (mkF m 242 #[iv p1, iv p2, iv p3, iv (6 : Int32), iv ng, .unset, .unset, .unset, .unset, .unset, .unset, .unset] [])) rfl (hb hby at_242) _ ?_
        show own_S p e below s₁ m 245 #[iv p1, iv p2, iv p3, iv (6 : Int32), iv ng, .unset, .unset, .unset, .unset, .unset, .unset, .unset] [(.double (18442240474082181120 : UInt64))] _
        refine XS.goto X0.here hx rfl (pc0 := 245) (pc' := 251) rfl (hb hby at_245) (by decide) (by decide) ?_
        show own_S p e below s₁ m 251 #[iv p1, iv p2, iv p3, iv (6 : Int32), iv ng, .unset, .unset, .unset, .unset, .unset, .unset, .unset] [(.double (18442240474082181120 : UInt64))] _
        refine XS.dstore X0.here hx rfl (hb hby at_251) rfl (l' := #[iv p1, iv p2, iv p3, iv (6 : Int32), iv ng, .val (.double (18442240474082181120 : UInt64)), .second, .unset, .unset, .unset, .unset, .unset]) rfl ?_
        show own_S p e below s₁ m 253 #[iv p1, iv p2, iv p3, iv (6 : Int32), iv ng, .val (.double (18442240474082181120 : UInt64)), .second, .unset, .unset, .unset, .unset, .unset] [] _
        refine XS.iload X0.here hx rfl (hb hby at_253) rfl ?_
        show own_S p e below s₁ m 255 #[iv p1, iv p2, iv p3, iv (6 : Int32), iv ng, .val (.double (18442240474082181120 : UInt64)), .second, .unset, .unset, .unset, .unset, .unset] [(.int ng)] _
        refine XS.ifNo X0.here hx rfl (hb hby at_255) rfl ((if0 _ _).trans (feq hc239_39).1) ?_
        show own_S p e below s₁ m 258 #[iv p1, iv p2, iv p3, iv (6 : Int32), iv ng, .val (.double (18442240474082181120 : UInt64)), .second, .unset, .unset, .unset, .unset, .unset] [] _
        refine X0.ldcFloatC hx hown (mvT hZ (hw _ (List.mem_of_getElem? (i := 11) rfl))) (g := (mkF m 258 #[iv p1, iv p2, iv p3, iv (6 : Int32), iv ng, .val (.double (18442240474082181120 : UInt64)), .second, .unset, .unset, .unset, .unset, .unset] [])) rfl (hb hby at_258) _ ?_
        show own_S p e below s₁ m 260 #[iv p1, iv p2, iv p3, iv (6 : Int32), iv ng, .val (.double (18442240474082181120 : UInt64)), .second, .unset, .unset, .unset, .unset, .unset] [(.float (4286578688 : UInt32))] _
        refine XS.goto X0.here hx rfl (pc0 := 260) (pc' := 265) rfl (hb hby at_260) (by decide) (by decide) ?_
        show own_S p e below s₁ m 265 #[iv p1, iv p2, iv p3, iv (6 : Int32), iv ng, .val (.double (18442240474082181120 : UInt64)), .second, .unset, .unset, .unset, .unset, .unset] [(.float (4286578688 : UInt32))] _
        refine XS.fstore X0.here hx rfl (hb hby at_265) rfl (l' := #[iv p1, iv p2, iv p3, iv (6 : Int32), iv ng, .val (.double (18442240474082181120 : UInt64)), .second, .val (.float (4286578688 : UInt32)), .unset, .unset, .unset, .unset]) rfl ?_
        show own_S p e below s₁ m 267 #[iv p1, iv p2, iv p3, iv (6 : Int32), iv ng, .val (.double (18442240474082181120 : UInt64)), .second, .val (.float (4286578688 : UInt32)), .unset, .unset, .unset, .unset] [] _
        refine XS.goto X0.here hx rfl (pc0 := 267) (pc' := 335) rfl (hb hby at_267) (by decide) (by decide) ?_
        show own_S p e below s₁ m 335 #[iv p1, iv p2, iv p3, iv (6 : Int32), iv ng, .val (.double (18442240474082181120 : UInt64)), .second, .val (.float (4286578688 : UInt32)), .unset, .unset, .unset, .unset] [] _
        refine XS.dload X0.here hx rfl (hb hby at_335) rfl ?_
        show own_S p e below s₁ m 337 #[iv p1, iv p2, iv p3, iv (6 : Int32), iv ng, .val (.double (18442240474082181120 : UInt64)), .second, .val (.float (4286578688 : UInt32)), .unset, .unset, .unset, .unset] [(.double (18442240474082181120 : UInt64))] _
        refine st43 _ ?_
        show own_S p e below T43 m 340 #[iv p1, iv p2, iv p3, iv (6 : Int32), iv ng, .val (.double (18442240474082181120 : UInt64)), .second, .val (.float (4286578688 : UInt32)), .unset, .unset, .unset, .unset] [(.float (Jvm.FP.Core.OwnQ.nw (18442240474082181120 : UInt64)))] _
        refine XS.fload X43.here hx rfl (hb hby at_340) rfl ?_
        show own_S p e below T43 m 342 #[iv p1, iv p2, iv p3, iv (6 : Int32), iv ng, .val (.double (18442240474082181120 : UInt64)), .second, .val (.float (4286578688 : UInt32)), .unset, .unset, .unset, .unset] [(.float (4286578688 : UInt32)), (.float (Jvm.FP.Core.OwnQ.nw (18442240474082181120 : UInt64)))] _
        refine XS.fcmpS X43.here hx rfl (hb hby at_342) rfl (v := (0 : Int32)) hgood.2 ?_
        show own_S p e below T43 m 343 #[iv p1, iv p2, iv p3, iv (6 : Int32), iv ng, .val (.double (18442240474082181120 : UInt64)), .second, .val (.float (4286578688 : UInt32)), .unset, .unset, .unset, .unset] [(.int (0 : Int32))] _
        refine XS.ifNo X43.here hx rfl (hb hby at_343) rfl ((if0 _ _).trans (teq (by decide : (0 : Int32) = (0 : Int32))).2) ?_
        show own_S p e below T43 m 346 #[iv p1, iv p2, iv p3, iv (6 : Int32), iv ng, .val (.double (18442240474082181120 : UInt64)), .second, .val (.float (4286578688 : UInt32)), .unset, .unset, .unset, .unset] [] _
        refine XS.iconst X43.here hx rfl (hb hby at_346) ?_
        show own_S p e below T43 m 347 #[iv p1, iv p2, iv p3, iv (6 : Int32), iv ng, .val (.double (18442240474082181120 : UInt64)), .second, .val (.float (4286578688 : UInt32)), .unset, .unset, .unset, .unset] [(.int (1 : Int32))] _
        refine XS.goto X43.here hx rfl (pc0 := 347) (pc' := 351) rfl (hb hby at_347) (by decide) (by decide) ?_
        exact k)
      obtain ⟨fs, hr, hrun, hended, hW, hsame⟩ := X43.leave (v := some (.int (nar .boolean (1 : Int32)))) (fun h => by rw [Bd.returns] at h; cases h)
      refine ⟨_, _, pre44 _ ?_, hrun, hended, _, _, rfl, ?_, ⟨_, rfl⟩, hW, hsame.mono (by decide) (by decide)⟩
      · show own_S p e below T43 m 351 #[iv p1, iv p2, iv p3, iv (6 : Int32), iv ng, .val (.double (18442240474082181120 : UInt64)), .second, .val (.float (4286578688 : UInt32)), .unset, .unset, .unset, .unset] [(.int (1 : Int32))] _
        exact retN X43 hx (t := .boolean) Bd.returns (by simp) (hb hby at_351) hr
      · show Q0 Z p1 p2 p3 h0 n0 _ T43.heap _
        rw [e43]
        exact ⟨rfl, N43⟩
  ·  -- case
    have pre46 : ∀ tg, own_S p e below s₁ m 277 #[iv p1, iv p2, iv p3, iv (7 : Int32), iv ng, .unset, .unset, .unset, iv (p3 &&& (3 : Int32)), .unset, .unset, .unset] [(.int (p3 &&& (3 : Int32)))] tg → Steps p.tables e below (s₁.setTop (entryFrame m #[(.int p1), (.int p2), (.int p3)] maxLocals)) tg := fun tg k => pre6 tg (by
      show own_S p e below s₁ m 18 #[iv p1, iv p2, iv p3, iv (7 : Int32), iv ng, .unset, .unset, .unset, .unset, .unset, .unset, .unset] [] _
      refine XS.iloadN X0.here hx rfl (hb hby at_18) rfl ?_
      show own_S p e below s₁ m 19 #[iv p1, iv p2, iv p3, iv (7 : Int32), iv ng, .unset, .unset, .unset, .unset, .unset, .unset, .unset] [(.int (7 : Int32))] _
      refine XS.ifYes X0.here hx rfl (pc0 := 19) (pc' := 33) rfl (hb hby at_19) rfl ((if0 _ _).trans (feq (by decide : ¬ ((7 : Int32) = (0 : Int32)))).2) (by decide) (by decide) ?_
      show own_S p e below s₁ m 33 #[iv p1, iv p2, iv p3, iv (7 : Int32), iv ng, .unset, .unset, .unset, .unset, .unset, .unset, .unset] [] _
      refine XS.iloadN X0.here hx rfl (hb hby at_33) rfl ?_
      show own_S p e below s₁ m 34 #[iv p1, iv p2, iv p3, iv (7 : Int32), iv ng, .unset, .unset, .unset, .unset, .unset, .unset, .unset] [(.int (7 : Int32))] _
      refine XS.iconst X0.here hx rfl (hb hby at_34) ?_
      show own_S p e below s₁ m 35 #[iv p1, iv p2, iv p3, iv (7 : Int32), iv ng, .unset, .unset, .unset, .unset, .unset, .unset, .unset] [(.int (1 : Int32)), (.int (7 : Int32))] _
      refine XS.icmpYes X0.here hx rfl (pc0 := 35) (pc' := 56) rfl (hb hby at_35) rfl (feq (by decide : ¬ ((7 : Int32) = (1 : Int32)))).2 (by decide) (by decide) ?_
      show own_S p e below s₁ m 56 #[iv p1, iv p2, iv p3, iv (7 : Int32), iv ng, .unset, .unset, .unset, .unset, .unset, .unset, .unset] [] _
      refine XS.iloadN X0.here hx rfl (hb hby at_56) rfl ?_
      show own_S p e below s₁ m 57 #[iv p1, iv p2, iv p3, iv (7 : Int32), iv ng, .unset, .unset, .unset, .unset, .unset, .unset, .unset] [(.int (7 : Int32))] _
      refine XS.iconst X0.here hx rfl (hb hby at_57) ?_
      show own_S p e below s₁ m 58 #[iv p1, iv p2, iv p3, iv (7 : Int32), iv ng, .unset, .unset, .unset, .unset, .unset, .unset, .unset] [(.int (2 : Int32)), (.int (7 : Int32))] _
      refine XS.icmpYes X0.here hx rfl (pc0 := 58) (pc' := 79) rfl (hb hby at_58) rfl (feq (by decide : ¬ ((7 : Int32) = (2 : Int32)))).2 (by decide) (by decide) ?_
      show own_S p e below s₁ m 79 #[iv p1, iv p2, iv p3, iv (7 : Int32), iv ng, .unset, .unset, .unset, .unset, .unset, .unset, .unset] [] _
      refine XS.iloadN X0.here hx rfl (hb hby at_79) rfl ?_
      show own_S p e below s₁ m 80 #[iv p1, iv p2, iv p3, iv (7 : Int32), iv ng, .unset, .unset, .unset, .unset, .unset, .unset, .unset] [(.int (7 : Int32))] _
      refine XS.iconst X0.here hx rfl (hb hby at_80) ?_
      show own_S p e below s₁ m 81 #[iv p1, iv p2, iv p3, iv (7 : Int32), iv ng, .unset, .unset, .unset, .unset, .unset, .unset, .unset] [(.int (3 : Int32)), (.int (7 : Int32))] _
      refine XS.icmpYes X0.here hx rfl (pc0 := 81) (pc' := 110) rfl (hb hby at_81) rfl (feq (by decide : ¬ ((7 : Int32) = (3 : Int32)))).2 (by decide) (by decide) ?_
      show own_S p e below s₁ m 110 #[iv p1, iv p2, iv p3, iv (7 : Int32), iv ng, .unset, .unset, .unset, .unset, .unset, .unset, .unset] [] _
      refine XS.iloadN X0.here hx rfl (hb hby at_110) rfl ?_
      show own_S p e below s₁ m 111 #[iv p1, iv p2, iv p3, iv (7 : Int32), iv ng, .unset, .unset, .unset, .unset, .unset, .unset, .unset] [(.int (7 : Int32))] _
      refine XS.iconst X0.here hx rfl (hb hby at_111) ?_
      show own_S p e below s₁ m 112 #[iv p1, iv p2, iv p3, iv (7 : Int32), iv ng, .unset, .unset, .unset, .unset, .unset, .unset, .unset] [(.int (4 : Int32)), (.int (7 : Int32))] _
      refine XS.icmpYes X0.here hx rfl (pc0 := 112) (pc' := 161) rfl (hb hby at_112) rfl (feq (by decide : ¬ ((7 : Int32) = (4 : Int32)))).2 (by decide) (by decide) ?_
      show own_S p e below s₁ m 161 #[iv p1, iv p2, iv p3, iv (7 : Int32), iv ng, .unset, .unset, .unset, .unset, .unset, .unset, .unset] [] _
      refine XS.iloadN X0.here hx rfl (hb hby at_161) rfl ?_
      show own_S p e below s₁ m 162 #[iv p1, iv p2, iv p3, iv (7 : Int32), iv ng, .unset, .unset, .unset, .unset, .unset, .unset, .unset] [(.int (7 : Int32))] _
      refine XS.iconst X0.here hx rfl (hb hby at_162) ?_
      show own_S p e below s₁ m 163 #[iv p1, iv p2, iv p3, iv (7 : Int32), iv ng, .unset, .unset, .unset, .unset, .unset, .unset, .unset] [(.int (5 : Int32)), (.int (7 : Int32))] _
      refine XS.icmpYes X0.here hx rfl (pc0 := 163) (pc' := 231) rfl (hb hby at_163) rfl (feq (by decide : ¬ ((7 : Int32) = (5 : Int32)))).2 (by decide) (by decide) ?_
      show own_S p e below s₁ m 231 #[iv p1, iv p2, iv p3, iv (7 : Int32), iv ng, .unset, .unset, .unset, .unset, .unset, .unset, .unset] [] _
      refine XS.iloadN X0.here hx rfl (hb hby at_231) rfl ?_
      show own_S p e below s₁ m 232 #[iv p1, iv p2, iv p3, iv (7 : Int32), iv ng, .unset, .unset, .unset, .unset, .unset, .unset, .unset] [(.int (7 : Int32))] _
      refine XS.bipush X0.here hx rfl (hb hby at_232) ?_
      show own_S p e below s₁ m 234 #[iv p1, iv p2, iv p3, iv (7 : Int32), iv ng, .unset, .unset, .unset, .unset, .unset, .unset, .unset] [(.int (6 : Int32)), (.int (7 : Int32))] _
      refine XS.icmpYes X0.here hx rfl (pc0 := 234) (pc' := 270) rfl (hb hby at_234) rfl (feq (by decide : ¬ ((7 : Int32) = (6 : Int32)))).2 (by decide) (by decide) ?_
      show own_S p e below s₁ m 270 #[iv p1, iv p2, iv p3, iv (7 : Int32), iv ng, .unset, .unset, .unset, .unset, .unset, .unset, .unset] [] _
      refine XS.iloadN X0.here hx rfl (hb hby at_270) rfl ?_
      show own_S p e below s₁ m 271 #[iv p1, iv p2, iv p3, iv (7 : Int32), iv ng, .unset, .unset, .unset, .unset, .unset, .unset, .unset] [(.int p3)] _
      refine XS.iconst X0.here hx rfl (hb hby at_271) ?_
      show own_S p e below s₁ m 272 #[iv p1, iv p2, iv p3, iv (7 : Int32), iv ng, .unset, .unset, .unset, .unset, .unset, .unset, .unset] [(.int (3 : Int32)), (.int p3)] _
      refine XS.iand X0.here hx rfl (hb hby at_272) rfl ?_
      show own_S p e below s₁ m 273 #[iv p1, iv p2, iv p3, iv (7 : Int32), iv ng, .unset, .unset, .unset, .unset, .unset, .unset, .unset] [(.int (p3 &&& (3 : Int32)))] _
      refine XS.istore X0.here hx rfl (hb hby at_273) rfl (l' := #[iv p1, iv p2, iv p3, iv (7 : Int32), iv ng, .unset, .unset, .unset, iv (p3 &&& (3 : Int32)), .unset, .unset, .unset]) rfl ?_
      show own_S p e below s₁ m 275 #[iv p1, iv p2, iv p3, iv (7 : Int32), iv ng, .unset, .unset, .unset, iv (p3 &&& (3 : Int32)), .unset, .unset, .unset] [] _
      refine XS.iload X0.here hx rfl (hb hby at_275) rfl ?_
      exact k)
    by_cases hc277_45 : (p3 &&& (3 : Int32)) = (0 : Int32)
    ·  -- pc 277 yes
      have hgood : Jvm.FP.Core.OwnQ.Good0 (9218868437227405311 : UInt64) (2139095040 : UInt32) := (Jvm.FP.Core.OwnQ.const (by decide +kernel) (by decide +kernel))
      obtain ⟨_, _, ⟨T47, L47, k47, n47⟩, -, X47, ⟨Lc47, hQ47, l47, y47, z47⟩, st47⟩ := Jvm.LawKit.callS X0 hx (y := (⟨"com/example/converge/converge/compiler/FloatText", "narrow", "(D)F"⟩ : MethodName)) hown (mvT hZ (hw _ (List.mem_of_getElem? (i := 0) rfl))) (mvT hZ (hw _ (List.mem_of_getElem? (i := 1) rfl))) (mvT hZ (hw _ (List.mem_of_getElem? (i := 2) rfl))) (mvT hZ (hw _ (List.mem_of_getElem? (i := 3) rfl))) (by decide) (backOf (W := 0) (rm1 l Z a0 hw [] (9218868437227405311 : UInt64) h0 n0 Z0 hgood.1) hZ (hw _ (List.mem_of_getElem? (i := 3) rfl)) (hw _ (List.mem_of_getElem? (i := 2) rfl)) (by decide) (by decide)) (g := (mkF m 337 #[iv p1, iv p2, iv p3, iv (7 : Int32), iv ng, .val (.double (9218868437227405311 : UInt64)), .second, .val (.float (2139095040 : UInt32)), iv (p3 &&& (3 : Int32)), .unset, .unset, .unset] [(.double (9218868437227405311 : UInt64))])) rfl (by rw [hml]; rfl) (argsL := [(.double (9218868437227405311 : UInt64))]) (rest := []) (lenOf pd_0 rfl) rfl (by show 2 * 0 + _ ≤ _; exact Nat.le_of_eq rfl) (hb hby at_337) (fun _ _ => ⟨rfl, e0, (by decide : 0 + 0 ≤ _), (by decide : 0 + 0 ≤ _)⟩)
      dsimp only [Pt.U, Pt.locs, Pt.cells, Pt.slots] at X47 l47 y47 z47 st47 hQ47
      subst l47 y47 z47
      obtain ⟨rfl, N47q, e47q⟩ := hQ47
      have N47 := Fr.app N0 N47q
      have e47 : T47.heap = h0 := e47q
      have pre48 : ∀ tg, own_S p e below T47 m 351 #[iv p1, iv p2, iv p3, iv (7 : Int32), iv ng, .val (.double (9218868437227405311 : UInt64)), .second, .val (.float (2139095040 : UInt32)), iv (p3 &&& (3 : Int32)), .unset, .unset, .unset] [(.int (1 : Int32))] tg → Steps p.tables e below (s₁.setTop (entryFrame m #[(.int p1), (.int p2), (.int p3)] maxLocals)) tg := fun tg k => pre46 tg (by
        show own_S p e below s₁ m 277 #[iv p1, iv p2, iv p3, iv (7 : Int32), iv ng, .unset, .unset, .unset, iv (p3 &&& (3 : Int32)), .unset, .unset, .unset] [(.int (p3 &&& (3 : Int32)))] _
        refine XS.ifNo X0.here hx rfl (hb hby at_277) rfl ((if0 _ _).trans (teq hc277_45).2) ?_
        show own_S p e below s₁ m 280 #[iv p1, iv p2, iv p3, iv (7 : Int32), iv ng, .unset, .unset, .unset, iv (p3 &&& (3 : Int32)), .unset, .unset, .unset] [] _
        refine X0.ldc2DoubleC hx hown (mvT hZ (hw _ (List.mem_of_getElem? (i := 26) rfl))) (g := (mkF m 280 #[iv p1, iv p2, iv p3, iv (7 : Int32), iv ng, .unset, .unset, .unset, iv (p3 &&& (3 : Int32)), .unset, .unset, .unset] [])) rfl (hb hby at_280) _ ?_
        show own_S p e below s₁ m 283 #[iv p1, iv p2, iv p3, iv (7 : Int32), iv ng, .unset, .unset, .unset, iv (p3 &&& (3 : Int32)), .unset, .unset, .unset] [(.double (9218868437227405311 : UInt64))] _
        refine XS.dstore X0.here hx rfl (hb hby at_283) rfl (l' := #[iv p1, iv p2, iv p3, iv (7 : Int32), iv ng, .val (.double (9218868437227405311 : UInt64)), .second, .unset, iv (p3 &&& (3 : Int32)), .unset, .unset, .unset]) rfl ?_
        show own_S p e below s₁ m 285 #[iv p1, iv p2, iv p3, iv (7 : Int32), iv ng, .val (.double (9218868437227405311 : UInt64)), .second, .unset, iv (p3 &&& (3 : Int32)), .unset, .unset, .unset] [] _
        refine X0.ldcFloatC hx hown (mvT hZ (hw _ (List.mem_of_getElem? (i := 21) rfl))) (g := (mkF m 285 #[iv p1, iv p2, iv p3, iv (7 : Int32), iv ng, .val (.double (9218868437227405311 : UInt64)), .second, .unset, iv (p3 &&& (3 : Int32)), .unset, .unset, .unset] [])) rfl (hb hby at_285) _ ?_
        show own_S p e below s₁ m 287 #[iv p1, iv p2, iv p3, iv (7 : Int32), iv ng, .val (.double (9218868437227405311 : UInt64)), .second, .unset, iv (p3 &&& (3 : Int32)), .unset, .unset, .unset] [(.float (2139095040 : UInt32))] _
        refine XS.fstore X0.here hx rfl (hb hby at_287) rfl (l' := #[iv p1, iv p2, iv p3, iv (7 : Int32), iv ng, .val (.double (9218868437227405311 : UInt64)), .second, .val (.float (2139095040 : UInt32)), iv (p3 &&& (3 : Int32)), .unset, .unset, .unset]) rfl ?_
        show own_S p e below s₁ m 289 #[iv p1, iv p2, iv p3, iv (7 : Int32), iv ng, .val (.double (9218868437227405311 : UInt64)), .second, .val (.float (2139095040 : UInt32)), iv (p3 &&& (3 : Int32)), .unset, .unset, .unset] [] _
        refine XS.goto X0.here hx rfl (pc0 := 289) (pc' := 335) rfl (hb hby at_289) (by decide) (by decide) ?_
        show own_S p e below s₁ m 335 #[iv p1, iv p2, iv p3, iv (7 : Int32), iv ng, .val (.double (9218868437227405311 : UInt64)), .second, .val (.float (2139095040 : UInt32)), iv (p3 &&& (3 : Int32)), .unset, .unset, .unset] [] _
        refine XS.dload X0.here hx rfl (hb hby at_335) rfl ?_
        show own_S p e below s₁ m 337 #[iv p1, iv p2, iv p3, iv (7 : Int32), iv ng, .val (.double (9218868437227405311 : UInt64)), .second, .val (.float (2139095040 : UInt32)), iv (p3 &&& (3 : Int32)), .unset, .unset, .unset] [(.double (9218868437227405311 : UInt64))] _
        refine st47 _ ?_
        show own_S p e below T47 m 340 #[iv p1, iv p2, iv p3, iv (7 : Int32), iv ng, .val (.double (9218868437227405311 : UInt64)), .second, .val (.float (2139095040 : UInt32)), iv (p3 &&& (3 : Int32)), .unset, .unset, .unset] [(.float (Jvm.FP.Core.OwnQ.nw (9218868437227405311 : UInt64)))] _
        refine XS.fload X47.here hx rfl (hb hby at_340) rfl ?_
        show own_S p e below T47 m 342 #[iv p1, iv p2, iv p3, iv (7 : Int32), iv ng, .val (.double (9218868437227405311 : UInt64)), .second, .val (.float (2139095040 : UInt32)), iv (p3 &&& (3 : Int32)), .unset, .unset, .unset] [(.float (2139095040 : UInt32)), (.float (Jvm.FP.Core.OwnQ.nw (9218868437227405311 : UInt64)))] _
        refine XS.fcmpS X47.here hx rfl (hb hby at_342) rfl (v := (0 : Int32)) hgood.2 ?_
        show own_S p e below T47 m 343 #[iv p1, iv p2, iv p3, iv (7 : Int32), iv ng, .val (.double (9218868437227405311 : UInt64)), .second, .val (.float (2139095040 : UInt32)), iv (p3 &&& (3 : Int32)), .unset, .unset, .unset] [(.int (0 : Int32))] _
        refine XS.ifNo X47.here hx rfl (hb hby at_343) rfl ((if0 _ _).trans (teq (by decide : (0 : Int32) = (0 : Int32))).2) ?_
        show own_S p e below T47 m 346 #[iv p1, iv p2, iv p3, iv (7 : Int32), iv ng, .val (.double (9218868437227405311 : UInt64)), .second, .val (.float (2139095040 : UInt32)), iv (p3 &&& (3 : Int32)), .unset, .unset, .unset] [] _
        refine XS.iconst X47.here hx rfl (hb hby at_346) ?_
        show own_S p e below T47 m 347 #[iv p1, iv p2, iv p3, iv (7 : Int32), iv ng, .val (.double (9218868437227405311 : UInt64)), .second, .val (.float (2139095040 : UInt32)), iv (p3 &&& (3 : Int32)), .unset, .unset, .unset] [(.int (1 : Int32))] _
        refine XS.goto X47.here hx rfl (pc0 := 347) (pc' := 351) rfl (hb hby at_347) (by decide) (by decide) ?_
        exact k)
      obtain ⟨fs, hr, hrun, hended, hW, hsame⟩ := X47.leave (v := some (.int (nar .boolean (1 : Int32)))) (fun h => by rw [Bd.returns] at h; cases h)
      refine ⟨_, _, pre48 _ ?_, hrun, hended, _, _, rfl, ?_, ⟨_, rfl⟩, hW, hsame.mono (by decide) (by decide)⟩
      · show own_S p e below T47 m 351 #[iv p1, iv p2, iv p3, iv (7 : Int32), iv ng, .val (.double (9218868437227405311 : UInt64)), .second, .val (.float (2139095040 : UInt32)), iv (p3 &&& (3 : Int32)), .unset, .unset, .unset] [(.int (1 : Int32))] _
        exact retN X47 hx (t := .boolean) Bd.returns (by simp) (hb hby at_351) hr
      · show Q0 Z p1 p2 p3 h0 n0 _ T47.heap _
        rw [e47]
        exact ⟨rfl, N47⟩
    ·  -- pc 277 no
      have pre50 : ∀ tg, own_S p e below s₁ m 295 #[iv p1, iv p2, iv p3, iv (7 : Int32), iv ng, .unset, .unset, .unset, iv (p3 &&& (3 : Int32)), .unset, .unset, .unset] [(.int (1 : Int32)), (.int (p3 &&& (3 : Int32)))] tg → Steps p.tables e below (s₁.setTop (entryFrame m #[(.int p1), (.int p2), (.int p3)] maxLocals)) tg := fun tg k => pre46 tg (by
        show own_S p e below s₁ m 277 #[iv p1, iv p2, iv p3, iv (7 : Int32), iv ng, .unset, .unset, .unset, iv (p3 &&& (3 : Int32)), .unset, .unset, .unset] [(.int (p3 &&& (3 : Int32)))] _
        refine XS.ifYes X0.here hx rfl (pc0 := 277) (pc' := 292) rfl (hb hby at_277) rfl ((if0 _ _).trans (feq hc277_45).2) (by decide) (by decide) ?_
        show own_S p e below s₁ m 292 #[iv p1, iv p2, iv p3, iv (7 : Int32), iv ng, .unset, .unset, .unset, iv (p3 &&& (3 : Int32)), .unset, .unset, .unset] [] _
        refine XS.iload X0.here hx rfl (hb hby at_292) rfl ?_
        show own_S p e below s₁ m 294 #[iv p1, iv p2, iv p3, iv (7 : Int32), iv ng, .unset, .unset, .unset, iv (p3 &&& (3 : Int32)), .unset, .unset, .unset] [(.int (p3 &&& (3 : Int32)))] _
        refine XS.iconst X0.here hx rfl (hb hby at_294) ?_
        exact k)
      by_cases hc295_49 : (p3 &&& (3 : Int32)) = (1 : Int32)
      ·  -- pc 295 yes
        have hgood : Jvm.FP.Core.OwnQ.Good0 (18442240474082181119 : UInt64) (4286578688 : UInt32) := (Jvm.FP.Core.OwnQ.const (by decide +kernel) (by decide +kernel))
        obtain ⟨_, _, ⟨T51, L51, k51, n51⟩, -, X51, ⟨Lc51, hQ51, l51, y51, z51⟩, st51⟩ := Jvm.LawKit.callS X0 hx (y := (⟨"com/example/converge/converge/compiler/FloatText", "narrow", "(D)F"⟩ : MethodName)) hown (mvT hZ (hw _ (List.mem_of_getElem? (i := 0) rfl))) (mvT hZ (hw _ (List.mem_of_getElem? (i := 1) rfl))) (mvT hZ (hw _ (List.mem_of_getElem? (i := 2) rfl))) (mvT hZ (hw _ (List.mem_of_getElem? (i := 3) rfl))) (by decide) (backOf (W := 0) (rm1 l Z a0 hw [] (18442240474082181119 : UInt64) h0 n0 Z0 hgood.1) hZ (hw _ (List.mem_of_getElem? (i := 3) rfl)) (hw _ (List.mem_of_getElem? (i := 2) rfl)) (by decide) (by decide)) (g := (mkF m 337 #[iv p1, iv p2, iv p3, iv (7 : Int32), iv ng, .val (.double (18442240474082181119 : UInt64)), .second, .val (.float (4286578688 : UInt32)), iv (p3 &&& (3 : Int32)), .unset, .unset, .unset] [(.double (18442240474082181119 : UInt64))])) rfl (by rw [hml]; rfl) (argsL := [(.double (18442240474082181119 : UInt64))]) (rest := []) (lenOf pd_0 rfl) rfl (by show 2 * 0 + _ ≤ _; exact Nat.le_of_eq rfl) (hb hby at_337) (fun _ _ => ⟨rfl, e0, (by decide : 0 + 0 ≤ _), (by decide : 0 + 0 ≤ _)⟩)
        dsimp only [Pt.U, Pt.locs, Pt.cells, Pt.slots] at X51 l51 y51 z51 st51 hQ51
        subst l51 y51 z51
        obtain ⟨rfl, N51q, e51q⟩ := hQ51
        have N51 := Fr.app N0 N51q
        have e51 : T51.heap = h0 := e51q
        have pre52 : ∀ tg, own_S p e below T51 m 351 #[iv p1, iv p2, iv p3, iv (7 : Int32), iv ng, .val (.double (18442240474082181119 : UInt64)), .second, .val (.float (4286578688 : UInt32)), iv (p3 &&& (3 : Int32)), .unset, .unset, .unset] [(.int (1 : Int32))] tg → Steps p.tables e below (s₁.setTop (entryFrame m #[(.int p1), (.int p2), (.int p3)] maxLocals)) tg := fun tg k => pre50 tg (by
          show own_S p e below s₁ m 295 #[iv p1, iv p2, iv p3, iv (7 : Int32), iv ng, .unset, .unset, .unset, iv (p3 &&& (3 : Int32)), .unset, .unset, .unset] [(.int (1 : Int32)), (.int (p3 &&& (3 : Int32)))] _
          refine XS.icmpNo X0.here hx rfl (hb hby at_295) rfl (teq hc295_49).2 ?_
          show own_S p e below s₁ m 298 #[iv p1, iv p2, iv p3, iv (7 : Int32), iv ng, .unset, .unset, .unset, iv (p3 &&& (3 : Int32)), .unset, .unset, .unset] [] _
          refine X0.ldc2DoubleC hx hown (mvT hZ (hw _ (List.mem_of_getElem? (i := 10) rfl))) (g := (mkF m 298 #[iv p1, iv p2, iv p3, iv (7 : Int32), iv ng, .unset, .unset, .unset, iv (p3 &&& (3 : Int32)), .unset, .unset, .unset] [])) rfl (hb hby at_298) _ ?_
          show own_S p e below s₁ m 301 #[iv p1, iv p2, iv p3, iv (7 : Int32), iv ng, .unset, .unset, .unset, iv (p3 &&& (3 : Int32)), .unset, .unset, .unset] [(.double (18442240474082181119 : UInt64))] _
          refine XS.dstore X0.here hx rfl (hb hby at_301) rfl (l' := #[iv p1, iv p2, iv p3, iv (7 : Int32), iv ng, .val (.double (18442240474082181119 : UInt64)), .second, .unset, iv (p3 &&& (3 : Int32)), .unset, .unset, .unset]) rfl ?_
          show own_S p e below s₁ m 303 #[iv p1, iv p2, iv p3, iv (7 : Int32), iv ng, .val (.double (18442240474082181119 : UInt64)), .second, .unset, iv (p3 &&& (3 : Int32)), .unset, .unset, .unset] [] _
          refine X0.ldcFloatC hx hown (mvT hZ (hw _ (List.mem_of_getElem? (i := 11) rfl))) (g := (mkF m 303 #[iv p1, iv p2, iv p3, iv (7 : Int32), iv ng, .val (.double (18442240474082181119 : UInt64)), .second, .unset, iv (p3 &&& (3 : Int32)), .unset, .unset, .unset] [])) rfl (hb hby at_303) _ ?_
          show own_S p e below s₁ m 305 #[iv p1, iv p2, iv p3, iv (7 : Int32), iv ng, .val (.double (18442240474082181119 : UInt64)), .second, .unset, iv (p3 &&& (3 : Int32)), .unset, .unset, .unset] [(.float (4286578688 : UInt32))] _
          refine XS.fstore X0.here hx rfl (hb hby at_305) rfl (l' := #[iv p1, iv p2, iv p3, iv (7 : Int32), iv ng, .val (.double (18442240474082181119 : UInt64)), .second, .val (.float (4286578688 : UInt32)), iv (p3 &&& (3 : Int32)), .unset, .unset, .unset]) rfl ?_
          show own_S p e below s₁ m 307 #[iv p1, iv p2, iv p3, iv (7 : Int32), iv ng, .val (.double (18442240474082181119 : UInt64)), .second, .val (.float (4286578688 : UInt32)), iv (p3 &&& (3 : Int32)), .unset, .unset, .unset] [] _
          refine XS.goto X0.here hx rfl (pc0 := 307) (pc' := 335) rfl (hb hby at_307) (by decide) (by decide) ?_
          show own_S p e below s₁ m 335 #[iv p1, iv p2, iv p3, iv (7 : Int32), iv ng, .val (.double (18442240474082181119 : UInt64)), .second, .val (.float (4286578688 : UInt32)), iv (p3 &&& (3 : Int32)), .unset, .unset, .unset] [] _
          refine XS.dload X0.here hx rfl (hb hby at_335) rfl ?_
          show own_S p e below s₁ m 337 #[iv p1, iv p2, iv p3, iv (7 : Int32), iv ng, .val (.double (18442240474082181119 : UInt64)), .second, .val (.float (4286578688 : UInt32)), iv (p3 &&& (3 : Int32)), .unset, .unset, .unset] [(.double (18442240474082181119 : UInt64))] _
          refine st51 _ ?_
          show own_S p e below T51 m 340 #[iv p1, iv p2, iv p3, iv (7 : Int32), iv ng, .val (.double (18442240474082181119 : UInt64)), .second, .val (.float (4286578688 : UInt32)), iv (p3 &&& (3 : Int32)), .unset, .unset, .unset] [(.float (Jvm.FP.Core.OwnQ.nw (18442240474082181119 : UInt64)))] _
          refine XS.fload X51.here hx rfl (hb hby at_340) rfl ?_
          show own_S p e below T51 m 342 #[iv p1, iv p2, iv p3, iv (7 : Int32), iv ng, .val (.double (18442240474082181119 : UInt64)), .second, .val (.float (4286578688 : UInt32)), iv (p3 &&& (3 : Int32)), .unset, .unset, .unset] [(.float (4286578688 : UInt32)), (.float (Jvm.FP.Core.OwnQ.nw (18442240474082181119 : UInt64)))] _
          refine XS.fcmpS X51.here hx rfl (hb hby at_342) rfl (v := (0 : Int32)) hgood.2 ?_
          show own_S p e below T51 m 343 #[iv p1, iv p2, iv p3, iv (7 : Int32), iv ng, .val (.double (18442240474082181119 : UInt64)), .second, .val (.float (4286578688 : UInt32)), iv (p3 &&& (3 : Int32)), .unset, .unset, .unset] [(.int (0 : Int32))] _
          refine XS.ifNo X51.here hx rfl (hb hby at_343) rfl ((if0 _ _).trans (teq (by decide : (0 : Int32) = (0 : Int32))).2) ?_
          show own_S p e below T51 m 346 #[iv p1, iv p2, iv p3, iv (7 : Int32), iv ng, .val (.double (18442240474082181119 : UInt64)), .second, .val (.float (4286578688 : UInt32)), iv (p3 &&& (3 : Int32)), .unset, .unset, .unset] [] _
          refine XS.iconst X51.here hx rfl (hb hby at_346) ?_
          show own_S p e below T51 m 347 #[iv p1, iv p2, iv p3, iv (7 : Int32), iv ng, .val (.double (18442240474082181119 : UInt64)), .second, .val (.float (4286578688 : UInt32)), iv (p3 &&& (3 : Int32)), .unset, .unset, .unset] [(.int (1 : Int32))] _
          refine XS.goto X51.here hx rfl (pc0 := 347) (pc' := 351) rfl (hb hby at_347) (by decide) (by decide) ?_
          exact k)
        obtain ⟨fs, hr, hrun, hended, hW, hsame⟩ := X51.leave (v := some (.int (nar .boolean (1 : Int32)))) (fun h => by rw [Bd.returns] at h; cases h)
        refine ⟨_, _, pre52 _ ?_, hrun, hended, _, _, rfl, ?_, ⟨_, rfl⟩, hW, hsame.mono (by decide) (by decide)⟩
        · show own_S p e below T51 m 351 #[iv p1, iv p2, iv p3, iv (7 : Int32), iv ng, .val (.double (18442240474082181119 : UInt64)), .second, .val (.float (4286578688 : UInt32)), iv (p3 &&& (3 : Int32)), .unset, .unset, .unset] [(.int (1 : Int32))] _
          exact retN X51 hx (t := .boolean) Bd.returns (by simp) (hb hby at_351) hr
        · show Q0 Z p1 p2 p3 h0 n0 _ T51.heap _
          rw [e51]
          exact ⟨rfl, N51⟩
      ·  -- pc 295 no
        have pre54 : ∀ tg, own_S p e below s₁ m 313 #[iv p1, iv p2, iv p3, iv (7 : Int32), iv ng, .unset, .unset, .unset, iv (p3 &&& (3 : Int32)), .unset, .unset, .unset] [(.int (2 : Int32)), (.int (p3 &&& (3 : Int32)))] tg → Steps p.tables e below (s₁.setTop (entryFrame m #[(.int p1), (.int p2), (.int p3)] maxLocals)) tg := fun tg k => pre50 tg (by
          show own_S p e below s₁ m 295 #[iv p1, iv p2, iv p3, iv (7 : Int32), iv ng, .unset, .unset, .unset, iv (p3 &&& (3 : Int32)), .unset, .unset, .unset] [(.int (1 : Int32)), (.int (p3 &&& (3 : Int32)))] _
          refine XS.icmpYes X0.here hx rfl (pc0 := 295) (pc' := 310) rfl (hb hby at_295) rfl (feq hc295_49).2 (by decide) (by decide) ?_
          show own_S p e below s₁ m 310 #[iv p1, iv p2, iv p3, iv (7 : Int32), iv ng, .unset, .unset, .unset, iv (p3 &&& (3 : Int32)), .unset, .unset, .unset] [] _
          refine XS.iload X0.here hx rfl (hb hby at_310) rfl ?_
          show own_S p e below s₁ m 312 #[iv p1, iv p2, iv p3, iv (7 : Int32), iv ng, .unset, .unset, .unset, iv (p3 &&& (3 : Int32)), .unset, .unset, .unset] [(.int (p3 &&& (3 : Int32)))] _
          refine XS.iconst X0.here hx rfl (hb hby at_312) ?_
          exact k)
        by_cases hc313_53 : (p3 &&& (3 : Int32)) = (2 : Int32)
        ·  -- pc 313 yes
          have hgood : Jvm.FP.Core.OwnQ.Good0 (1 : UInt64) (0 : UInt32) := (Jvm.FP.Core.OwnQ.const (by decide +kernel) (by decide +kernel))
          obtain ⟨_, _, ⟨T55, L55, k55, n55⟩, -, X55, ⟨Lc55, hQ55, l55, y55, z55⟩, st55⟩ := Jvm.LawKit.callS X0 hx (y := (⟨"com/example/converge/converge/compiler/FloatText", "narrow", "(D)F"⟩ : MethodName)) hown (mvT hZ (hw _ (List.mem_of_getElem? (i := 0) rfl))) (mvT hZ (hw _ (List.mem_of_getElem? (i := 1) rfl))) (mvT hZ (hw _ (List.mem_of_getElem? (i := 2) rfl))) (mvT hZ (hw _ (List.mem_of_getElem? (i := 3) rfl))) (by decide) (backOf (W := 0) (rm1 l Z a0 hw [] (1 : UInt64) h0 n0 Z0 hgood.1) hZ (hw _ (List.mem_of_getElem? (i := 3) rfl)) (hw _ (List.mem_of_getElem? (i := 2) rfl)) (by decide) (by decide)) (g := (mkF m 337 #[iv p1, iv p2, iv p3, iv (7 : Int32), iv ng, .val (.double (1 : UInt64)), .second, .val (.float (0 : UInt32)), iv (p3 &&& (3 : Int32)), .unset, .unset, .unset] [(.double (1 : UInt64))])) rfl (by rw [hml]; rfl) (argsL := [(.double (1 : UInt64))]) (rest := []) (lenOf pd_0 rfl) rfl (by show 2 * 0 + _ ≤ _; exact Nat.le_of_eq rfl) (hb hby at_337) (fun _ _ => ⟨rfl, e0, (by decide : 0 + 0 ≤ _), (by decide : 0 + 0 ≤ _)⟩)
          dsimp only [Pt.U, Pt.locs, Pt.cells, Pt.slots] at X55 l55 y55 z55 st55 hQ55
          subst l55 y55 z55
          obtain ⟨rfl, N55q, e55q⟩ := hQ55
          have N55 := Fr.app N0 N55q
          have e55 : T55.heap = h0 := e55q
          have pre56 : ∀ tg, own_S p e below T55 m 351 #[iv p1, iv p2, iv p3, iv (7 : Int32), iv ng, .val (.double (1 : UInt64)), .second, .val (.float (0 : UInt32)), iv (p3 &&& (3 : Int32)), .unset, .unset, .unset] [(.int (1 : Int32))] tg → Steps p.tables e below (s₁.setTop (entryFrame m #[(.int p1), (.int p2), (.int p3)] maxLocals)) tg := fun tg k => pre54 tg (by
            show own_S p e below s₁ m 313 #[iv p1, iv p2, iv p3, iv (7 : Int32), iv ng, .unset, .unset, .unset, iv (p3 &&& (3 : Int32)), .unset, .unset, .unset] [(.int (2 : Int32)), (.int (p3 &&& (3 : Int32)))] _
            refine XS.icmpNo X0.here hx rfl (hb hby at_313) rfl (teq hc313_53).2 ?_
            show own_S p e below s₁ m 316 #[iv p1, iv p2, iv p3, iv (7 : Int32), iv ng, .unset, .unset, .unset, iv (p3 &&& (3 : Int32)), .unset, .unset, .unset] [] _
            refine X0.ldc2DoubleC hx hown (mvT hZ (hw _ (List.mem_of_getElem? (i := 25) rfl))) (g := (mkF m 316 #[iv p1, iv p2, iv p3, iv (7 : Int32), iv ng, .unset, .unset, .unset, iv (p3 &&& (3 : Int32)), .unset, .unset, .unset] [])) rfl (hb hby at_316) _ ?_
            show own_S p e below s₁ m 319 #[iv p1, iv p2, iv p3, iv (7 : Int32), iv ng, .unset, .unset, .unset, iv (p3 &&& (3 : Int32)), .unset, .unset, .unset] [(.double (1 : UInt64))] _
            refine XS.dstore X0.here hx rfl (hb hby at_319) rfl (l' := #[iv p1, iv p2, iv p3, iv (7 : Int32), iv ng, .val (.double (1 : UInt64)), .second, .unset, iv (p3 &&& (3 : Int32)), .unset, .unset, .unset]) rfl ?_
            show own_S p e below s₁ m 321 #[iv p1, iv p2, iv p3, iv (7 : Int32), iv ng, .val (.double (1 : UInt64)), .second, .unset, iv (p3 &&& (3 : Int32)), .unset, .unset, .unset] [] _
            refine XS.fconst0 X0.here hx rfl (hb hby at_321) (v := (0 : UInt32)) rfl ?_
            show own_S p e below s₁ m 322 #[iv p1, iv p2, iv p3, iv (7 : Int32), iv ng, .val (.double (1 : UInt64)), .second, .unset, iv (p3 &&& (3 : Int32)), .unset, .unset, .unset] [(.float (0 : UInt32))] _
            refine XS.fstore X0.here hx rfl (hb hby at_322) rfl (l' := #[iv p1, iv p2, iv p3, iv (7 : Int32), iv ng, .val (.double (1 : UInt64)), .second, .val (.float (0 : UInt32)), iv (p3 &&& (3 : Int32)), .unset, .unset, .unset]) rfl ?_
            show own_S p e below s₁ m 324 #[iv p1, iv p2, iv p3, iv (7 : Int32), iv ng, .val (.double (1 : UInt64)), .second, .val (.float (0 : UInt32)), iv (p3 &&& (3 : Int32)), .unset, .unset, .unset] [] _
            refine XS.goto X0.here hx rfl (pc0 := 324) (pc' := 335) rfl (hb hby at_324) (by decide) (by decide) ?_
            show own_S p e below s₁ m 335 #[iv p1, iv p2, iv p3, iv (7 : Int32), iv ng, .val (.double (1 : UInt64)), .second, .val (.float (0 : UInt32)), iv (p3 &&& (3 : Int32)), .unset, .unset, .unset] [] _
            refine XS.dload X0.here hx rfl (hb hby at_335) rfl ?_
            show own_S p e below s₁ m 337 #[iv p1, iv p2, iv p3, iv (7 : Int32), iv ng, .val (.double (1 : UInt64)), .second, .val (.float (0 : UInt32)), iv (p3 &&& (3 : Int32)), .unset, .unset, .unset] [(.double (1 : UInt64))] _
            refine st55 _ ?_
            show own_S p e below T55 m 340 #[iv p1, iv p2, iv p3, iv (7 : Int32), iv ng, .val (.double (1 : UInt64)), .second, .val (.float (0 : UInt32)), iv (p3 &&& (3 : Int32)), .unset, .unset, .unset] [(.float (Jvm.FP.Core.OwnQ.nw (1 : UInt64)))] _
            refine XS.fload X55.here hx rfl (hb hby at_340) rfl ?_
            show own_S p e below T55 m 342 #[iv p1, iv p2, iv p3, iv (7 : Int32), iv ng, .val (.double (1 : UInt64)), .second, .val (.float (0 : UInt32)), iv (p3 &&& (3 : Int32)), .unset, .unset, .unset] [(.float (0 : UInt32)), (.float (Jvm.FP.Core.OwnQ.nw (1 : UInt64)))] _
            refine XS.fcmpS X55.here hx rfl (hb hby at_342) rfl (v := (0 : Int32)) hgood.2 ?_
            show own_S p e below T55 m 343 #[iv p1, iv p2, iv p3, iv (7 : Int32), iv ng, .val (.double (1 : UInt64)), .second, .val (.float (0 : UInt32)), iv (p3 &&& (3 : Int32)), .unset, .unset, .unset] [(.int (0 : Int32))] _
            refine XS.ifNo X55.here hx rfl (hb hby at_343) rfl ((if0 _ _).trans (teq (by decide : (0 : Int32) = (0 : Int32))).2) ?_
            show own_S p e below T55 m 346 #[iv p1, iv p2, iv p3, iv (7 : Int32), iv ng, .val (.double (1 : UInt64)), .second, .val (.float (0 : UInt32)), iv (p3 &&& (3 : Int32)), .unset, .unset, .unset] [] _
            refine XS.iconst X55.here hx rfl (hb hby at_346) ?_
            show own_S p e below T55 m 347 #[iv p1, iv p2, iv p3, iv (7 : Int32), iv ng, .val (.double (1 : UInt64)), .second, .val (.float (0 : UInt32)), iv (p3 &&& (3 : Int32)), .unset, .unset, .unset] [(.int (1 : Int32))] _
            refine XS.goto X55.here hx rfl (pc0 := 347) (pc' := 351) rfl (hb hby at_347) (by decide) (by decide) ?_
            exact k)
          obtain ⟨fs, hr, hrun, hended, hW, hsame⟩ := X55.leave (v := some (.int (nar .boolean (1 : Int32)))) (fun h => by rw [Bd.returns] at h; cases h)
          refine ⟨_, _, pre56 _ ?_, hrun, hended, _, _, rfl, ?_, ⟨_, rfl⟩, hW, hsame.mono (by decide) (by decide)⟩
          · show own_S p e below T55 m 351 #[iv p1, iv p2, iv p3, iv (7 : Int32), iv ng, .val (.double (1 : UInt64)), .second, .val (.float (0 : UInt32)), iv (p3 &&& (3 : Int32)), .unset, .unset, .unset] [(.int (1 : Int32))] _
            exact retN X55 hx (t := .boolean) Bd.returns (by simp) (hb hby at_351) hr
          · show Q0 Z p1 p2 p3 h0 n0 _ T55.heap _
            rw [e55]
            exact ⟨rfl, N55⟩
        ·  -- pc 313 no
          have hgood : Jvm.FP.Core.OwnQ.Good0 (9223372036854775809 : UInt64) (0 : UInt32) := (Jvm.FP.Core.OwnQ.const (by decide +kernel) (by decide +kernel))
          obtain ⟨_, _, ⟨T57, L57, k57, n57⟩, -, X57, ⟨Lc57, hQ57, l57, y57, z57⟩, st57⟩ := Jvm.LawKit.callS X0 hx (y := (⟨"com/example/converge/converge/compiler/FloatText", "narrow", "(D)F"⟩ : MethodName)) hown (mvT hZ (hw _ (List.mem_of_getElem? (i := 0) rfl))) (mvT hZ (hw _ (List.mem_of_getElem? (i := 1) rfl))) (mvT hZ (hw _ (List.mem_of_getElem? (i := 2) rfl))) (mvT hZ (hw _ (List.mem_of_getElem? (i := 3) rfl))) (by decide) (backOf (W := 0) (rm1 l Z a0 hw [] (9223372036854775809 : UInt64) h0 n0 Z0 hgood.1) hZ (hw _ (List.mem_of_getElem? (i := 3) rfl)) (hw _ (List.mem_of_getElem? (i := 2) rfl)) (by decide) (by decide)) (g := (mkF m 337 #[iv p1, iv p2, iv p3, iv (7 : Int32), iv ng, .val (.double (9223372036854775809 : UInt64)), .second, .val (.float (0 : UInt32)), iv (p3 &&& (3 : Int32)), .unset, .unset, .unset] [(.double (9223372036854775809 : UInt64))])) rfl (by rw [hml]; rfl) (argsL := [(.double (9223372036854775809 : UInt64))]) (rest := []) (lenOf pd_0 rfl) rfl (by show 2 * 0 + _ ≤ _; exact Nat.le_of_eq rfl) (hb hby at_337) (fun _ _ => ⟨rfl, e0, (by decide : 0 + 0 ≤ _), (by decide : 0 + 0 ≤ _)⟩)
          dsimp only [Pt.U, Pt.locs, Pt.cells, Pt.slots] at X57 l57 y57 z57 st57 hQ57
          subst l57 y57 z57
          obtain ⟨rfl, N57q, e57q⟩ := hQ57
          have N57 := Fr.app N0 N57q
          have e57 : T57.heap = h0 := e57q
          have pre58 : ∀ tg, own_S p e below T57 m 351 #[iv p1, iv p2, iv p3, iv (7 : Int32), iv ng, .val (.double (9223372036854775809 : UInt64)), .second, .val (.float (0 : UInt32)), iv (p3 &&& (3 : Int32)), .unset, .unset, .unset] [(.int (1 : Int32))] tg → Steps p.tables e below (s₁.setTop (entryFrame m #[(.int p1), (.int p2), (.int p3)] maxLocals)) tg := fun tg k => pre54 tg (by
            show own_S p e below s₁ m 313 #[iv p1, iv p2, iv p3, iv (7 : Int32), iv ng, .unset, .unset, .unset, iv (p3 &&& (3 : Int32)), .unset, .unset, .unset] [(.int (2 : Int32)), (.int (p3 &&& (3 : Int32)))] _
            refine XS.icmpYes X0.here hx rfl (pc0 := 313) (pc' := 327) rfl (hb hby at_313) rfl (feq hc313_53).2 (by decide) (by decide) ?_
            show own_S p e below s₁ m 327 #[iv p1, iv p2, iv p3, iv (7 : Int32), iv ng, .unset, .unset, .unset, iv (p3 &&& (3 : Int32)), .unset, .unset, .unset] [] _
            refine X0.ldc2DoubleC hx hown (mvT hZ (hw _ (List.mem_of_getElem? (i := 20) rfl))) (g := (mkF m 327 #[iv p1, iv p2, iv p3, iv (7 : Int32), iv ng, .unset, .unset, .unset, iv (p3 &&& (3 : Int32)), .unset, .unset, .unset] [])) rfl (hb hby at_327) _ ?_
            show own_S p e below s₁ m 330 #[iv p1, iv p2, iv p3, iv (7 : Int32), iv ng, .unset, .unset, .unset, iv (p3 &&& (3 : Int32)), .unset, .unset, .unset] [(.double (9223372036854775809 : UInt64))] _
            refine XS.dstore X0.here hx rfl (hb hby at_330) rfl (l' := #[iv p1, iv p2, iv p3, iv (7 : Int32), iv ng, .val (.double (9223372036854775809 : UInt64)), .second, .unset, iv (p3 &&& (3 : Int32)), .unset, .unset, .unset]) rfl ?_
            show own_S p e below s₁ m 332 #[iv p1, iv p2, iv p3, iv (7 : Int32), iv ng, .val (.double (9223372036854775809 : UInt64)), .second, .unset, iv (p3 &&& (3 : Int32)), .unset, .unset, .unset] [] _
            refine XS.fconst0 X0.here hx rfl (hb hby at_332) (v := (0 : UInt32)) rfl ?_
            show own_S p e below s₁ m 333 #[iv p1, iv p2, iv p3, iv (7 : Int32), iv ng, .val (.double (9223372036854775809 : UInt64)), .second, .unset, iv (p3 &&& (3 : Int32)), .unset, .unset, .unset] [(.float (0 : UInt32))] _
            refine XS.fstore X0.here hx rfl (hb hby at_333) rfl (l' := #[iv p1, iv p2, iv p3, iv (7 : Int32), iv ng, .val (.double (9223372036854775809 : UInt64)), .second, .val (.float (0 : UInt32)), iv (p3 &&& (3 : Int32)), .unset, .unset, .unset]) rfl ?_
            show own_S p e below s₁ m 335 #[iv p1, iv p2, iv p3, iv (7 : Int32), iv ng, .val (.double (9223372036854775809 : UInt64)), .second, .val (.float (0 : UInt32)), iv (p3 &&& (3 : Int32)), .unset, .unset, .unset] [] _
            refine XS.dload X0.here hx rfl (hb hby at_335) rfl ?_
            show own_S p e below s₁ m 337 #[iv p1, iv p2, iv p3, iv (7 : Int32), iv ng, .val (.double (9223372036854775809 : UInt64)), .second, .val (.float (0 : UInt32)), iv (p3 &&& (3 : Int32)), .unset, .unset, .unset] [(.double (9223372036854775809 : UInt64))] _
            refine st57 _ ?_
            show own_S p e below T57 m 340 #[iv p1, iv p2, iv p3, iv (7 : Int32), iv ng, .val (.double (9223372036854775809 : UInt64)), .second, .val (.float (0 : UInt32)), iv (p3 &&& (3 : Int32)), .unset, .unset, .unset] [(.float (Jvm.FP.Core.OwnQ.nw (9223372036854775809 : UInt64)))] _
            refine XS.fload X57.here hx rfl (hb hby at_340) rfl ?_
            show own_S p e below T57 m 342 #[iv p1, iv p2, iv p3, iv (7 : Int32), iv ng, .val (.double (9223372036854775809 : UInt64)), .second, .val (.float (0 : UInt32)), iv (p3 &&& (3 : Int32)), .unset, .unset, .unset] [(.float (0 : UInt32)), (.float (Jvm.FP.Core.OwnQ.nw (9223372036854775809 : UInt64)))] _
            refine XS.fcmpS X57.here hx rfl (hb hby at_342) rfl (v := (0 : Int32)) hgood.2 ?_
            show own_S p e below T57 m 343 #[iv p1, iv p2, iv p3, iv (7 : Int32), iv ng, .val (.double (9223372036854775809 : UInt64)), .second, .val (.float (0 : UInt32)), iv (p3 &&& (3 : Int32)), .unset, .unset, .unset] [(.int (0 : Int32))] _
            refine XS.ifNo X57.here hx rfl (hb hby at_343) rfl ((if0 _ _).trans (teq (by decide : (0 : Int32) = (0 : Int32))).2) ?_
            show own_S p e below T57 m 346 #[iv p1, iv p2, iv p3, iv (7 : Int32), iv ng, .val (.double (9223372036854775809 : UInt64)), .second, .val (.float (0 : UInt32)), iv (p3 &&& (3 : Int32)), .unset, .unset, .unset] [] _
            refine XS.iconst X57.here hx rfl (hb hby at_346) ?_
            show own_S p e below T57 m 347 #[iv p1, iv p2, iv p3, iv (7 : Int32), iv ng, .val (.double (9223372036854775809 : UInt64)), .second, .val (.float (0 : UInt32)), iv (p3 &&& (3 : Int32)), .unset, .unset, .unset] [(.int (1 : Int32))] _
            refine XS.goto X57.here hx rfl (pc0 := 347) (pc' := 351) rfl (hb hby at_347) (by decide) (by decide) ?_
            exact k)
          obtain ⟨fs, hr, hrun, hended, hW, hsame⟩ := X57.leave (v := some (.int (nar .boolean (1 : Int32)))) (fun h => by rw [Bd.returns] at h; cases h)
          refine ⟨_, _, pre58 _ ?_, hrun, hended, _, _, rfl, ?_, ⟨_, rfl⟩, hW, hsame.mono (by decide) (by decide)⟩
          · show own_S p e below T57 m 351 #[iv p1, iv p2, iv p3, iv (7 : Int32), iv ng, .val (.double (9223372036854775809 : UInt64)), .second, .val (.float (0 : UInt32)), iv (p3 &&& (3 : Int32)), .unset, .unset, .unset] [(.int (1 : Int32))] _
            exact retN X57 hx (t := .boolean) Bd.returns (by simp) (hb hby at_351) hr
          · show Q0 Z p1 p2 p3 h0 n0 _ T57.heap _
            rw [e57]
            exact ⟨rfl, N57⟩
set_option maxRecDepth 65536 in
set_option maxHeartbeats 40000000 in
theorem comes_1 {Post : Tables → Env → Array Value → State → Outcome → State → Prop} (hpost : ∀ tb e args s v u, (limb_1_1.after args s (.returned v) u = true ∧ limb_1_2.after args s (.returned v) u = true ∧ True) → FrameEnd s (.returned v) u (Jvm.fieldLocs frame_1_writes args s ++ Jvm.arrayLocs frame_1_arrays args s ++ Jvm.staticLocs frame_1_statics s) 0 0 → Post tb e args s (.returned v) u) :
    ArmFor flags0 classFile x code maxLocals ret World_1 tables_1 room_1 Calls_1 rest_1 Pre_1 Post := by
  intro l hfl _ _ p e ha hc hk s m args below hf hA hF happ hP
  obtain ⟨hcalls, hrest, hpre⟩ := hP
  obtain ⟨-, -, -, hnamed, -, -, -, hat⟩ := (Spec.applies_iff hf).mp happ
  obtain ⟨hg, hn⟩ := and_e (Cond.before_iff.mp (show (Jvm.Cond.and given_1 narrow_1).before args s = true from hpre))
  obtain ⟨g1, g2⟩ := and_e hg
  obtain ⟨g3, g4⟩ := and_e g2
  obtain ⟨g5, g6⟩ := and_e g4
  obtain ⟨w0, w1, w2, rfl⟩ : ∃ w0 w1 w2 : Value, args = #[w0, w1, w2] := by
    have hs : args.size = 3 := by simpa [Cond.value, given_1] using g1
    obtain ⟨L⟩ := args
    match L, hs with
    | [w0, w1, w2], _ => exact ⟨w0, w1, w2, rfl⟩
  have hw := fun d (hd : d ∈ tables_1) => atoms_spec (ws := Jvm.Cond.code x code maxLocals ret :: tables_1) hat d (List.mem_cons_of_mem _ hd)
  have hfit : Fit s := fun {y c} hc i hi => by
    obtain ⟨ha, rfl⟩ := Array.getElem?_eq_some_iff.mp hc
    have q := List.all_eq_true.mp ((Array.all_eq_true_iff_forall_mem.mp hF) _ (Array.getElem_mem ha)) i (List.mem_range.mpr hi)
    simpa [Array.getElem?_eq_getElem hi] using q
  obtain ⟨i0, ei0⟩ := is_v g3
  obtain rfl : w0 = (.int i0) := Option.some.inj ei0
  obtain ⟨i1, ei1⟩ := is_v g5
  obtain rfl : w1 = (.int i1) := Option.some.inj ei1
  obtain ⟨i2, ei2⟩ := is_v g6
  obtain rfl : w2 = (.int i2) := Option.some.inj ei2
  obtain ⟨n, o, h1, h2, h3, _, L, rfl, ⟨rfl, N⟩, hq⟩ := rm0 l s _ hw tables_1 i0 i1 i2 s.heap s.heap.size (Nat.le_refl _)  p e ha hc hk s m _ below hf ((Spec.applies_iff_loose hf).mp happ).1 ⟨rfl, State.Warmed39.refl s, rfl⟩ trivial
  refine ⟨n, _, h1, h2, h3, hpost _ _ _ _ _ _ ⟨Cond.after_iff.mpr rfl, Cond.after_iff.mpr (eq_i res_at (Term.int_eval (1)) rfl), trivial⟩ ⟨hq.1, hq.2.1, (hq.2.2.sift fun y hy => Or.inr (N y hy)).mono (by decide) (by decide)⟩⟩
theorem main_1_1 : Claimed_1_1 := comes_1 fun _ _ _ _ _ _ h hF => ⟨h.1, hF⟩
theorem main_1_2 : Claimed_1_2 := comes_1 fun _ _ _ _ _ _ h hF => ⟨h.2.1, hF⟩
end Jvm.Pilot.@@N@@
namespace Jvm.Pilot.@@N@@
open Jvm Jvm.ClassFile Sem Op Lib Jvm.Free Jvm.Stand Jvm.Pilot.@@N@@.Jvm.D
/-! MADE BY PROGRAM (witnessworld.py) out of the Statement's table words and the real class files: 9 classes; the members and pool entries that the words name. The judged class is class 1, her method 1. -/
namespace start1
open Jvm.ClassFile
def u (s : String) : CpInfo := .utf8 (stringToUtf16 s)
/-- a pool by its gaps: so many unusable entries, then the entry; so many at the end -/
def gap : Nat → List CpInfo → List CpInfo
  | 0, r => r
  | n + 1, r => .unusable :: gap n r
def poolList (es : List (Nat × CpInfo)) (last : Nat) : List CpInfo := es.foldr (fun e r => gap e.1 (e.2 :: r)) (gap last [])
def pool (es : List (Nat × CpInfo)) (last : Nat) : Array CpInfo := ⟨poolList es last⟩
def fileOf (pool : Array CpInfo) (this : Nat) (attrs : Array Attribute := #[]) (ms : Array MethodInfo := #[]) (fl : Nat := 33) (sup : Nat := 0) (ifs : Array Nat := #[]) (fds : Array FieldInfo := #[]) : ClassFile where
  minorVersion := 0
  majorVersion := 65
  constantPool := pool
  accessFlags := fl
  thisClass := this
  superClass := sup
  interfaces := ifs
  fields := fds
  methods := ms
  attributes := attrs
def plain (name : String) (sup : Option ClassId) : Class where
  name := name
  kind := .ordinary
  loader := none
  accessFlags := 33
  super := sup
  interfaces := #[]
  cf := none
  fields := #[]
  methods := #[]
  instanceTypes := #[]
  staticTypes := #[]
  resolved := #[]
  callSites := []
  init := .initialized
  statics := none
  mirror := none

def pool0 : Array CpInfo := pool [(5, u "<init>"), (0, u "()V"), (1, .class_ 10), (1, u "java/lang/Object")] 113

def k0m0 : Method := { name := "<init>", desc := "()V", sig := { parameters := [], returnType := none }, accessFlags := 1, code := none }
/-- java/lang/Object -/
def k0 : Class := { plain "java/lang/Object" none with
  accessFlags := 33
  interfaces := #[]
  cf := some (fileOf pool0 8 #[] #[{ accessFlags := 1, nameIndex := 5, descriptorIndex := 6, attributes := #[] }] 33 0 #[] #[])
  fields := #[]
  methods := #[k0m0]
  instanceTypes := #[]
  staticTypes := #[]
  resolved := Array.replicate 124 none
  statics := none }

def pool1 : Array CpInfo := pool [(2, .class_ 4), (1, u "java/lang/Object"), (0, u "<init>"), (0, u "()V"), (0, .double 5039527983027585024), (1, .float 1870659584), (0, .double 4156822456062967808), (1, .float 226492416), (0, .double 3936146074321813504), (1, .float 1), (0, .double 5147614374084476928), (3, .float 2139095040), (0, .float 4286578688), (0, .float 2071986176), (0, .double 5183643170566569984), (1, .double 4944952390852804608), (1, .float 2139095039), (2, .double 18442240474082181120), (1, .double 9218868437227405312), (1, .double 9218868437227405311), (1, .double 18442240474082181119), (1, .double 1), (1, .double 9223372036854775809), (1, .methodref 43 44), (0, .class_ 45), (0, .nameAndType 46 47), (0, u "com/example/converge/converge/compiler/FloatText"), (0, u "narrow"), (0, u "(D)F"), (0, .class_ 49), (0, u "com/example/converge/converge/compiler/FloatTextNarrowPinLaw"), (2, u "law"), (0, u "(III)Z")] 3

def k1m0 : Method := { name := "<init>", desc := "()V", sig := { parameters := [], returnType := none }, accessFlags := 2, code := none }
def k1c1 : Code := { maxStack := 6, maxLocals := 12, code := code, exceptionTable := #[], attributes := #[] }
def k1m1 : Method := { name := "law", desc := "(III)Z", sig := { parameters := [.int, .int, .int], returnType := some .boolean }, accessFlags := 9, code := some k1c1 }
/-- com/example/converge/converge/compiler/FloatTextNarrowPinLaw -/
def k1 : Class := { plain "com/example/converge/converge/compiler/FloatTextNarrowPinLaw" (some 0) with
  accessFlags := 49
  interfaces := #[]
  cf := some (fileOf pool1 48 #[] #[{ accessFlags := 2, nameIndex := 5, descriptorIndex := 6, attributes := #[] }, { accessFlags := 9, nameIndex := 52, descriptorIndex := 53, attributes := #[] }] 49 2 #[] #[])
  fields := #[]
  methods := #[k1m0, k1m1]
  instanceTypes := #[]
  staticTypes := #[]
  resolved := Array.replicate 57 none
  statics := none }

def pool2 : Array CpInfo := pool [(2, .class_ 4), (1, u "java/lang/Object"), (0, u "<init>"), (0, u "()V"), (1, .class_ 10), (1, u "com/example/converge/converge/compiler/FloatText"), (18, .double 5183643170566569984), (1, .float 2139095040), (0, .double 14407015207421345792), (1, .float 4286578688), (114, u "DOUBLE_DIGITS"), (0, u "I"), (2, u "DOUBLE_ROUND_TRIP_DIGITS"), (1, u "FLOAT_DIGITS"), (1, u "FLOAT_ROUND_TRIP_DIGITS"), (7, u "narrow"), (0, u "(D)F")] 25

def k2m0 : Method := { name := "<init>", desc := "()V", sig := { parameters := [], returnType := none }, accessFlags := 2, code := none }
def k2c1 : Code := { maxStack := 4, maxLocals := 3, code := prog_25_method_4_code, exceptionTable := #[], attributes := #[] }
def k2m1 : Method := { name := "narrow", desc := "(D)F", sig := { parameters := [.double], returnType := some .float }, accessFlags := 8, code := some k2c1 }
/-- com/example/converge/converge/compiler/FloatText -/
def k2 : Class := { plain "com/example/converge/converge/compiler/FloatText" (some 0) with
  accessFlags := 48
  interfaces := #[]
  cf := some (fileOf pool2 8 #[] #[{ accessFlags := 2, nameIndex := 5, descriptorIndex := 6, attributes := #[] }, { accessFlags := 8, nameIndex := 165, descriptorIndex := 166, attributes := #[] }] 48 2 #[] #[{ accessFlags := 26, nameIndex := 149, descriptorIndex := 150, attributes := #[] }, { accessFlags := 26, nameIndex := 153, descriptorIndex := 150, attributes := #[] }, { accessFlags := 26, nameIndex := 155, descriptorIndex := 150, attributes := #[] }, { accessFlags := 26, nameIndex := 157, descriptorIndex := 150, attributes := #[] }])
  fields := #[{ name := "DOUBLE_DIGITS", type := .int, accessFlags := 26, slot := 0, constantValue := 0 }, { name := "DOUBLE_ROUND_TRIP_DIGITS", type := .int, accessFlags := 26, slot := 1, constantValue := 0 }, { name := "FLOAT_DIGITS", type := .int, accessFlags := 26, slot := 2, constantValue := 0 }, { name := "FLOAT_ROUND_TRIP_DIGITS", type := .int, accessFlags := 26, slot := 3, constantValue := 0 }]
  methods := #[k2m0, k2m1]
  instanceTypes := #[]
  staticTypes := #[.int, .int, .int, .int]
  resolved := Array.replicate 192 none
  statics := none }

def pool3 : Array CpInfo := pool [(1, u "java/lang/Cloneable"), (0, .class_ 1), (0, u "java/lang/Object"), (0, .class_ 3)] 3

/-- java/lang/Cloneable -/
def k3 : Class := { plain "java/lang/Cloneable" (some 0) with
  accessFlags := 1537
  interfaces := #[]
  cf := some (fileOf pool3 2 #[] #[] 1537 4 #[] #[])
  fields := #[]
  methods := #[]
  instanceTypes := #[]
  staticTypes := #[]
  resolved := Array.replicate 8 none
  statics := none }

def pool4 : Array CpInfo := pool [(1, u "java/io/Serializable"), (0, .class_ 1), (0, u "java/lang/Object"), (0, .class_ 3)] 3

/-- java/io/Serializable -/
def k4 : Class := { plain "java/io/Serializable" (some 0) with
  accessFlags := 1537
  interfaces := #[]
  cf := some (fileOf pool4 2 #[] #[] 1537 4 #[] #[])
  fields := #[]
  methods := #[]
  instanceTypes := #[]
  staticTypes := #[]
  resolved := Array.replicate 8 none
  statics := none }

/-- the primitive byte -/
def k5 : Class := { plain "byte" none with kind := .primitive 'B', accessFlags := 0x411 }
/-- [B -/
def k6 : Class := { plain "[B" (some 0) with kind := .array 5 .byte, interfaces := #[3, 4], accessFlags := 1041 }

/-- the primitive int -/
def k7 : Class := { plain "int" none with kind := .primitive 'I', accessFlags := 0x411 }
/-- [I -/
def k8 : Class := { plain "[I" (some 0) with kind := .array 7 .int, interfaces := #[3, 4], accessFlags := 1041 }

def heap : Heap := #[]
def classes : Array Class := #[k0, k1, k2, k3, k4, k5, k6, k7, k8]
def interned : List (Array UInt16 × Addr) := []
def slotsUsed : Nat := 0
def theMethod : MethodId := ⟨1, 1⟩
def args0 : Array Value := #[.int 0, .int 5, .int 1]
def aboutOver (below : List Frame) : State where
  vm := { classes := classes, interned := interned.toArray }
  heap := heap
  slotsUsed := slotsUsed
  threads := #[{ frames := .invoking theMethod args0 :: below }]
def below0 : List Frame := [.native { method := ⟨0, 0⟩, args := #[] }]
def about1 : State := aboutOver below0
def p0 : Program := .bare "" "" ""
def e0 : Env := launch0.env 0 0 0
theorem w_frames : about1.frames = Frame.invoking theMethod args0 :: below0 := rfl
set_option maxRecDepth 65536 in
theorem w_args : argsFit about1.vm theMethod args0 = true := by decide +kernel
set_option maxRecDepth 65536 in
theorem w_heap : heapFits about1 = true := by decide +kernel
set_option maxRecDepth 65536 in
theorem w_runnable : about1.curStatus? = some .runnable := by decide +kernel
set_option maxRecDepth 65536 in
theorem w_alone : about1.alone = true := by decide +kernel
set_option maxRecDepth 65536 in
theorem w_named : about1.methodNamed? x = some theMethod := by decide +kernel
set_option maxRecDepth 65536 in
theorem w_hears : about1.hears theMethod below0 = true := by decide +kernel
set_option maxRecDepth 65536 in
theorem w_ripe : about1.ripe theMethod args0 below0 = true := by decide +kernel
theorem w_running : about1.status = .running := rfl
set_option maxRecDepth 65536 in
theorem w_room : about1.hasRoom e0.platform room_1 = true :=
  launch0.hasRoom_least _ room_1 (by decide +kernel) (by decide +kernel) (by decide +kernel) (by decide +kernel) (by decide +kernel) (by decide +kernel)
theorem allAtoms_all (ts : List Jvm.Cond) (a : Array Jvm.Value) (st : Jvm.State) : (allAtoms ts).before a st = ts.all (fun c => c.before a st) := by
  induction ts with
  | nil => rfl
  | cons c t ih =>
    show (Jvm.Cond.and c (allAtoms t)).before a st = _
    rw [Jvm.Cond.before_and, ih, List.all_cons]
def words1 : List Jvm.Cond := Jvm.Cond.code x code maxLocals ret :: tables_1
/-- a 'code' word, met by the world's own term for the bytes: nothing is compared byte by byte -/
theorem code_word {y : MethodName} {bytes : ByteArray} {mx : Nat} {rt : Option FieldType} {a : Array Value} {s : State} {m : MethodId} {meth : Method} {c : Code} (h1 : s.methodNamed? y = some m) (h2 : s.vm.method? m = some meth) (h3 : meth.code = some c) (h4 : c.code = bytes)
    (h5 : (c.maxLocals == mx && c.exceptionTable.isEmpty && decide (c.maxStack ≤ mostOperands) && decide (meth.sig.returnType = rt) && !meth.locks && decide (parseMethodDescriptor y.desc = some meth.sig)) = true) : (Jvm.Cond.code y bytes mx rt).before a s = true := by
  simp only [Bool.and_eq_true, beq_iff_eq, Bool.not_eq_true', decide_eq_true_eq] at h5
  obtain ⟨⟨⟨⟨⟨g1, g2⟩, g3⟩, g4⟩, g5⟩, g6⟩ := h5
  simp [Cond.before, Cond.holds, Cond.value, h1, h2, h3, h4, g1, g2, g3, g4, g5, g6]
def isCode : Jvm.Cond → Bool
  | .code _ _ _ _ => true
  | _ => false
theorem all_split {L : List Jvm.Cond} {P : Jvm.Cond → Bool} (h1 : L.all (fun c => isCode c || P c) = true) (h2 : ∀ c ∈ L.filter isCode, P c = true) : L.all P = true := by
  refine List.all_eq_true.mpr fun c hc => ?_
  have h := List.all_eq_true.mp h1 c hc
  rcases Bool.eq_false_or_eq_true (isCode c) with hi | hi
  · exact h2 c (List.mem_filter.mpr ⟨hc, hi⟩)
  · simpa [hi] using h
set_option maxRecDepth 65536 in
theorem w_c0 : (Jvm.Cond.code x code maxLocals ret).before args0 about1 = true := code_word (m := ⟨1, 1⟩) (meth := k1m1) (c := k1c1) (by decide +kernel) rfl rfl rfl (by decide +kernel)
set_option maxRecDepth 65536 in
theorem w_c1 : (Jvm.Cond.code ({ cls := "com/example/converge/converge/compiler/FloatText", name := "narrow", desc := "(D)F" } : Jvm.MethodName) prog_25_method_4_code (3 : Nat) (Option.some Jvm.ClassFile.FieldType.float)).before args0 about1 = true := code_word (m := ⟨2, 1⟩) (meth := k2m1) (c := k2c1) (by decide +kernel) rfl rfl rfl (by decide +kernel)
def codes1 : List Jvm.Cond := [Jvm.Cond.code x code maxLocals ret, Jvm.Cond.code ({ cls := "com/example/converge/converge/compiler/FloatText", name := "narrow", desc := "(D)F" } : Jvm.MethodName) prog_25_method_4_code (3 : Nat) (Option.some Jvm.ClassFile.FieldType.float)]
set_option maxRecDepth 65536 in
theorem codes_eq : words1.filter isCode = codes1 := rfl
theorem w_codes : ∀ c ∈ words1.filter isCode, c.before args0 about1 = true := by
  rw [codes_eq]
  intro c hc
  simp only [codes1, List.mem_cons, List.not_mem_nil, or_false] at hc
  rcases hc with rfl | rfl
  · exact w_c0
  · exact w_c1
set_option maxRecDepth 65536 in
theorem w_t1 : (words1.take 24).all (fun c => isCode c || c.before args0 about1) = true := by decide +kernel
set_option maxRecDepth 65536 in
theorem w_t2 : (words1.drop 24).all (fun c => isCode c || c.before args0 about1) = true := by decide +kernel
theorem w_tables : (allAtoms (Jvm.Cond.code x code maxLocals ret :: tables_1)).before args0 about1 = true := by
  rw [allAtoms_all]
  show words1.all (fun c => c.before args0 about1) = true
  refine all_split ?_ w_codes
  rw [← List.take_append_drop 24 words1, List.all_append, w_t1, w_t2]
  rfl
set_option maxRecDepth 65536 in
theorem w_case : (Jvm.Cond.and given_1 narrow_1).before args0 about1 = true := by decide +kernel
theorem w_applies : (headSpec (Jvm.Cond.code x code maxLocals ret :: tables_1) room_1).applies x e0.platform about1 = true :=
  (Spec.applies_iff w_frames).mpr ⟨w_running, w_runnable, w_alone, w_named, w_hears, w_ripe, w_room, w_tables⟩
theorem atStart : AtStart classFile x code maxLocals ret World_1 tables_1 room_1 Calls_1 rest_1 Pre_1 launch0 p0 e0 about1 theMethod args0 below0 :=
  ⟨lists_1, trivial, launch0.admits_env _ _ _, launch0.least_env, fairChoices_fair.cas, fairChoices_fair.clock, w_frames, w_args, w_heap, w_applies, trivial, trivial, w_case⟩
end start1
theorem witness_1 : WitnessClaimed_1 := ⟨start1.p0, start1.e0, start1.about1, start1.theMethod, start1.args0, start1.below0, start1.atStart⟩
end Jvm.Pilot.@@N@@
