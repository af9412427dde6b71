import JvmDerived
import JvmDerived.Pilot.@@N@@Statement
import JvmDerived.Pilot.@@N@@Code
set_option linter.unusedVariables false
set_option linter.unusedSimpArgs false
namespace Jvm.RoadKit
open Sem ClassFile Op Lib Jvm.Stand Jvm.Free Jvm.LawKit
section New
variable {p : Program} {l : Launch} {e : Env} {R : Room} {s : State} {m : MethodId} {args : Array Value} {below : List Frame} {meth : Method} {c : Code} {T : State} {locs : List Loc} {cells slots : Nat}
theorem retI (X : Stand p l e R s m args below meth c T locs cells slots) (hx : p.tables.exec = Jvm.exec) {pc : Nat} {Ls : Array Slot} {z : Int32} {rest : List Value} (hret : meth.sig.returnType = some .int) (hd : decode c.code pc = .ok (.ireturn, 1)) {fs : List Frame}
    (hl : ∀ (f : JFrame) (acts : List Action), f.method = m → f.locked = none → f.entered = [] → (doReturn e (T.setTop f) acts (some (.int z))).1 = T.setFrames fs) : Steps p.tables e below (T.setTop (mkF m pc Ls (.int z :: rest))) (T.setFrames fs) := by
  have hm' : T.vm.method? m = some meth := X.method'
  have hn : narrow .int (.int z) = .int z := rfl
  show Steps p.tables e below (T.setTop { method := m, pc := pc, locals := Ls, stack := _ :: rest, locked := none }) _
  jvm_step X.here [X.here.top, hx, hd, hm', hret, hn]
  first | (intro acts; rw [hl _ acts rfl rfl rfl]) | rw [hl _ _ rfl rfl rfl]
  exact Steps.refl _
end New
end Jvm.RoadKit
namespace Jvm.Pilot.@@N@@
namespace StrChars
open Jvm Sem ClassFile Op Lib Jvm.Stand Jvm.Free.XT Jvm.Free.ALB Jvm.Free.JM Jvm.Free
open Jvm.Lib.Cold (StaticIs)
/-- a char array whose places are chars -/
def Ch (a : Addr) (A : Cell) (U : State) : Prop := Arr .char a A U ∧ Typed .char A
theorem Ch.mv {a : Addr} {A : Cell} {U U' : State} (h : Ch a A U) (hal : U.vm.Alike U'.vm) (hh : U'.heap = U.heap) : Ch a A U' := ⟨h.1.mv hal hh, h.2⟩
theorem Ch.keep {a : Addr} {A : Cell} {U U' : State} (h : Ch a A U) (hal : U.vm.Alike U'.vm) (hk : U'.heap[a]? = some A) : Ch a A U' := ⟨h.1.keep hal hk, h.2⟩
/-- what place i of a char[]'s cell holds -/
def cv (A : Cell) (i : Nat) : Int32 := match A.slots[i]? with | some (.int x) => x | _ => 0
theorem Ch.get {a : Addr} {A : Cell} {U : State} (h : Ch a A U) {i : Nat} (hi : i < A.slots.size) : A.slots[i]? = some (.int (cv A i)) := by
  have e := Array.getElem?_eq_getElem hi
  have f := h.2 i _ e
  unfold cv; rw [e]
  generalize A.slots[i] = v at f
  cases v <;> simp [fits] at f ⊢
/-- the byte that i2b leaves of a char -/
def lo8 (x : Int32) : Int32 := x.toInt8.toInt32
theorem fits_lo8 (y : Int32) : fits .byte (.int (lo8 y)) = true := by
  have h1 := y.toInt8.le_toInt
  have h2 := y.toInt8.toInt_lt
  simp only [lo8, fits, Bool.and_eq_true, decide_eq_true_eq, Int32.le_iff_toInt_le, Int8.toInt_toInt32, show (-128 : Int32).toInt = -128 from by decide, show (127 : Int32).toInt = 127 from by decide]
  omega
/-- A' is A but that each place j of lo .. hi - 1 holds f j -/
def Laid (A A' : Cell) (lo hi : Nat) (f : Nat → Value) : Prop := A'.cls = A.cls ∧ A'.vm = A.vm ∧ A'.slots.size = A.slots.size ∧ ∀ i, A'.slots[i]? = if lo ≤ i ∧ i < hi then some (f i) else A.slots[i]?
theorem Laid.zero (A : Cell) (lo : Nat) (f : Nat → Value) : Laid A A lo (lo + 0) f := ⟨rfl, rfl, rfl, fun i => by rw [if_neg (by omega)]⟩
theorem Laid.step {A Ak : Cell} {lo k : Nat} {f : Nat → Value} {v : Value} (h : Laid A Ak lo k f) (hlo : lo ≤ k) (hk : k < Ak.slots.size) (hv : v = f k) : Laid A (Ak.setSlot k v) lo (k + 1) f := by
  refine ⟨h.1, h.2.1, by simpa [Cell.setSlot] using h.2.2.1, fun i => ?_⟩
  by_cases e : k = i
  · subst e; rw [Cell.slots_setSlot_self v hk, if_pos (by omega), hv]
  · rw [Cell.slots_setSlot_ne v e, h.2.2.2 i]
    by_cases q : lo ≤ i ∧ i < k
    · rw [if_pos q, if_pos (by omega)]
    · rw [if_neg q, if_neg (by omega)]
def U16 : String := "java/lang/StringUTF16"
namespace Cmp5
def yN : MethodName := ⟨"java/lang/StringUTF16", "compress", "([CI[BII)I"⟩
abbrev yB : ByteArray := jdk_52_method_21_code
theorem d0 : decode yB 0 = .ok (.iconst 0, 1) := by decide +kernel
theorem d1 : decode yB 1 = .ok (.istore 5, 2) := by decide +kernel
theorem d3 : decode yB 3 = .ok (.iload 5, 2) := by decide +kernel
theorem d5 : decode yB 5 = .ok (.iload 4, 2) := by decide +kernel
theorem d7 : decode yB 7 = .ok (.if_icmp (.ge) 37, 3) := by decide +kernel
theorem d10 : decode yB 10 = .ok (.aload_n 0, 1) := by decide +kernel
theorem d11 : decode yB 11 = .ok (.iload_n 1, 1) := by decide +kernel
theorem d12 : decode yB 12 = .ok (.caload, 1) := by decide +kernel
theorem d13 : decode yB 13 = .ok (.istore 6, 2) := by decide +kernel
theorem d15 : decode yB 15 = .ok (.iload 6, 2) := by decide +kernel
theorem d17 : decode yB 17 = .ok (.sipush 255, 3) := by decide +kernel
theorem d20 : decode yB 20 = .ok (.if_icmp (.le) 6, 3) := by decide +kernel
theorem d26 : decode yB 26 = .ok (.aload_n 2, 1) := by decide +kernel
theorem d27 : decode yB 27 = .ok (.iload_n 3, 1) := by decide +kernel
theorem d28 : decode yB 28 = .ok (.iload 6, 2) := by decide +kernel
theorem d30 : decode yB 30 = .ok (.i2b, 1) := by decide +kernel
theorem d31 : decode yB 31 = .ok (.bastore, 1) := by decide +kernel
theorem d32 : decode yB 32 = .ok (.iinc 1 1, 3) := by decide +kernel
theorem d35 : decode yB 35 = .ok (.iinc 3 1, 3) := by decide +kernel
theorem d38 : decode yB 38 = .ok (.iinc 5 1, 3) := by decide +kernel
theorem d41 : decode yB 41 = .ok (.goto (-38), 3) := by decide +kernel
theorem d44 : decode yB 44 = .ok (.iload 4, 2) := by decide +kernel
theorem d46 : decode yB 46 = .ok (.ireturn, 1) := by decide +kernel
def site : List Cond := []
def tab : Cond := tabOf yN yB 7 (some .int) site
def P (b : Addr) (A : Cell) (d : Addr) (B : Cell) (o q len : Nat) (args : Array Value) (s : State) : Prop := args = #[.ref b, .int (Int32.ofNat o), .ref d, .int (Int32.ofNat q), .int (Int32.ofNat len)] ∧ Ch b A s ∧ Arr .byte d B s ∧ b ≠ d ∧ o + len ≤ A.slots.size ∧ q + len ≤ B.slots.size ∧ ∀ i, i < len → ¬ 255 < cv A (o + i)
def E (b : Addr) (A : Cell) (d : Addr) (B : Cell) (o q len : Nat) (r : Option Value) (s u : State) : Prop := r = some (.int (Int32.ofNat len)) ∧ ∃ B', Put d B' s u ∧ Laid B B' q (q + len) (fun j => Value.int (lo8 (cv A (o + (j - q)))))
/-- no char of the range above 255: len; the places written hold each char's low byte -/
theorem law (l : Launch) (b : Addr) (A : Cell) (d : Addr) (B : Cell) (o q len : Nat) : Law l yN 5 5 0 0 yB 7 (some .int) site (P b A d B o q len) (E b A d B o q len) (copyLocs d q len) 0 0 := by
  refine Law.of_walk (plainFor_of_name (by decide +kernel)) (by decide +kernel) (by decide +kernel) (by decide) (fun _ _ h => by rw [h.1]; rfl) (fun _ U U' hal hh h => ⟨h.1, h.2.1.mv hal hh, h.2.2.1.mv hal hh, h.2.2.2⟩) (fun r U U' V V' h1 hal h2 h => ⟨h.1, h.2.elim fun B' q => ⟨B', q.1.mv h1 h2, q.2⟩⟩) ?_
  intro p e s m args below meth c s₁ X0 hexec hbytes hml hret hlk hnm hown hh0 W hP
  obtain ⟨rfl, hA, hB, hne, l1, l2, hp⟩ := hP
  have c1 : Steps p.tables e below (s₁.setTop (entryFrame m #[.ref b, .int (Int32.ofNat o), .ref d, .int (Int32.ofNat q), .int (Int32.ofNat len)] 7)) (s₁.setTop (mkF m 0 #[.val (.ref b), .val (.int (Int32.ofNat o)), .val (.ref d), .val (.int (Int32.ofNat q)), .val (.int (Int32.ofNat len)), .unset, .unset] [])) := entry rfl
  have hA0 := hA.1.mv X0.warmed.alike hh0
  have hB0 := hB.mv X0.warmed.alike hh0
  have a31 := hA.1.2.2.2
  have c2 : Steps p.tables e below (s₁.setTop (entryFrame m #[.ref b, .int (Int32.ofNat o), .ref d, .int (Int32.ofNat q), .int (Int32.ofNat len)] 7)) (s₁.setTop (mkF m 3 #[.val (.ref b), .val (.int (Int32.ofNat o)), .val (.ref d), .val (.int (Int32.ofNat q)), .val (.int (Int32.ofNat len)), .val (.int 0), .unset] [])) := c1.trans (by
    refine iconstV X0.here hexec rfl 0 (hb hbytes d0) (by decide) ?_
    refine XS.istore X0.here hexec rfl (hb hbytes d1) rfl rfl ?_
    exact Steps.refl _)
  have loop : ∀ (r i : Nat), i + r = len → ∀ (z : Slot), (z = .unset ∨ ∃ w, z = .val w ∧ w.category = 1) → ∀ (Tl : State) (Bk : Cell), Stand p l e { frames := 0, locals := 0, cells := 0, slots := 0 } s m #[.ref b, .int (Int32.ofNat o), .ref d, .int (Int32.ofNat q), .int (Int32.ofNat len)] below meth c Tl ([] ++ copyLocs d q i) 0 0 → Put d Bk s₁ Tl → Laid B Bk q (q + i) (fun j => Value.int (lo8 (cv A (o + (j - q))))) →
      Steps p.tables e below (s₁.setTop (entryFrame m #[.ref b, .int (Int32.ofNat o), .ref d, .int (Int32.ofNat q), .int (Int32.ofNat len)] 7)) (Tl.setTop (mkF m 3 #[.val (.ref b), .val (.int (Int32.ofNat (o + i))), .val (.ref d), .val (.int (Int32.ofNat (q + i))), .val (.int (Int32.ofNat len)), .val (.int (Int32.ofNat i)), z] [])) → ∃ (T' : State) (B' : Cell) (z' : Slot), Stand p l e { frames := 0, locals := 0, cells := 0, slots := 0 } s m #[.ref b, .int (Int32.ofNat o), .ref d, .int (Int32.ofNat q), .int (Int32.ofNat len)] below meth c T' ([] ++ copyLocs d q len) 0 0 ∧ Put d B' s₁ T' ∧ Laid B B' q (q + len) (fun j => Value.int (lo8 (cv A (o + (j - q))))) ∧
      Steps p.tables e below (s₁.setTop (entryFrame m #[.ref b, .int (Int32.ofNat o), .ref d, .int (Int32.ofNat q), .int (Int32.ofNat len)] 7)) (T'.setTop (mkF m 3 #[.val (.ref b), .val (.int (Int32.ofNat (o + len))), .val (.ref d), .val (.int (Int32.ofNat (q + len))), .val (.int (Int32.ofNat len)), .val (.int (Int32.ofNat len)), z'] [])) := by
    intro r
    induction r with
    | zero =>
      intro i hi z hz Tl Bk Xl pl fl cl
      have hil : i = len := by omega
      rw [hil] at Xl fl cl
      exact ⟨Tl, Bk, z, Xl, pl, fl, cl⟩
    | succ r ih =>
      intro i hi z hz Tl Bk Xl pl fl cl
      have all := X0.warmed.alike.symm.trans Xl.warmed.alike
      have hAl := hA0.keep all (pl.other hne hA0.1)
      have hBk := hB0.like all pl.1 fl.1 fl.2.1 fl.2.2.1
      have hlt : q + i < Bk.slots.size := by rw [fl.2.2.1]; omega
      have c3 : Steps p.tables e below (s₁.setTop (entryFrame m #[.ref b, .int (Int32.ofNat o), .ref d, .int (Int32.ofNat q), .int (Int32.ofNat len)] 7)) (Tl.setTop (mkF m 12 #[.val (.ref b), .val (.int (Int32.ofNat (o + i))), .val (.ref d), .val (.int (Int32.ofNat (q + i))), .val (.int (Int32.ofNat len)), .val (.int (Int32.ofNat i)), z] [.int (Int32.ofNat (o + i)), .ref b])) := cl.trans (by
        refine XS.iload Xl.here hexec rfl (hb hbytes d3) rfl ?_
        refine XS.iload Xl.here hexec rfl (hb hbytes d5) rfl ?_
        refine XS.icmpNo Xl.here hexec rfl (hb hbytes d7) rfl (ii_ge_f (lt32 (by omega) (by omega))) ?_
        refine XS.aloadN Xl.here hexec rfl (hb hbytes d10) rfl rfl ?_
        refine XS.iloadN Xl.here hexec rfl (hb hbytes d11) rfl ?_
        exact Steps.refl _)
      have c4 : Steps p.tables e below (s₁.setTop (entryFrame m #[.ref b, .int (Int32.ofNat o), .ref d, .int (Int32.ofNat q), .int (Int32.ofNat len)] 7)) (Tl.setTop (mkF m 13 #[.val (.ref b), .val (.int (Int32.ofNat (o + i))), .val (.ref d), .val (.int (Int32.ofNat (q + i))), .val (.int (Int32.ofNat len)), .val (.int (Int32.ofNat i)), z] [.int (cv A (o + i))])) := c3.trans (by
        refine Xl.aget hexec hAl rfl (hA.get (i := o + i) (by omega)) rfl rfl (hb hbytes d12) ?_
        exact Steps.refl _)
      have c5 : Steps p.tables e below (s₁.setTop (entryFrame m #[.ref b, .int (Int32.ofNat o), .ref d, .int (Int32.ofNat q), .int (Int32.ofNat len)] 7)) (Tl.setTop (mkF m 15 #[.val (.ref b), .val (.int (Int32.ofNat (o + i))), .val (.ref d), .val (.int (Int32.ofNat (q + i))), .val (.int (Int32.ofNat len)), .val (.int (Int32.ofNat i)), .val (.int (cv A (o + i)))] [])) := c4.trans (by
        refine XS.istoreS Xl.here hexec rfl (hb hbytes d13) rfl rfl hz ?_
        exact Steps.refl _)
      have c6 : Steps p.tables e below (s₁.setTop (entryFrame m #[.ref b, .int (Int32.ofNat o), .ref d, .int (Int32.ofNat q), .int (Int32.ofNat len)] 7)) (Tl.setTop (mkF m 31 #[.val (.ref b), .val (.int (Int32.ofNat (o + i))), .val (.ref d), .val (.int (Int32.ofNat (q + i))), .val (.int (Int32.ofNat len)), .val (.int (Int32.ofNat i)), .val (.int (cv A (o + i)))] [.int (lo8 (cv A (o + i))), .int (Int32.ofNat (q + i)), .ref d])) := c5.trans (by
        refine XS.iload Xl.here hexec rfl (hb hbytes d15) rfl ?_
        refine sipushV Xl.here hexec rfl 255 (hb hbytes d17) (by decide) ?_
        refine XS.icmpYes Xl.here hexec rfl (pc0 := 20) rfl (hb hbytes d20) rfl (ii_le_t (hp i (by omega))) (by decide) rfl ?_
        refine XS.aloadN Xl.here hexec rfl (hb hbytes d26) rfl rfl ?_
        refine XS.iloadN Xl.here hexec rfl (hb hbytes d27) rfl ?_
        refine XS.iload Xl.here hexec rfl (hb hbytes d28) rfl ?_
        refine i2b Xl.here hexec rfl (hb hbytes d30) rfl ?_
        exact Steps.refl _)
      obtain ⟨T7, X7, p7, st7⟩ := Xl.aput hexec hBk rfl hlt rfl (fits_lo8 (cv A (o + i))) (g := (mkF m 31 #[.val (.ref b), .val (.int (Int32.ofNat (o + i))), .val (.ref d), .val (.int (Int32.ofNat (q + i))), .val (.int (Int32.ofNat len)), .val (.int (Int32.ofNat i)), .val (.int (cv A (o + i)))] [.int (lo8 (cv A (o + i))), .int (Int32.ofNat (q + i)), .ref d])) rfl (rest := []) rfl (hb hbytes d31)
      have c8 : Steps p.tables e below (s₁.setTop (entryFrame m #[.ref b, .int (Int32.ofNat o), .ref d, .int (Int32.ofNat q), .int (Int32.ofNat len)] 7)) (T7.setTop (mkF m 32 #[.val (.ref b), .val (.int (Int32.ofNat (o + i))), .val (.ref d), .val (.int (Int32.ofNat (q + i))), .val (.int (Int32.ofNat len)), .val (.int (Int32.ofNat i)), .val (.int (cv A (o + i)))] [])) := c6.trans (st7 _ (Steps.refl _))
      have c9 : Steps p.tables e below (s₁.setTop (entryFrame m #[.ref b, .int (Int32.ofNat o), .ref d, .int (Int32.ofNat q), .int (Int32.ofNat len)] 7)) (T7.setTop (mkF m 3 #[.val (.ref b), .val (.int (Int32.ofNat (o + i) + 1)), .val (.ref d), .val (.int (Int32.ofNat (q + i) + 1)), .val (.int (Int32.ofNat len)), .val (.int (Int32.ofNat i + 1)), .val (.int (cv A (o + i)))] [])) := c8.trans (by
        refine iincV X7.here hexec rfl 1 (hb hbytes d32) (by decide) rfl rfl ?_
        refine iincV X7.here hexec rfl 1 (hb hbytes d35) (by decide) rfl rfl ?_
        refine iincV X7.here hexec rfl 1 (hb hbytes d38) (by decide) rfl rfl ?_
        refine XS.goto X7.here hexec rfl (pc0 := 41) rfl (hb hbytes d41) (by decide) rfl ?_
        exact Steps.refl _)
      have c10 : Steps p.tables e below (s₁.setTop (entryFrame m #[.ref b, .int (Int32.ofNat o), .ref d, .int (Int32.ofNat q), .int (Int32.ofNat len)] 7)) (T7.setTop (mkF m 3 #[.val (.ref b), .val (.int (Int32.ofNat (o + (i + 1)))), .val (.ref d), .val (.int (Int32.ofNat (q + (i + 1)))), .val (.int (Int32.ofNat len)), .val (.int (Int32.ofNat (i + 1))), .val (.int (cv A (o + i)))] [])) := by
        have := c9
        rw [succ32, succ32, succ32] at this
        exact this
      exact ih (i + 1) (by omega) _ (Or.inr ⟨_, rfl, rfl⟩) T7 _ (by rw [copyLocs_step, ← List.append_assoc]; exact X7) (pl.trans p7) (fl.step (by omega) hlt (by simp)) c10
  obtain ⟨T9, B9, z9, X9, p9, f9, g9⟩ := loop len 0 (by omega) .unset (Or.inl rfl) s₁ B (by simpa [copyLocs] using X0) ⟨hB0.1, fun _ _ => rfl, rfl⟩ (Laid.zero _ _ _) c2
  have c11 : Steps p.tables e below (s₁.setTop (entryFrame m #[.ref b, .int (Int32.ofNat o), .ref d, .int (Int32.ofNat q), .int (Int32.ofNat len)] 7)) (T9.setTop (mkF m 46 #[.val (.ref b), .val (.int (Int32.ofNat (o + len))), .val (.ref d), .val (.int (Int32.ofNat (q + len))), .val (.int (Int32.ofNat len)), .val (.int (Int32.ofNat len)), z9] [.int (Int32.ofNat len)])) := g9.trans (by
    refine XS.iload X9.here hexec rfl (hb hbytes d3) rfl ?_
    refine XS.iload X9.here hexec rfl (hb hbytes d5) rfl ?_
    refine XS.icmpYes X9.here hexec rfl (pc0 := 7) rfl (hb hbytes d7) rfl (ii_ge_t (nlt32 (by omega) (Nat.le_refl _))) (by decide) rfl ?_
    refine XS.iload X9.here hexec rfl (hb hbytes d44) rfl ?_
    exact Steps.refl _)
  exact ⟨T9, some (.int (Int32.ofNat len)), _, _, _, X9, by simp, rfl, rfl, (fun h => by cases h), ⟨rfl, B9, p9.from hh0, f9⟩, fun fs hl => c11.trans (X9.ireturnOut hexec hret rfl (Or.inl rfl) (hb hbytes d46) hl)⟩
end Cmp5
namespace Cmp3
def yN : MethodName := ⟨"java/lang/StringUTF16", "compress", "([CII)[B"⟩
abbrev yB : ByteArray := jdk_52_method_16_code
theorem d0 : decode yB 0 = .ok (.iload_n 2, 1) := by decide +kernel
theorem d1 : decode yB 1 = .ok (.newarray .byte, 2) := by decide +kernel
theorem d3 : decode yB 3 = .ok (.astore_n 3, 1) := by decide +kernel
theorem d4 : decode yB 4 = .ok (.aload_n 0, 1) := by decide +kernel
theorem d5 : decode yB 5 = .ok (.iload_n 1, 1) := by decide +kernel
theorem d6 : decode yB 6 = .ok (.aload_n 3, 1) := by decide +kernel
theorem d7 : decode yB 7 = .ok (.iconst 0, 1) := by decide +kernel
theorem d8 : decode yB 8 = .ok (.iload_n 2, 1) := by decide +kernel
theorem d9 : decode yB 9 = .ok (.invokestatic 115, 3) := by decide +kernel
theorem d12 : decode yB 12 = .ok (.istore 4, 2) := by decide +kernel
theorem d14 : decode yB 14 = .ok (.iload 4, 2) := by decide +kernel
theorem d16 : decode yB 16 = .ok (.iload_n 2, 1) := by decide +kernel
theorem d17 : decode yB 17 = .ok (.if_icmp (.eq) 40, 3) := by decide +kernel
theorem d57 : decode yB 57 = .ok (.aload_n 3, 1) := by decide +kernel
theorem d58 : decode yB 58 = .ok (.areturn, 1) := by decide +kernel
def site : List Cond := [.arrayClass .byte, Cmp5.tab] ++ staticW U16 115 Cmp5.yN
def tab : Cond := tabOf yN yB 6 (some (.array .byte)) site
def P (b : Addr) (A : Cell) (o len : Nat) (args : Array Value) (s : State) : Prop := args = #[.ref b, .int (Int32.ofNat o), .int (Int32.ofNat len)] ∧ Ch b A s ∧ o + len ≤ A.slots.size ∧ len ≤ 536870912 ∧ ∀ i, i < len → ¬ 255 < cv A (o + i)
def E (b : Addr) (A : Cell) (o len : Nat) (r : Option Value) (s u : State) : Prop := NewArr .byte "[B" len (fun j => .int (lo8 (cv A (o + j)))) r s u ∧ u.heap.size = s.heap.size + 1
/-- no char of the range above 255: a new byte[] of their low bytes -/
theorem law (l : Launch) (b : Addr) (A : Cell) (o len : Nat) : Law l yN 3 3 1 18 yB 6 (some (.array .byte)) site (P b A o len) (E b A o len) [] 1 len := by
  refine Law.of_walk (plainFor_of_name (by decide +kernel)) (by decide +kernel) (by decide +kernel) (by decide) (fun _ _ h => by rw [h.1]; rfl) (fun _ U U' hal hh h => ⟨h.1, h.2.1.mv hal hh, h.2.2⟩) (fun r U U' V V' h1 hal h2 h => ⟨NewArr.mv r U U' V V' h1 hal h2 h.1, by rw [h1, h2]; exact h.2⟩) ?_
  intro p e s m args below meth c s₁ X0 hexec hbytes hml hret hlk hnm hown hh0 W hP
  obtain ⟨rfl, hA, l1, l2, hp⟩ := hP
  have a31 := hA.1.2.2.2
  have c1 : Steps p.tables e below (s₁.setTop (entryFrame m #[.ref b, .int (Int32.ofNat o), .int (Int32.ofNat len)] 6)) (s₁.setTop (mkF m 0 #[.val (.ref b), .val (.int (Int32.ofNat o)), .val (.int (Int32.ofNat len)), .unset, .unset, .unset] [])) := entry rfl
  have c2 : Steps p.tables e below (s₁.setTop (entryFrame m #[.ref b, .int (Int32.ofNat o), .int (Int32.ofNat len)] 6)) (s₁.setTop (mkF m 1 #[.val (.ref b), .val (.int (Int32.ofNat o)), .val (.int (Int32.ofNat len)), .unset, .unset, .unset] [.int (Int32.ofNat len)])) := c1.trans (by
    refine XS.iloadN X0.here hexec rfl (hb hbytes d0) rfl ?_
    exact Steps.refl _)
  obtain ⟨T3, B3, X3, ba3, bs3, bv3, bh3, bf3, st3⟩ := X0.anew hexec (atype := .byte) (wk W (.arrayClass .byte)) rfl (by show len * 1 ≤ _; omega) (by omega) (g := (mkF m 1 #[.val (.ref b), .val (.int (Int32.ofNat o)), .val (.int (Int32.ofNat len)), .unset, .unset, .unset] [.int (Int32.ofNat len)])) rfl (hb hbytes d1) (rest := []) rfl (Nat.le_refl _) (by show 0 + len ≤ len; omega)
  rw [hh0] at ba3 st3
  have kp3 : XT.Kept s T3 := (XT.Kept.of_eq hh0).push bh3
  have hA3 := hA.keep X3.warmed.alike (kp3 _ _ hA.1.1)
  have hne : b ≠ s.heap.size := hA.1.ne
  have c4 : Steps p.tables e below (s₁.setTop (entryFrame m #[.ref b, .int (Int32.ofNat o), .int (Int32.ofNat len)] 6)) (T3.setTop (mkF m 3 #[.val (.ref b), .val (.int (Int32.ofNat o)), .val (.int (Int32.ofNat len)), .unset, .unset, .unset] [.ref s.heap.size])) := c2.trans (st3 _ (Steps.refl _))
  have c5 : Steps p.tables e below (s₁.setTop (entryFrame m #[.ref b, .int (Int32.ofNat o), .int (Int32.ofNat len)] 6)) (T3.setTop (mkF m 9 #[.val (.ref b), .val (.int (Int32.ofNat o)), .val (.int (Int32.ofNat len)), .val (.ref s.heap.size), .unset, .unset] [.int (Int32.ofNat len), .int 0, .ref s.heap.size, .int (Int32.ofNat o), .ref b])) := c4.trans (by
    refine XS.astoreN X3.here hexec rfl (hb hbytes d3) rfl rfl rfl ?_
    refine XS.aloadN X3.here hexec rfl (hb hbytes d4) rfl rfl ?_
    refine XS.iloadN X3.here hexec rfl (hb hbytes d5) rfl ?_
    refine XS.aloadN X3.here hexec rfl (hb hbytes d6) rfl rfl ?_
    refine iconstV X3.here hexec rfl 0 (hb hbytes d7) (by decide) ?_
    refine XS.iloadN X3.here hexec rfl (hb hbytes d8) rfl ?_
    exact Steps.refl _)
  obtain ⟨v6, T6, X6, E6, g6⟩ := X3.callS hexec (Cmp5.law l b A s.heap.size B3 o 0 len) hown (wks W (staticW U16 115 Cmp5.yN)) (wk W Cmp5.tab) (W := 0) (Nat.le_of_ble_eq_true rfl) (Nat.le_of_ble_eq_true rfl) (Nat.le_refl _) (by show 0 + len + 0 ≤ len; omega) (g := (mkF m 9 #[.val (.ref b), .val (.int (Int32.ofNat o)), .val (.int (Int32.ofNat len)), .val (.ref s.heap.size), .unset, .unset] [.int (Int32.ofNat len), .int (Int32.ofNat 0), .ref s.heap.size, .int (Int32.ofNat o), .ref b])) rfl (by rw [hml]; rfl) c5 (argsL := [.ref b, .int (Int32.ofNat o), .ref s.heap.size, .int (Int32.ofNat 0), .int (Int32.ofNat len)]) (rest := []) rfl rfl (by show 2 * 0 + 0 ≤ _; decide) (hb hbytes d9) (⟨rfl, hA3, ba3, hne, l1, by rw [bs3]; simp, hp⟩)
  obtain ⟨rfl, B6, p6, f6⟩ := E6
  have c7 : Steps p.tables e below (s₁.setTop (entryFrame m #[.ref b, .int (Int32.ofNat o), .int (Int32.ofNat len)] 6)) (T6.setTop (mkF m 12 #[.val (.ref b), .val (.int (Int32.ofNat o)), .val (.int (Int32.ofNat len)), .val (.ref s.heap.size), .unset, .unset] [.int (Int32.ofNat len)])) := g6
  have c8 : Steps p.tables e below (s₁.setTop (entryFrame m #[.ref b, .int (Int32.ofNat o), .int (Int32.ofNat len)] 6)) (T6.setTop (mkF m 58 #[.val (.ref b), .val (.int (Int32.ofNat o)), .val (.int (Int32.ofNat len)), .val (.ref s.heap.size), .val (.int (Int32.ofNat len)), .unset] [.ref s.heap.size])) := c7.trans (by
    refine XS.istore X6.here hexec rfl (hb hbytes d12) rfl rfl ?_
    refine XS.iload X6.here hexec rfl (hb hbytes d14) rfl ?_
    refine XS.iloadN X6.here hexec rfl (hb hbytes d16) rfl ?_
    refine XS.icmpYes X6.here hexec rfl (pc0 := 17) rfl (hb hbytes d17) rfl (ii_eq_t rfl) (by decide) rfl ?_
    refine XS.aloadN X6.here hexec rfl (hb hbytes d57) rfl rfl ?_
    exact Steps.refl _)
  have X8 := X6.wide (L' := []) (cells' := 1) (slots' := len) (fun x hx hlt => by
    simp only [List.nil_append, copyLocs, List.mem_map, List.mem_range] at hx
    obtain ⟨i, -, rfl⟩ := hx
    exact absurd hlt (Nat.lt_irrefl _)) (Nat.le_refl _) (by omega)
  exact ⟨T6, some (.ref s.heap.size), _, _, _, X8, rfl, rfl, rfl, (fun h => by cases h), ⟨⟨rfl, B6, ba3.like (X3.warmed.alike.symm.trans X6.warmed.alike) p6.1 f6.1 f6.2.1 f6.2.2.1, f6.2.1.trans bv3, by rw [X6.warmed.alike.findClass, f6.1]; exact bf3, by rw [f6.2.2.1, bs3]; simp, fun j hj => by rw [f6.2.2.2 j, if_pos (by omega)]; rfl, kp3.put p6 (Nat.le_refl _)⟩, by rw [p6.2.2, bh3, hh0]; simp⟩, fun fs hl => c8.trans (X8.areturnOut hexec rfl hret rfl (hb hbytes d58) hl)⟩
end Cmp3
namespace CodL
def yN : MethodName := ⟨"java/lang/StringUTF16", "coderFromArrayLen", "([BI)B"⟩
abbrev yB : ByteArray := jdk_52_method_15_code
theorem d0 : decode yB 0 = .ok (.iload_n 1, 1) := by decide +kernel
theorem d1 : decode yB 1 = .ok (.aload_n 0, 1) := by decide +kernel
theorem d2 : decode yB 2 = .ok (.arraylength, 1) := by decide +kernel
theorem d3 : decode yB 3 = .ok (.isub, 1) := by decide +kernel
theorem d4 : decode yB 4 = .ok (.bipush 31, 2) := by decide +kernel
theorem d6 : decode yB 6 = .ok (.iushr, 1) := by decide +kernel
theorem d7 : decode yB 7 = .ok (.i2b, 1) := by decide +kernel
theorem d8 : decode yB 8 = .ok (.ireturn, 1) := by decide +kernel
def site : List Cond := []
def tab : Cond := tabOf yN yB 2 (some .byte) site
def P (d : Addr) (B : Cell) (args : Array Value) (s : State) : Prop := args = #[.ref d, .int (Int32.ofNat B.slots.size)] ∧ Arr .byte d B s
def E (r : Option Value) (s u : State) : Prop := XT.PureE (some (.int 0)) r s u
/-- an array as long as the number of chars: LATIN1 -/
theorem law (l : Launch) (d : Addr) (B : Cell) : Law l yN 2 2 0 0 yB 2 (some .byte) site (P d B) E [] 0 0 := by
  refine Law.of_walk (plainFor_of_name (by decide +kernel)) (by decide +kernel) (by decide +kernel) (by decide) (fun _ _ h => by rw [h.1]; rfl) (fun _ U U' hal hh h => ⟨h.1, h.2.mv hal hh⟩) (fun r U U' V V' h1 hal h2 h => XT.PureE.mv r U U' V V' h1 hal h2 h) ?_
  intro p e s m args below meth c s₁ X0 hexec hbytes hml hret hlk hnm hown hh0 W hP
  obtain ⟨rfl, hB⟩ := hP
  have hB0 := hB.mv X0.warmed.alike hh0
  have c1 : Steps p.tables e below (s₁.setTop (entryFrame m #[.ref d, .int (Int32.ofNat B.slots.size)] 2)) (s₁.setTop (mkF m 0 #[.val (.ref d), .val (.int (Int32.ofNat B.slots.size))] [])) := entry rfl
  have c2 : Steps p.tables e below (s₁.setTop (entryFrame m #[.ref d, .int (Int32.ofNat B.slots.size)] 2)) (s₁.setTop (mkF m 2 #[.val (.ref d), .val (.int (Int32.ofNat B.slots.size))] [.ref d, .int (Int32.ofNat B.slots.size)])) := c1.trans (by
    refine XS.iloadN X0.here hexec rfl (hb hbytes d0) rfl ?_
    refine XS.aloadN X0.here hexec rfl (hb hbytes d1) rfl rfl ?_
    exact Steps.refl _)
  have c3 : Steps p.tables e below (s₁.setTop (entryFrame m #[.ref d, .int (Int32.ofNat B.slots.size)] 2)) (s₁.setTop (mkF m 8 #[.val (.ref d), .val (.int (Int32.ofNat B.slots.size))] [.int (lo8 (ushr (Int32.ofNat B.slots.size - Int32.ofNat B.slots.size) 31))])) := c2.trans (by
    refine X0.alen hexec hB0 rfl rfl (hb hbytes d2) ?_
    refine XS.isub X0.here hexec rfl (hb hbytes d3) rfl ?_
    refine bipushV X0.here hexec rfl 31 (hb hbytes d4) (by decide) ?_
    refine iushr X0.here hexec rfl (hb hbytes d6) rfl ?_
    refine i2b X0.here hexec rfl (hb hbytes d7) rfl ?_
    exact Steps.refl _)
  have e0 : lo8 (ushr (Int32.ofNat B.slots.size - Int32.ofNat B.slots.size) 31) = 0 := by rw [Int32.sub_self]; decide
  rw [e0] at c3
  exact ⟨s₁, some (.int 0), _, _, _, X0, rfl, rfl, rfl, (fun h => by cases h), ⟨rfl, hh0⟩, fun fs hl => c3.trans (X0.ireturnOut hexec hret rfl (Or.inr (Or.inr (Or.inl rfl))) (hb hbytes d8) hl)⟩
end CodL
/-- the String at a is Latin-1 over a new byte[] (the heap's one new cell): the low bytes of the len chars of A from o on; every cell but a is kept -/
def Got (a : Addr) (D : Cell) (fV fC : Field) (A : Cell) (o len : Nat) (r : Option Value) (s u : State) : Prop := r = none ∧ ∃ D' V : Cell, Blank "java/lang/String" a D' u ∧ Same D D' [fV.slot, fC.slot] ∧ D'.slots[fV.slot]? = some (.ref s.heap.size) ∧ D'.slots[fC.slot]? = some (.int 0) ∧ Arr .byte s.heap.size V u ∧ V.vm = .none ∧ u.vm.findClass "[B" = some V.cls ∧ V.slots.size = len ∧ (∀ j, j < len → V.slots[j]? = some (.int (lo8 (cv A (o + j))))) ∧ (∀ (y : Addr) (c : Cell), y ≠ a → s.heap[y]? = some c → u.heap[y]? = some c) ∧ u.heap.size = s.heap.size + 1
theorem Got.mv {a : Addr} {D A : Cell} {fV fC : Field} {o len : Nat} : ∀ r (U U' V V' : State), U'.heap = U.heap → V.vm.Alike V'.vm → V'.heap = V.heap → Got a D fV fC A o len r U V → Got a D fV fC A o len r U' V' :=
  fun r U U' V V' h1 hal h2 ⟨e0, D', X, a1, a2, a3, a4, a5, a6, a7, a8, a9, a10, a11⟩ => ⟨e0, D', X, a1.mv hal h2, a2, by rw [h1]; exact a3, a4, by rw [h1]; exact a5.mv hal h2, a6, by rw [hal.findClass]; exact a7, a8, a9, by rw [h1, h2]; exact a10, by rw [h1, h2]; exact a11⟩
namespace New4
def yN : MethodName := ⟨"java/lang/String", "<init>", "([CIILjava/lang/Void;)V"⟩
abbrev yB : ByteArray := jdk_42_method_149_code
theorem d0 : decode yB 0 = .ok (.aload_n 0, 1) := by decide +kernel
theorem d1 : decode yB 1 = .ok (.invokespecial 1, 3) := by decide +kernel
theorem d4 : decode yB 4 = .ok (.iload_n 3, 1) := by decide +kernel
theorem d5 : decode yB 5 = .ok (.ifCond (.ne) 22, 3) := by decide +kernel
theorem d27 : decode yB 27 = .ok (.getstatic 38, 3) := by decide +kernel
theorem d30 : decode yB 30 = .ok (.ifCond (.eq) 28, 3) := by decide +kernel
theorem d33 : decode yB 33 = .ok (.aload_n 1, 1) := by decide +kernel
theorem d34 : decode yB 34 = .ok (.iload_n 2, 1) := by decide +kernel
theorem d35 : decode yB 35 = .ok (.iload_n 3, 1) := by decide +kernel
theorem d36 : decode yB 36 = .ok (.invokestatic 177, 3) := by decide +kernel
theorem d39 : decode yB 39 = .ok (.astore 5, 2) := by decide +kernel
theorem d41 : decode yB 41 = .ok (.aload_n 0, 1) := by decide +kernel
theorem d42 : decode yB 42 = .ok (.aload 5, 2) := by decide +kernel
theorem d44 : decode yB 44 = .ok (.iload_n 3, 1) := by decide +kernel
theorem d45 : decode yB 45 = .ok (.invokestatic 47, 3) := by decide +kernel
theorem d48 : decode yB 48 = .ok (.putfield 15, 3) := by decide +kernel
theorem d51 : decode yB 51 = .ok (.aload_n 0, 1) := by decide +kernel
theorem d52 : decode yB 52 = .ok (.aload 5, 2) := by decide +kernel
theorem d54 : decode yB 54 = .ok (.putfield 9, 3) := by decide +kernel
theorem d57 : decode yB 57 = .ok (.return_, 1) := by decide +kernel
def site : List Cond := [.fieldLink "java/lang/String" 38 "java/lang/String" "COMPACT_STRINGS" "Z", Cmp3.tab, CodL.tab, .laysFinal "java/lang/String" "java/lang/String" "value" "[B", .fieldLink "java/lang/String" 9 "java/lang/String" "value" "[B", .laysFinal "java/lang/String" "java/lang/String" "coder" "B", .fieldLink "java/lang/String" 15 "java/lang/String" "coder" "B"] ++ objW "java/lang/String" 1 ++ staticW "java/lang/String" 177 Cmp3.yN ++ staticW "java/lang/String" 47 CodL.yN
def tab : Cond := tabOf yN yB 6 none site
def P (a : Addr) (D : Cell) (fV fC : Field) (b : Addr) (A : Cell) (z : Int32) (o len : Nat) (args : Array Value) (s : State) : Prop := args = #[.ref a, .ref b, .int (Int32.ofNat o), .int (Int32.ofNat len), .null] ∧ Blank "java/lang/String" a D s ∧ Found "java/lang/String" "value" "[B" fV s ∧ Found "java/lang/String" "coder" "B" fC s ∧ Ch b A s ∧ StaticIs s "java/lang/String" "COMPACT_STRINGS" "Z" (.int z) ∧ ¬ z = 0 ∧ 0 < len ∧ o + len ≤ A.slots.size ∧ len ≤ 536870912 ∧ ∀ i, i < len → ¬ 255 < cv A (o + i)
def E (a : Addr) (D : Cell) (fV fC : Field) (A : Cell) (o len : Nat) (r : Option Value) (s u : State) : Prop := Got a D fV fC A o len r s u
/-- len > 0, no char of the range above 255: a Latin-1 String of their low bytes -/
theorem law (l : Launch) (a : Addr) (D : Cell) (fV fC : Field) (b : Addr) (A : Cell) (z : Int32) (o len : Nat) : Law l yN 5 4 2 35 yB 6 none site (P a D fV fC b A z o len) (E a D fV fC A o len) [⟨a, fC.slot⟩, ⟨a, fV.slot⟩] 1 len := by
  refine Law.of_walk (plainFor_of_name (by decide +kernel)) (by decide +kernel) (by decide +kernel) (by decide) (fun _ _ h => by rw [h.1]; rfl) (fun _ U U' hal hh h => ⟨h.1, h.2.1.mv hal hh, h.2.2.1.al hal, h.2.2.2.1.al hal, h.2.2.2.2.1.mv hal hh, h.2.2.2.2.2.1.there hal hh, h.2.2.2.2.2.2⟩) (fun r U U' V V' h1 hal h2 h => Got.mv r U U' V V' h1 hal h2 h) ?_
  intro p e s m args below meth c s₁ X0 hexec hbytes hml hret hlk hnm hown hh0 W hP
  obtain ⟨rfl, hB, f1, f2, hA, s1, hz, l0, l1, l2, hp⟩ := hP
  have a31 := hA.1.2.2.2
  have c1 : Steps p.tables e below (s₁.setTop (entryFrame m #[.ref a, .ref b, .int (Int32.ofNat o), .int (Int32.ofNat len), .null] 6)) (s₁.setTop (mkF m 0 #[.val (.ref a), .val (.ref b), .val (.int (Int32.ofNat o)), .val (.int (Int32.ofNat len)), .val .null, .unset] [])) := entry rfl
  have c2 : Steps p.tables e below (s₁.setTop (entryFrame m #[.ref a, .ref b, .int (Int32.ofNat o), .int (Int32.ofNat len), .null] 6)) (s₁.setTop (mkF m 1 #[.val (.ref a), .val (.ref b), .val (.int (Int32.ofNat o)), .val (.int (Int32.ofNat len)), .val .null, .unset] [.ref a])) := c1.trans (by
    refine XS.aloadN X0.here hexec rfl (hb hbytes d0) rfl rfl ?_
    exact Steps.refl _)
  obtain ⟨T3, X3, q3, st3⟩ := X0.oinit hexec hown (wks W (objW "java/lang/String" 1)) (g := (mkF m 1 #[.val (.ref a), .val (.ref b), .val (.int (Int32.ofNat o)), .val (.int (Int32.ofNat len)), .val .null, .unset] [.ref a])) rfl (by rw [hml]; rfl) (rest := []) rfl (hb hbytes d1) (W := 0) (by show 2 * 0 + 0 ≤ _; decide) (Nat.le_of_ble_eq_true rfl) (Nat.le_of_ble_eq_true rfl)
  have hh3 := q3.trans hh0
  have c4 : Steps p.tables e below (s₁.setTop (entryFrame m #[.ref a, .ref b, .int (Int32.ofNat o), .int (Int32.ofNat len), .null] 6)) (T3.setTop (mkF m 27 #[.val (.ref a), .val (.ref b), .val (.int (Int32.ofNat o)), .val (.int (Int32.ofNat len)), .val .null, .unset] [])) := (c2.trans (st3 _ (Steps.refl _))).trans (by
    refine XS.iloadN X3.here hexec rfl (hb hbytes d4) rfl ?_
    refine XS.ifYes X3.here hexec rfl (pc0 := 5) rfl (hb hbytes d5) rfl (i0_ne_t (nz32 (by omega) l0)) (by decide) rfl ?_
    exact Steps.refl _)
  obtain ⟨T5, X5, q5, st5⟩ := X3.sget hexec hown (wk W (.fieldLink "java/lang/String" 38 "java/lang/String" "COMPACT_STRINGS" "Z")) s1 (fun _ _ h => by rw [hh3]; exact h) (g := (mkF m 27 #[.val (.ref a), .val (.ref b), .val (.int (Int32.ofNat o)), .val (.int (Int32.ofNat len)), .val .null, .unset] [])) rfl (hb hbytes d27)
  have hh5 := q5.trans hh3
  have c6 : Steps p.tables e below (s₁.setTop (entryFrame m #[.ref a, .ref b, .int (Int32.ofNat o), .int (Int32.ofNat len), .null] 6)) (T5.setTop (mkF m 30 #[.val (.ref a), .val (.ref b), .val (.int (Int32.ofNat o)), .val (.int (Int32.ofNat len)), .val .null, .unset] [.int z])) := c4.trans (st5 _ (Steps.refl _))
  have c7 : Steps p.tables e below (s₁.setTop (entryFrame m #[.ref a, .ref b, .int (Int32.ofNat o), .int (Int32.ofNat len), .null] 6)) (T5.setTop (mkF m 36 #[.val (.ref a), .val (.ref b), .val (.int (Int32.ofNat o)), .val (.int (Int32.ofNat len)), .val .null, .unset] [.int (Int32.ofNat len), .int (Int32.ofNat o), .ref b])) := c6.trans (by
    refine XS.ifNo X5.here hexec rfl (hb hbytes d30) rfl (i0_eq_f hz) ?_
    refine XS.aloadN X5.here hexec rfl (hb hbytes d33) rfl rfl ?_
    refine XS.iloadN X5.here hexec rfl (hb hbytes d34) rfl ?_
    refine XS.iloadN X5.here hexec rfl (hb hbytes d35) rfl ?_
    exact Steps.refl _)
  obtain ⟨v8, T8, X8, E8, g8⟩ := X5.callS hexec (Cmp3.law l b A o len) hown (wks W (staticW "java/lang/String" 177 Cmp3.yN)) (wk W Cmp3.tab) (W := 0) (Nat.le_of_ble_eq_true rfl) (Nat.le_of_ble_eq_true rfl) (Nat.le_refl _) (by show 0 + len ≤ len; omega) (g := (mkF m 36 #[.val (.ref a), .val (.ref b), .val (.int (Int32.ofNat o)), .val (.int (Int32.ofNat len)), .val .null, .unset] [.int (Int32.ofNat len), .int (Int32.ofNat o), .ref b])) rfl (by rw [hml]; rfl) c7 (argsL := [.ref b, .int (Int32.ofNat o), .int (Int32.ofNat len)]) (rest := []) rfl rfl (by show 2 * 0 + 0 ≤ _; decide) (hb hbytes d36) (⟨rfl, hA.mv X5.warmed.alike hh5, l1, l2, hp⟩)
  obtain ⟨e8, z8⟩ := E8
  obtain ⟨rfl, N, n1, n2, n3, n4, n5, n6⟩ := NewArr.mv _ T5 s _ _ hh5.symm (Vm.Alike.refl _) rfl e8
  rw [hh5] at z8
  have hB1 := hB.keep X8.warmed.alike (n6 _ _ hB.1)
  have hne : s.heap.size ≠ a := (Nat.ne_of_lt (Array.getElem?_eq_some_iff.mp hB.1).1).symm
  have c9 : Steps p.tables e below (s₁.setTop (entryFrame m #[.ref a, .ref b, .int (Int32.ofNat o), .int (Int32.ofNat len), .null] 6)) (T8.setTop (mkF m 39 #[.val (.ref a), .val (.ref b), .val (.int (Int32.ofNat o)), .val (.int (Int32.ofNat len)), .val .null, .unset] [.ref s.heap.size])) := g8
  have c10 : Steps p.tables e below (s₁.setTop (entryFrame m #[.ref a, .ref b, .int (Int32.ofNat o), .int (Int32.ofNat len), .null] 6)) (T8.setTop (mkF m 45 #[.val (.ref a), .val (.ref b), .val (.int (Int32.ofNat o)), .val (.int (Int32.ofNat len)), .val .null, .val (.ref s.heap.size)] [.int (Int32.ofNat N.slots.size), .ref s.heap.size, .ref a])) := by
    have hc : Steps p.tables e below (s₁.setTop (entryFrame m #[.ref a, .ref b, .int (Int32.ofNat o), .int (Int32.ofNat len), .null] 6)) (T8.setTop (mkF m 45 #[.val (.ref a), .val (.ref b), .val (.int (Int32.ofNat o)), .val (.int (Int32.ofNat len)), .val .null, .val (.ref s.heap.size)] [.int (Int32.ofNat len), .ref s.heap.size, .ref a])) := c9.trans (by
      refine XS.astore X8.here hexec rfl (hb hbytes d39) rfl rfl rfl ?_
      refine XS.aloadN X8.here hexec rfl (hb hbytes d41) rfl rfl ?_
      refine XS.aload X8.here hexec rfl (hb hbytes d42) rfl rfl ?_
      refine XS.iloadN X8.here hexec rfl (hb hbytes d44) rfl ?_
      exact Steps.refl _)
    rw [n4]; exact hc
  obtain ⟨v11, T11, X11, E11, g11⟩ := X8.callS hexec (CodL.law l s.heap.size N) hown (wks W (staticW "java/lang/String" 47 CodL.yN)) (wk W CodL.tab) (W := 1) (Nat.le_of_ble_eq_true rfl) (Nat.le_of_ble_eq_true rfl) (Nat.le_refl _) (by show 0 + len + 0 ≤ len; omega) (g := (mkF m 45 #[.val (.ref a), .val (.ref b), .val (.int (Int32.ofNat o)), .val (.int (Int32.ofNat len)), .val .null, .val (.ref s.heap.size)] [.int (Int32.ofNat N.slots.size), .ref s.heap.size, .ref a])) rfl (by rw [hml]; rfl) c10 (argsL := [.ref s.heap.size, .int (Int32.ofNat N.slots.size)]) (rest := [.ref a]) rfl rfl (by show 2 * 0 + (1 + 0) ≤ _; decide) (hb hbytes d45) (⟨rfl, n1⟩)
  obtain ⟨rfl, q11⟩ := E11
  have hB11 := hB1.mv (X8.warmed.alike.symm.trans X11.warmed.alike) q11
  have c12 : Steps p.tables e below (s₁.setTop (entryFrame m #[.ref a, .ref b, .int (Int32.ofNat o), .int (Int32.ofNat len), .null] 6)) (T11.setTop (mkF m 48 #[.val (.ref a), .val (.ref b), .val (.int (Int32.ofNat o)), .val (.int (Int32.ofNat len)), .val .null, .val (.ref s.heap.size)] [.int 0, .ref a])) := g11
  obtain ⟨T13, X13, p13, bl13, sl13, st13⟩ := X11.finit hexec hown (wk W (.fieldLink "java/lang/String" 15 "java/lang/String" "coder" "B")) (Or.inr ⟨_, (wk W (.laysFinal "java/lang/String" "java/lang/String" "coder" "B"))⟩) (Or.inl ⟨rfl, hnm⟩) f2 (Or.inl rfl) hB11 (t := .byte) (by decide +kernel) rfl (g := (mkF m 48 #[.val (.ref a), .val (.ref b), .val (.int (Int32.ofNat o)), .val (.int (Int32.ofNat len)), .val .null, .val (.ref s.heap.size)] [.int 0, .ref a])) rfl (rest := []) rfl (hb hbytes d48)
  have c14 : Steps p.tables e below (s₁.setTop (entryFrame m #[.ref a, .ref b, .int (Int32.ofNat o), .int (Int32.ofNat len), .null] 6)) (T13.setTop (mkF m 54 #[.val (.ref a), .val (.ref b), .val (.int (Int32.ofNat o)), .val (.int (Int32.ofNat len)), .val .null, .val (.ref s.heap.size)] [.ref s.heap.size, .ref a])) := (c12.trans (st13 _ (Steps.refl _))).trans (by
    refine XS.aloadN X13.here hexec rfl (hb hbytes d51) rfl rfl ?_
    refine XS.aload X13.here hexec rfl (hb hbytes d52) rfl rfl ?_
    exact Steps.refl _)
  obtain ⟨T15, X15, p15, bl15, sl15, st15⟩ := X13.finit hexec hown (wk W (.fieldLink "java/lang/String" 9 "java/lang/String" "value" "[B")) (Or.inr ⟨_, (wk W (.laysFinal "java/lang/String" "java/lang/String" "value" "[B"))⟩) (Or.inl ⟨rfl, hnm⟩) f1 (Or.inl rfl) bl13 (t := (.array .byte)) (by decide +kernel) rfl (g := (mkF m 54 #[.val (.ref a), .val (.ref b), .val (.int (Int32.ofNat o)), .val (.int (Int32.ofNat len)), .val .null, .val (.ref s.heap.size)] [.ref s.heap.size, .ref a])) rfl (rest := []) rfl (hb hbytes d54)
  have c16 : Steps p.tables e below (s₁.setTop (entryFrame m #[.ref a, .ref b, .int (Int32.ofNat o), .int (Int32.ofNat len), .null] 6)) (T15.setTop (mkF m 57 #[.val (.ref a), .val (.ref b), .val (.int (Int32.ofNat o)), .val (.int (Int32.ofNat len)), .val .null, .val (.ref s.heap.size)] [])) := c14.trans (st15 _ (Steps.refl _))
  have ap := apart (Or.inr ⟨_, (wk W (.laysFinal "java/lang/String" "java/lang/String" "value" "[B"))⟩) (Or.inr ⟨_, (wk W (.laysFinal "java/lang/String" "java/lang/String" "coder" "B"))⟩) f1 f2 (t₁ := .array .byte) (t₂ := .byte) (by decide +kernel) (by decide +kernel) (by decide)
  have al := X8.warmed.alike.symm.trans X15.warmed.alike
  have n7 : T11.heap[s.heap.size]? = some N := by rw [q11]; exact n1.1
  exact ⟨T15, none, _, _, _, X15, by simp, rfl, by omega, (fun _ => rfl), ⟨rfl, _, N, bl15, ((Same.refl D _).set _ (by simp)).set _ (by simp), sl15, (Cell.slots_setSlot_ne _ ap).trans sl13, n1.keep al (p15.other hne (p13.other hne n7)), n2, by rw [al.findClass]; exact n3, n4, n5, fun y c h1 h2 => p15.other h1 (p13.other h1 (by rw [q11]; exact n6 y c h2)), by rw [p15.2.2, p13.2.2, q11]; exact z8⟩, fun fs hl => c16.trans (X15.returnOut hexec hret (hb hbytes d57) hl)⟩
end New4
namespace New1
def yN : MethodName := ⟨"java/lang/String", "<init>", "([C)V"⟩
abbrev yB : ByteArray := jdk_42_method_3_code
theorem d0 : decode yB 0 = .ok (.aload_n 0, 1) := by decide +kernel
theorem d1 : decode yB 1 = .ok (.aload_n 1, 1) := by decide +kernel
theorem d2 : decode yB 2 = .ok (.iconst 0, 1) := by decide +kernel
theorem d3 : decode yB 3 = .ok (.aload_n 1, 1) := by decide +kernel
theorem d4 : decode yB 4 = .ok (.arraylength, 1) := by decide +kernel
theorem d5 : decode yB 5 = .ok (.aconst_null, 1) := by decide +kernel
theorem d6 : decode yB 6 = .ok (.invokespecial 27, 3) := by decide +kernel
theorem d9 : decode yB 9 = .ok (.return_, 1) := by decide +kernel
def site : List Cond := [New4.tab] ++ initW "java/lang/String" 27 New4.yN
def tab : Cond := tabOf yN yB 2 none site
def P (a : Addr) (D : Cell) (fV fC : Field) (b : Addr) (A : Cell) (z : Int32) (args : Array Value) (s : State) : Prop := args = #[.ref a, .ref b] ∧ Blank "java/lang/String" a D s ∧ Found "java/lang/String" "value" "[B" fV s ∧ Found "java/lang/String" "coder" "B" fC s ∧ Ch b A s ∧ StaticIs s "java/lang/String" "COMPACT_STRINGS" "Z" (.int z) ∧ ¬ z = 0 ∧ 0 < A.slots.size ∧ A.slots.size ≤ 536870912 ∧ ∀ i, i < A.slots.size → ¬ 255 < cv A i
def E (a : Addr) (D : Cell) (fV fC : Field) (A : Cell) (r : Option Value) (s u : State) : Prop := Got a D fV fC A 0 A.slots.size r s u
/-- new String(chars), not empty, no char above 255: a Latin-1 String of their low bytes -/
theorem law (l : Launch) (a : Addr) (D : Cell) (fV fC : Field) (b : Addr) (A : Cell) (z : Int32) : Law l yN 2 1 3 52 yB 2 none site (P a D fV fC b A z) (E a D fV fC A) [⟨a, fC.slot⟩, ⟨a, fV.slot⟩] 1 A.slots.size := by
  refine Law.of_walk (plainFor_of_name (by decide +kernel)) (by decide +kernel) (by decide +kernel) (by decide) (fun _ _ h => by rw [h.1]; rfl) (fun _ U U' hal hh h => ⟨h.1, h.2.1.mv hal hh, h.2.2.1.al hal, h.2.2.2.1.al hal, h.2.2.2.2.1.mv hal hh, h.2.2.2.2.2.1.there hal hh, h.2.2.2.2.2.2⟩) (fun r U U' V V' h1 hal h2 h => Got.mv r U U' V V' h1 hal h2 h) ?_
  intro p e s m args below meth c s₁ X0 hexec hbytes hml hret hlk hnm hown hh0 W hP
  obtain ⟨rfl, hB, f1, f2, hA, s1, hz, l0, l2, hp⟩ := hP
  have c1 : Steps p.tables e below (s₁.setTop (entryFrame m #[.ref a, .ref b] 2)) (s₁.setTop (mkF m 0 #[.val (.ref a), .val (.ref b)] [])) := entry rfl
  have c2 : Steps p.tables e below (s₁.setTop (entryFrame m #[.ref a, .ref b] 2)) (s₁.setTop (mkF m 6 #[.val (.ref a), .val (.ref b)] [.null, .int (Int32.ofNat A.slots.size), .int 0, .ref b, .ref a])) := c1.trans (by
    refine XS.aloadN X0.here hexec rfl (hb hbytes d0) rfl rfl ?_
    refine XS.aloadN X0.here hexec rfl (hb hbytes d1) rfl rfl ?_
    refine iconstV X0.here hexec rfl 0 (hb hbytes d2) (by decide) ?_
    refine XS.aloadN X0.here hexec rfl (hb hbytes d3) rfl rfl ?_
    refine X0.alen hexec (hA.1.mv X0.warmed.alike hh0) rfl rfl (hb hbytes d4) ?_
    refine XS.aconstNull X0.here hexec rfl (hb hbytes d5) ?_
    exact Steps.refl _)
  obtain ⟨v3, T3, X3, E3, g3⟩ := X0.callN hexec (New4.law l a D fV fC b A z 0 A.slots.size) rfl hown (wks W (initW "java/lang/String" 27 New4.yN)) (W New4.tab (by simp only [site, List.mem_cons, List.mem_append, true_or, or_true])) (W := 0) (Nat.le_of_ble_eq_true rfl) (Nat.le_of_ble_eq_true rfl) (Nat.le_refl _) (by show 0 + A.slots.size ≤ A.slots.size; omega) (g := (mkF m 6 #[.val (.ref a), .val (.ref b)] [.null, .int (Int32.ofNat A.slots.size), .int (Int32.ofNat 0), .ref b, .ref a])) rfl (by rw [hml]; rfl) c2 (argsL := [.ref b, .int (Int32.ofNat 0), .int (Int32.ofNat A.slots.size), .null]) (rest := []) rfl rfl (by show 2 * 0 + 0 ≤ _; decide) (hb hbytes d6) (⟨rfl, hB.mv X0.warmed.alike hh0, f1.al X0.warmed.alike, f2.al X0.warmed.alike, hA.mv X0.warmed.alike hh0, s1.there X0.warmed.alike hh0, hz, l0, by omega, l2, fun i hi => by rw [Nat.zero_add]; exact hp i hi⟩)
  have e0 := Got.mv _ s₁ s _ _ hh0.symm (Vm.Alike.refl _) rfl E3
  obtain rfl := e0.1
  have c4 : Steps p.tables e below (s₁.setTop (entryFrame m #[.ref a, .ref b] 2)) (T3.setTop (mkF m 9 #[.val (.ref a), .val (.ref b)] [])) := g3
  exact ⟨T3, none, _, _, _, X3, by simp, rfl, by omega, (fun _ => rfl), e0, fun fs hl => c4.trans (X3.returnOut hexec hret (hb hbytes d9) hl)⟩
theorem pays {l : Launch} {R : Room} {p : Program} {e : Env} {below : List Frame} {s : State} {sargs : Array Value} {len W : Nat} (a : Addr) (D : Cell) (fV fC : Field) (b : Addr) (A : Cell) (z : Int32) (htab : tab.before sargs s = true) (hfr : 4 ≤ R.frames) (hlo : W + 65 ≤ R.locals) :
    Back l R p e below s sargs yN len W (fun A₁ a₁ => A₁.cells + 1 ≤ R.cells ∧ A₁.slots + A.slots.size ≤ R.slots ∧ P a D fV fC b A z a₁ A₁.U) (fun A₁ _ v₁ B₁ => E a D fV fC A v₁ A₁.U B₁.U ∧ B₁.locs = A₁.locs ++ [⟨a, fC.slot⟩, ⟨a, fV.slot⟩] ∧ B₁.cells = A₁.cells + 1 ∧ B₁.slots = A₁.slots + A.slots.size) :=
  (law l a D fV fC b A z).pays htab hfr (by omega)
end New1
/-- the byte, read back as charAt reads it, is the char -/
theorem lo8_mask {x : Int32} (h0 : ¬ x < 0) (h1 : ¬ 255 < x) : lo8 x &&& 255 = x := by
  have t : ∀ k : Fin 256, lo8 (Int32.ofNat k.val) &&& 255 = Int32.ofNat k.val := by decide +kernel
  rw [Int32.lt_iff_toInt_lt] at h0 h1
  have e0 : (0 : Int32).toInt = 0 := rfl
  have e1 : (255 : Int32).toInt = 255 := rfl
  obtain ⟨k, hk⟩ : ∃ k : Nat, x.toInt = k := ⟨x.toInt.toNat, by omega⟩
  have hx : x = Int32.ofNat k := Int32.toInt_inj.mp (by rw [hk, Int32.toInt_ofNat_small (by omega)])
  rw [hx]
  exact t ⟨k, by omega⟩
end StrChars
namespace StrChars.Road
open Jvm Sem ClassFile Op Lib Jvm.Stand Jvm.Free Jvm.Free.XT
open Jvm.Lib.Cold (StaticIs)
abbrev ST : String := "java/lang/String"
/-- every table word that New1's law asks, flat -/
abbrev words : List Jvm.Cond := [.code New1.yN New1.yB 2 none, .initialized ST, .methodLink ST 27 New4.yN, .instanceMethod New4.yN,
  .code New4.yN New4.yB 6 none, .fieldLink ST 38 ST "COMPACT_STRINGS" "Z", .laysFinal ST ST "value" "[B", .fieldLink ST 9 ST "value" "[B", .laysFinal ST ST "coder" "B", .fieldLink ST 15 ST "coder" "B",
  .methodLink ST 1 Lib.objectInit, .instanceMethod Lib.objectInit, .code Lib.objectInit ⟨#[0xb1]⟩ 1 none, .methodLink ST 177 Cmp3.yN, .static Cmp3.yN, .methodLink ST 47 CodL.yN, .static CodL.yN,
  .code Cmp3.yN Cmp3.yB 6 (some (.array .byte)), .initialized U16, .arrayClass .byte, .methodLink U16 115 Cmp5.yN, .static Cmp5.yN, .code Cmp5.yN Cmp5.yB 7 (some .int), .code CodL.yN CodL.yB 2 (some .byte)]
theorem tab_of {a : Array Value} {s : State} (h : ∀ w ∈ words, w.before a s = true) : New1.tab.before a s = true := by
  have h5 : Cmp5.tab.before a s = true := unparts (wk h (.code Cmp5.yN Cmp5.yB 7 (some .int))) (wks h (.initialized Cmp5.yN.cls :: Cmp5.site))
  have hc : CodL.tab.before a s = true := unparts (wk h (.code CodL.yN CodL.yB 2 (some .byte))) (wks h (.initialized CodL.yN.cls :: CodL.site))
  have q5 : ∀ w ∈ Cmp5.tab :: words, w.before a s = true := fun w hw => (List.mem_cons.mp hw).elim (fun e => e ▸ h5) (h w)
  have h3 : Cmp3.tab.before a s = true := unparts (wk q5 (.code Cmp3.yN Cmp3.yB 6 (some (.array .byte)))) (wks q5 (.initialized Cmp3.yN.cls :: Cmp3.site))
  have q3 : ∀ w ∈ Cmp3.tab :: CodL.tab :: words, w.before a s = true := fun w hw => (List.mem_cons.mp hw).elim (fun e => e ▸ h3) fun hw => (List.mem_cons.mp hw).elim (fun e => e ▸ hc) (h w)
  have h4 : New4.tab.before a s = true := unparts (wk q3 (.code New4.yN New4.yB 6 none)) (wks q3 (.initialized New4.yN.cls :: New4.site))
  have q4 : ∀ w ∈ New4.tab :: words, w.before a s = true := fun w hw => (List.mem_cons.mp hw).elim (fun e => e ▸ h4) (h w)
  exact unparts (wk q4 (.code New1.yN New1.yB 2 none)) (wks q4 (.initialized New1.yN.cls :: New1.site))
/-- the words ride from the start Z to the walk's own state -/
theorem moved {Z s : State} {a0 args : Array Value} (hZ : Z.Warmed39 s.vm) (hw : ∀ d ∈ words, d.before a0 Z = true) : ∀ d ∈ words, d.before args s = true := fun d hd => by
  have q := hw d hd
  have t : ∀ d ∈ words, d = .arrayClass .byte ∨ (d.onTables && d.keepsFace) = true := by decide +kernel
  rcases t d hd with rfl | t
  · exact RoadKit.mvA hZ q
  · exact RoadKit.mv hZ q t
/-- WHAT COMES BACK, over the tables of the start Z: h the heap at the call, h' behind it -/
def Q (Z : State) (x : Addr) (A : Cell) (h : Heap) (v : Option Value) (h' : Heap) (L : List Loc) : Prop := v = none ∧ (∀ y ∈ L, y.base = x) ∧ RoadKit.Keep h h' [x] ∧ h'.size = h.size + 1 ∧ RoadKit.Exa Z h' x ST ∧ RoadKit.Fld Z h' x ST "value" "[B" (.ref h.size) ∧ RoadKit.Fld Z h' x ST "coder" "B" (.int 0) ∧
  (∃ V : Cell, RoadKit.Arr Z h' h.size V .byte ∧ V.vm = .none ∧ Z.vm.findClass "[B" = some V.cls ∧ V.slots.size = A.slots.size ∧ ∀ j, j < A.slots.size → V.slots[j]? = some (.int (lo8 (cv A j)))) ∧
  ∀ (O n d : String) (w : Value), RoadKit.Fld Z h x O n d w → RoadKit.slotOf Z O n d ≠ RoadKit.slotOf Z ST "value" "[B" → RoadKit.slotOf Z O n d ≠ RoadKit.slotOf Z ST "coder" "B" → RoadKit.Fld Z h' x O n d w
/-- **new String(chars) AT A CALL, IN THE ROAD'S FORM**: for specialBack behind newO: x the fresh String, b the char[] with the cell A -/
theorem back {p : Program} {l : Launch} {e : Env} {R : Room} {s : State} {args : Array Value} {below : List Frame} {len W : Nat} {Z : State} {a0 : Array Value} {h : Heap} (hZ : Z.Warmed39 s.vm) (hw : ∀ d ∈ words, d.before a0 Z = true) {kI : Nat} (wi : (Jvm.Cond.instantiable ST kI).before a0 Z = true)
    {x b : Addr} {A : Cell} {z : Int32} {v0 c0 : Value} (E : RoadKit.Exa Z h x ST) (V : RoadKit.Fld Z h x ST "value" "[B" v0) (C : RoadKit.Fld Z h x ST "coder" "B" c0) (K : RoadKit.Arr Z h b A .char) (hty : Typed .char A) (S : RoadKit.Sta Z h ST "COMPACT_STRINGS" "Z" (.int z)) (hz : ¬ z = 0)
    (l0 : 0 < A.slots.size) (l2 : A.slots.size ≤ 536870912) (hp : ∀ i, i < A.slots.size → ¬ 255 < cv A i) (hfr : 4 ≤ R.frames) (hlo : W + 65 ≤ R.locals) :
    Back l R p e below s args New1.yN len W (fun P a => a = #[.ref x, .ref b] ∧ P.U.heap = h ∧ P.cells + 1 ≤ R.cells ∧ P.slots + A.slots.size ≤ R.slots)
      (fun P _ v B => ∃ L, Q Z x A h v B.U.heap L ∧ B.locs = P.locs ++ L ∧ B.cells = P.cells + 1 ∧ B.slots = P.slots + A.slots.size) := by
  intro m meth c P g ig mk a X hg hsize hdg hW hn hp'
  obtain ⟨rfl, rfl, r1, r2⟩ := hp'
  have al : Z.vm.Alike P.U.vm := hZ.alike.trans X.warmed.alike
  obtain ⟨D, cfV, kV, iV, fV, hD, gV, stV, knV, obV, asV, slV⟩ := id V
  obtain ⟨D', cfC, kC, iC, fC, hD', gC, stC, -, -, asC, slC⟩ := id C
  cases hD.symm.trans hD'
  obtain ⟨D2, kD, e1, e2, e3, e4, e5⟩ := id E
  cases hD.symm.trans e1
  obtain ⟨c2, k2, i1, i2, i3, -⟩ := Cond.instantiable_spec wi
  cases e2.symm.trans i1
  cases e3.symm.trans i2
  obtain ⟨kU, u1, u2⟩ := al.2.2 _ _ e3
  have hB : Blank ST x D P.U := ⟨hD, ⟨knV, fun q hq => by rw [hq] at obV; cases obV⟩, by rw [al.findClass]; exact e2, kU, u1, by rw [u2]; exact i3, by rw [u2]; exact e5 i3⟩
  have F1 : Found ST "value" "[B" fV P.U := ⟨SBG.found_only al ⟨cfV, kV, iV, gV⟩, stV⟩
  have F2 : Found ST "coder" "B" fC P.U := ⟨SBG.found_only al ⟨cfC, kC, iC, gC⟩, stC⟩
  have hA : Ch b A P.U := ⟨⟨K.1, State.isArrayOf_alike al K.2.1, K.2.2, by omega⟩, hty⟩
  have hS : StaticIs P.U ST "COMPACT_STRINGS" "Z" (.int z) := by
    obtain ⟨cfS, iS, kS, fS, st, cS, t1, t2, t3, t4, t5, t6, t7⟩ := S
    exact StaticIs.there (s := { Z with heap := P.U.heap }) ⟨cfS, iS, kS, fS, st, cS, t1, t2, t3, t4, t5, (fun q => by rw [q] at t6; cases t6), t7⟩ al rfl
  obtain ⟨v, B, X', ⟨⟨hv, E', V', q1, q2, q3, q4, q5, q6, q7, q8, q9, q10, q11⟩, hl, hc, hs⟩, st⟩ := New1.pays x D fV fC b A z (tab_of (moved hZ hw)) hfr hlo m meth c P g ig mk _ X hg hsize hdg hW hn ⟨r1, r2, rfl, hB, F1, F2, hA, hS, hz, l0, l2, hp⟩
  have al' : Z.vm.Alike B.U.vm := hZ.alike.trans X'.warmed.alike
  have hsz : E'.slots.size = D.slots.size := by
    obtain ⟨-, -, -, kB, w1, w2, w3⟩ := q1
    obtain ⟨kB', y1, y2⟩ := al'.2.2 _ _ e3
    rw [q2.2.1] at w1
    cases w1.symm.trans y1
    rw [w3, e5 i3, y2]
  refine ⟨v, B, X', ⟨_, ⟨hv, ?_, ⟨by omega, fun y cy hy hn' => q10 y cy (by simpa using hn') hy, fun y cy hy => ?_⟩, q11, ⟨E', _, q1.1, by rw [q2.2.1]; exact e2, by rw [q2.2.1]; exact e3, by rw [q2.1]; exact obV, fun _ => by rw [hsz]; exact e5 i3⟩,
    ⟨E', cfV, kV, iV, fV, q1.1, gV, stV, by rw [q2.1]; exact knV, by rw [q2.1]; exact obV, by rw [q2.2.1]; exact asV, q3⟩, ⟨E', cfC, kC, iC, fC, q1.1, gC, stC, by rw [q2.1]; exact knV, by rw [q2.1]; exact obV, by rw [q2.2.1]; exact asC, q4⟩,
    ⟨V', ⟨q5.1, State.isArrayOf_alike al'.symm q5.2.1, q5.2.2.1⟩, q6, by rw [← al'.findClass]; exact q7, q8, fun j hj => by have := q9 j hj; rwa [Nat.zero_add] at this⟩, fun O n d w F n1 n2 => ?_⟩, hl, hc, hs⟩, st⟩
  · intro y hy
    simp only [List.mem_cons, List.not_mem_nil, or_false] at hy
    rcases hy with rfl | rfl <;> rfl
  · by_cases q : y = x
    · subst q
      cases hD.symm.trans hy
      exact ⟨E', q1.1, q2.2.1, q2.1, hsz⟩
    · exact ⟨cy, q10 y cy q hy, rfl, rfl, rfl⟩
  · obtain ⟨D3, cf, k, i, f, g1, g2, g3, g4, g5, g6, g7⟩ := F
    cases hD.symm.trans g1
    simp only [RoadKit.slotOf, g2, gV, gC, Option.map_some, Option.getD_some] at n1 n2
    exact ⟨E', cf, k, i, f, q1.1, g2, g3, by rw [q2.1]; exact g4, by rw [q2.1]; exact g5, by rw [q2.2.1]; exact g6, by rw [q2.2.2 f.slot (by simp [n1, n2])]; exact g7⟩
end StrChars.Road
namespace StrChars.Road
open Jvm Sem ClassFile Op Lib Jvm.Stand Jvm.Free Jvm.Free.XT
/-- WHAT COMES BACK, the byte[] as a list of values -/
def QA (Z : State) (x : Addr) (zn : Int32) (cs : List Int32) (h : Heap) (v : Option Value) (h' : Heap) (L : List Loc) : Prop := v = none ∧ (∀ y ∈ L, y.base = x) ∧ RoadKit.Keep h h' [x] ∧ h'.size = h.size + 1 ∧ RoadKit.Exa Z h' x ST ∧ RoadKit.Fld Z h' x ST "value" "[B" (.ref h.size) ∧ RoadKit.Fld Z h' x ST "coder" "B" (.int 0) ∧
  (∃ kb, Z.vm.findClass "[B" = some kb ∧ RoadKit.Arv Z h' h.size kb .byte zn (cs.map fun c => .int (lo8 c)) (.int 0)) ∧
  ∀ (O n d : String) (w : Value), RoadKit.Fld Z h x O n d w → RoadKit.slotOf Z O n d ≠ RoadKit.slotOf Z ST "value" "[B" → RoadKit.slotOf Z O n d ≠ RoadKit.slotOf Z ST "coder" "B" → RoadKit.Fld Z h' x O n d w
/-- **new String(chars) AT A CALL, THE ARRAYS AS LISTS**: the char[] at b holds cs, not empty, no char above 255 -/
theorem backArv {p : Program} {l : Launch} {e : Env} {R : Room} {s : State} {args : Array Value} {below : List Frame} {len W : Nat} {Z : State} {a0 : Array Value} {h : Heap} (hZ : Z.Warmed39 s.vm) (hw : ∀ d ∈ words, d.before a0 Z = true) {kI : Nat} (wi : (Jvm.Cond.instantiable ST kI).before a0 Z = true)
    {x b : Addr} {k : ClassId} {zn z : Int32} {cs : List Int32} {dv v0 c0 : Value} (E : RoadKit.Exa Z h x ST) (V : RoadKit.Fld Z h x ST "value" "[B" v0) (C : RoadKit.Fld Z h x ST "coder" "B" c0) (K : RoadKit.Arv Z h b k .char zn (cs.map Value.int) dv) (S : RoadKit.Sta Z h ST "COMPACT_STRINGS" "Z" (.int z)) (hz : ¬ z = 0)
    (hlen : zn.toNatClampNeg = cs.length) (h0 : 0 < cs.length) (hbig : cs.length ≤ 536870912) (hall : ∀ c ∈ cs, ¬ 255 < c) (hfr : 4 ≤ R.frames) (hlo : W + 65 ≤ R.locals) :
    Back l R p e below s args New1.yN len W (fun P a => a = #[.ref x, .ref b] ∧ P.U.heap = h ∧ P.cells + 1 ≤ R.cells ∧ P.slots + cs.length ≤ R.slots)
      (fun P _ v B => ∃ L, QA Z x zn cs h v B.U.heap L ∧ B.locs = P.locs ++ L ∧ B.cells = P.cells + 1 ∧ B.slots = P.slots + cs.length) := by
  obtain ⟨A, K1, K2, K3, K4, K5, K6⟩ := K
  have e : A.slots.size = cs.length := K3.trans hlen
  have hat : ∀ (i : Nat) (hi : i < cs.length), A.slots[i]? = some (.int cs[i]) := fun i hi => by rw [K5 i (by omega)]; simp [List.getD_eq_getElem?_getD, hi]
  have hcv : ∀ (i : Nat) (hi : i < cs.length), cv A i = cs[i] := fun i hi => by unfold cv; rw [hat i hi]
  have hty : Typed .char A := fun i v hv => by
    have hi : i < A.slots.size := (Array.getElem?_eq_some_iff.mp hv).1
    have q := K5 i hi
    rw [hv] at q
    rw [Option.some.inj q]
    exact K6 i hi
  refine Back.mono (back hZ hw wi E V C K1 hty S hz (by omega) (by omega) (fun i hi => by rw [hcv i (by omega)]; exact hall _ (List.getElem_mem _)) hfr hlo) (fun P a hp => ⟨hp.1, hp.2.1, hp.2.2.1, by rw [e]; exact hp.2.2.2⟩) (fun P a v B hp hq => ?_)
  obtain ⟨L, ⟨q1, q2, q3, q4, q5, q6, q7, ⟨V', v1, v2, v3, v4, v5⟩, q9⟩, hl, hc, hs⟩ := hq
  refine ⟨L, ⟨q1, q2, q3, q4, q5, q6, q7, ⟨V'.cls, v3, V', v1, rfl, by rw [v4, e, hlen], K4, fun i hi => ?_, fun i hi => ?_⟩, q9⟩, hl, hc, by rw [hs, e]⟩
  · have hi' : i < cs.length := by omega
    rw [v5 i (by omega), hcv i hi']; simp [List.getD_eq_getElem?_getD, hi']
  · have hi' : i < cs.length := by omega
    simp only [List.getD_eq_getElem?_getD, List.getElem?_map, List.getElem?_eq_getElem hi', Option.map_some, Option.getD_some]
    exact fits_lo8 _
end StrChars.Road
namespace StrChars.Road
open Jvm Sem ClassFile Op Lib Jvm.Stand Jvm.Free Jvm.Free.XT
/-- WHAT COMES BACK, in the writer's own shape -/
def QV (Z : State) (x : Addr) (N : Int32) (bs : List Int32) (h : Heap) (n0 : Nat) (v : Option Value) (h' : Heap) (L : List Loc) : Prop := v = none ∧ RoadKit.Fr n0 L ∧ RoadKit.Keep h h' [x] ∧ RoadKit.Exa Z h' x ST ∧ RoadKit.Fld Z h' x ST "coder" "B" (.int 0) ∧
  ∃ (t : Addr) (kb : ClassId), n0 ≤ t ∧ h.size ≤ t ∧ ¬ t = x ∧ RoadKit.Fld Z h' x ST "value" "[B" (.ref t) ∧ RoadKit.Arv Z h' t kb .byte N (bs.map Value.int) (.int 0)
/-- **new String(chars) AT A CALL, FOR THE WRITER**: a char[] of n known ints, each 0 to 255 -/
theorem backV {p : Program} {l : Launch} {e : Env} {R : Room} {s : State} {args : Array Value} {below : List Frame} {len W : Nat} {Z : State} {a0 : Array Value} {h : Heap} (hZ : Z.Warmed39 s.vm) (hw : ∀ d ∈ words, d.before a0 Z = true) {kI : Nat} (wi : (Jvm.Cond.instantiable ST kI).before a0 Z = true)
    {x b : Addr} {kC : ClassId} {cs bs : List Int32} {d v0 c0 : Value} {z N : Int32} {n n0 : Nat} (hx0 : n0 ≤ x) (hh0 : n0 ≤ h.size) (E : RoadKit.Exa Z h x ST) (V : RoadKit.Fld Z h x ST "value" "[B" v0) (C : RoadKit.Fld Z h x ST "coder" "B" c0) (K : RoadKit.Arv Z h b kC .char N (cs.map Value.int) d) (S : RoadKit.Sta Z h ST "COMPACT_STRINGS" "Z" (.int z)) (hz : ¬ z = 0)
    (hn : cs.length = n) (hN : N = Int32.ofNat n) (l0 : 0 < n) (l2 : n ≤ 4000) (hp : ∀ c ∈ cs, ¬ c < 0 ∧ ¬ (255 : Int32) < c) (hb : bs = cs.map (fun c => c.toInt8.toInt32)) (hfr : 4 ≤ R.frames) (hlo : W + 65 ≤ R.locals) :
    Back l R p e below s args (⟨"java/lang/String", "<init>", "([C)V"⟩ : MethodName) len W (fun P a => a = #[.ref x, .ref b] ∧ P.U.heap = h ∧ P.cells + 1 ≤ R.cells ∧ P.slots + n ≤ R.slots)
      (fun P _ v B => ∃ L, QV Z x N bs h n0 v B.U.heap L ∧ B.locs = P.locs ++ L ∧ B.cells = P.cells + 1 ∧ B.slots = P.slots + n) := by
  subst hn hN hb
  refine Back.mono (backArv hZ hw wi E V C K S hz (n32 (by omega)) l0 (by omega) (fun c hc => (hp c hc).2) hfr hlo) (fun P a hp => hp) (fun P a v B hp hq => ?_)
  obtain ⟨L, ⟨q1, q2, q3, q4, q5, q6, q7, ⟨kb, v1, v2⟩, q9⟩, hl, hc, hs⟩ := hq
  exact ⟨L, ⟨q1, fun y hy => by rw [q2 y hy]; exact hx0, q3, q5, q7, h.size, kb, hh0, Nat.le_refl _, Nat.ne_of_gt E.lt, q6, by rw [List.map_map]; exact v2⟩, hl, hc, hs⟩
end StrChars.Road
namespace StrChars
open Jvm Sem ClassFile Op Lib Jvm.Stand Jvm.Free.XT Jvm.Free.ALB Jvm.Free.JM Jvm.Free
open Jvm.Lib.Cold (StaticIs)
def hi8 (x : Int32) : Int32 := lo8 (x >>> ((8 : Int32) &&& 31))
/-- what StringUTF16.getChar makes of two bytes -/
def pairCh (u v : Int32) : Int32 := (((u &&& 255) <<< ((0 : Int32) &&& 31)) ||| ((v &&& 255) <<< ((8 : Int32) &&& 31))).toUInt32.toUInt16.toUInt32.toInt32
theorem shr0 (c : Int32) : c >>> ((0 : Int32) &&& 31) = c := by
  have e : ((0 : Int32) &&& 31) = 0 := by decide
  rw [e]
  apply Int32.toBitVec_inj.mp
  rw [Int32.toBitVec_shiftRight]
  have e1 : ((0 : Int32).toBitVec.smod 32) = 0#32 := by decide
  rw [e1, BitVec.sshiftRight_eq']
  exact BitVec.sshiftRight_zero
theorem lo8_and (x : Int32) : (lo8 x &&& 255).toBitVec.toNat = x.toBitVec.toNat % 256 := by
  have h : (lo8 x).toBitVec = (x.toBitVec.signExtend 8).signExtend 32 := by rw [lo8, Int8.toBitVec_toInt32, Int32.toBitVec_toInt8]
  rw [Int32.toBitVec_and, BitVec.toNat_and, h]
  have e : ((x.toBitVec.signExtend 8).signExtend 32).toNat % 256 = x.toBitVec.toNat % 256 := by
    rw [BitVec.toNat_signExtend]
    have hlt := x.toBitVec.isLt
    simp only [BitVec.toNat_setWidth, BitVec.toNat_signExtend]
    split <;> split <;> omega
  rw [← e]
  exact Nat.and_two_pow_sub_one_eq_mod _ 8
theorem pair_says {c : Int32} (h0 : ¬ c < 0) (h1 : ¬ 65535 < c) : pairCh (lo8 c) (hi8 c) = c := by
  rw [Int32.lt_iff_toInt_lt] at h0 h1
  have e0 : (0 : Int32).toInt = 0 := rfl
  have e1 : (65535 : Int32).toInt = 65535 := rfl
  have hc : c.toInt = c.toBitVec.toNat := by
    have := c.toBitVec.isLt
    have e : c.toInt = c.toBitVec.toInt := rfl
    rw [e] at h0 h1
    rw [e]
    rw [BitVec.toInt_eq_toNat_cond] at h0 h1 ⊢
    split at h0 <;> split <;> omega
  have hn : c.toBitVec.toNat < 65536 := by omega
  have a1 := lo8_and c
  have a2 : (hi8 c &&& 255).toBitVec.toNat = c.toBitVec.toNat / 256 := by
    rw [hi8, lo8_and]
    have e : ((8 : Int32) &&& 31) = 8 := by decide
    rw [e, Int32.toBitVec_shiftRight]
    have e2 : ((8 : Int32).toBitVec.smod 32) = 8#32 := by decide
    rw [e2, BitVec.sshiftRight_eq', BitVec.toNat_sshiftRight_of_msb_false (by rw [BitVec.msb_eq_false_iff_two_mul_lt]; omega)]
    show c.toBitVec.toNat >>> 8 % 256 = _
    rw [Nat.shiftRight_eq_div_pow]
    omega
  unfold pairCh
  apply Int32.toBitVec_inj.mp
  apply BitVec.eq_of_toNat_eq
  have f0 : ((0 : Int32) &&& 31) = 0 := by decide
  have f8 : ((8 : Int32) &&& 31) = 8 := by decide
  rw [f0, f8]
  have g : (((lo8 c &&& 255) <<< (0 : Int32)) ||| ((hi8 c &&& 255) <<< (8 : Int32))).toBitVec.toNat = c.toBitVec.toNat := by
    rw [Int32.toBitVec_or, Int32.toBitVec_shiftLeft, Int32.toBitVec_shiftLeft]
    have s0 : ((0 : Int32).toBitVec.smod 32) = 0#32 := by decide
    have s8 : ((8 : Int32).toBitVec.smod 32) = 8#32 := by decide
    rw [s0, s8, BitVec.toNat_or]
    simp only [BitVec.shiftLeft_eq', BitVec.toNat_shiftLeft, a1, a2]
    show (c.toBitVec.toNat % 256) <<< 0 % 2 ^ 32 ||| (c.toBitVec.toNat / 256) <<< 8 % 2 ^ 32 = _
    rw [Nat.shiftLeft_zero, Nat.mod_eq_of_lt (show c.toBitVec.toNat % 256 < 2 ^ 32 by omega), Nat.mod_eq_of_lt (show (c.toBitVec.toNat / 256) <<< 8 < 2 ^ 32 by rw [Nat.shiftLeft_eq]; omega), Nat.or_comm, ← Nat.shiftLeft_add_eq_or_of_lt (by omega), Nat.shiftLeft_eq]
    omega
  show BitVec.toNat (((((lo8 c &&& 255) <<< (0 : Int32)) ||| ((hi8 c &&& 255) <<< (8 : Int32))).toBitVec.setWidth 16).setWidth 32) = _
  rw [BitVec.toNat_setWidth, BitVec.toNat_setWidth, g]
  omega
end StrChars
namespace StrChars
open Jvm Sem ClassFile Op Lib Jvm.Stand Jvm.Free.XT Jvm.Free.ALB Jvm.Free.JM Jvm.Free
open Jvm.Lib.Cold (StaticIs)
theorem shr1 {n : Nat} (h : 2 * n < 2 ^ 31) : Int32.ofNat (2 * n) >>> ((1 : Int32) &&& 31) = Int32.ofNat n := by
  have e : ((1 : Int32) &&& 31) = 1 := by decide
  rw [e]
  apply Int32.toBitVec_inj.mp
  rw [Int32.toBitVec_shiftRight]
  have e1 : ((1 : Int32).toBitVec.smod 32) = 1#32 := by decide
  have hm : (BitVec.ofNat 32 (2 * n)).toNat = 2 * n := by rw [BitVec.toNat_ofNat, Nat.mod_eq_of_lt (by omega)]
  rw [e1, BitVec.sshiftRight_eq']
  apply BitVec.eq_of_toNat_eq
  show ((BitVec.ofNat 32 (2 * n)).sshiftRight 1).toNat = (BitVec.ofNat 32 n).toNat
  rw [BitVec.toNat_sshiftRight_of_msb_false (by rw [BitVec.msb_eq_false_iff_two_mul_lt, hm]; omega), hm, BitVec.toNat_ofNat, Nat.shiftRight_eq_div_pow]
  omega
/-- charAt's cast of a byte read back -/
def chr8 (u : Int32) : Int32 := (u &&& 255).toUInt32.toUInt16.toUInt32.toInt32
theorem chr8_lo8 {c : Int32} (h0 : ¬ c < 0) (h1 : ¬ 255 < c) : chr8 (lo8 c) = c := by
  have t : ∀ k : Fin 256, (Int32.ofNat k.val).toUInt32.toUInt16.toUInt32.toInt32 = Int32.ofNat k.val := by decide +kernel
  unfold chr8
  rw [lo8_mask h0 h1]
  rw [Int32.lt_iff_toInt_lt] at h0 h1
  have e0 : (0 : Int32).toInt = 0 := rfl
  have e1 : (255 : Int32).toInt = 255 := rfl
  obtain ⟨k, hk⟩ : ∃ k : Nat, c.toInt = k := ⟨c.toInt.toNat, by omega⟩
  have hx : c = Int32.ofNat k := Int32.toInt_inj.mp (by rw [hk, Int32.toInt_ofNat_small (by omega)])
  rw [hx]
  exact t ⟨k, by omega⟩
theorem narrow_ch {c : Int32} (h0 : ¬ c < 0) (h1 : ¬ 65535 < c) : narrow .char (.int c) = .int c := by
  have q : narrow .char (.int (pairCh (lo8 c) (hi8 c))) = .int (pairCh (lo8 c) (hi8 c)) := narrow_c _
  rwa [pair_says h0 h1] at q
/-- the array's cell V codes the n chars f 0 .. f (n - 1) by the coder cd, as the JDK does: coder 1 just where some char is above 255 -/
def Cod (cd : Int32) (n : Nat) (f : Nat → Int32) (V : Cell) : Prop := (cd = 0 ∧ V.slots.size = n ∧ ∀ j, j < n → V.slots[j]? = some (.int (lo8 (f j))) ∧ ¬ 255 < f j) ∨ (cd = 1 ∧ V.slots.size = 2 * n ∧ (∀ j, j < n → V.slots[2 * j]? = some (.int (lo8 (f j))) ∧ V.slots[2 * j + 1]? = some (.int (hi8 (f j)))) ∧ ∃ j, j < n ∧ 255 < f j)
theorem Cod.cd {cd : Int32} {n : Nat} {f : Nat → Int32} {V : Cell} (h : Cod cd n f V) : cd = 0 ∨ cd = 1 := h.imp (fun q => q.1) fun q => q.1
theorem Cod.len {cd : Int32} {n : Nat} {f : Nat → Int32} {V : Cell} (h : Cod cd n f V) (hs : V.slots.size < 2 ^ 31) : Int32.ofNat V.slots.size >>> (cd &&& 31) = Int32.ofNat n := by
  rcases h with ⟨rfl, h, -⟩ | ⟨rfl, h, -⟩
  · rw [shr0, h]
  · rw [h, shr1 (by omega)]
/-- **x is a String of the n chars f 0 .. f (n - 1)**, Latin-1 or UTF-16; its array at t has the cell V -/
def Txt (x t : Addr) (V : Cell) (cd : Int32) (n : Nat) (f : Nat → Int32) (U : State) : Prop := Exact "java/lang/String" x U ∧ Has x "java/lang/String" "value" "[B" (.ref t) U ∧ Has x "java/lang/String" "coder" "B" (.int cd) U ∧ XT.Arr .byte t V U ∧ Cod cd n f V ∧ ∀ j, j < n → ¬ f j < 0 ∧ ¬ 65535 < f j
theorem Txt.mv {x t : Addr} {V : Cell} {cd : Int32} {n : Nat} {f : Nat → Int32} {U U' : State} (h : Txt x t V cd n f U) (hal : U.vm.Alike U'.vm) (hh : U'.heap = U.heap) : Txt x t V cd n f U' := ⟨h.1.mv hal hh, h.2.1.mv hal hh, h.2.2.1.mv hal hh, h.2.2.2.1.mv hal hh, h.2.2.2.2⟩
namespace Cdr
def yN : MethodName := ⟨"java/lang/String", "coder", "()B"⟩
abbrev yB : ByteArray := jdk_42_method_152_code
theorem d0 : decode yB 0 = .ok (.getstatic 38, 3) := by decide +kernel
theorem d3 : decode yB 3 = .ok (.ifCond (.eq) 10, 3) := by decide +kernel
theorem d6 : decode yB 6 = .ok (.aload_n 0, 1) := by decide +kernel
theorem d7 : decode yB 7 = .ok (.getfield 15, 3) := by decide +kernel
theorem d10 : decode yB 10 = .ok (.goto 4, 3) := by decide +kernel
theorem d14 : decode yB 14 = .ok (.ireturn, 1) := by decide +kernel
def site : List Cond := [.fieldLink "java/lang/String" 38 "java/lang/String" "COMPACT_STRINGS" "Z", .fieldLink "java/lang/String" 15 "java/lang/String" "coder" "B"]
def tab : Cond := tabOf yN yB 1 (some .byte) site
def P (x : Addr) (cd z : Int32) (args : Array Value) (s : State) : Prop := args = #[.ref x] ∧ Has x "java/lang/String" "coder" "B" (.int cd) s ∧ (cd = 0 ∨ cd = 1) ∧ StaticIs s "java/lang/String" "COMPACT_STRINGS" "Z" (.int z) ∧ ¬ z = 0
def E (cd : Int32) (r : Option Value) (s u : State) : Prop := XT.PureE (some (.int cd)) r s u
theorem law (l : Launch) (x : Addr) (cd z : Int32) : Law l yN 1 0 0 0 yB 1 (some .byte) site (P x cd z) (E cd) [] 0 0 := by
  refine Law.of_walk (plainFor_of_name (by decide +kernel)) (by decide +kernel) (by decide +kernel) (by decide) (fun _ _ h => by rw [h.1]; rfl) (fun _ U U' hal hh h => ⟨h.1, h.2.1.mv hal hh, h.2.2.1, h.2.2.2.1.there hal hh, h.2.2.2.2⟩) (fun r U U' V V' h1 hal h2 h => XT.PureE.mv r U U' V V' h1 hal h2 h) ?_
  intro p e s m args below meth c s₁ X0 hexec hbytes hml hret hlk hnm hown hh0 W hP
  obtain ⟨rfl, hx, hc, s1, hz⟩ := hP
  have c1 : Steps p.tables e below (s₁.setTop (entryFrame m #[.ref x] 1)) (s₁.setTop (mkF m 0 #[.val (.ref x)] [])) := entry rfl
  obtain ⟨T2, X2, q2, st2⟩ := X0.sget hexec hown (wk W (.fieldLink "java/lang/String" 38 "java/lang/String" "COMPACT_STRINGS" "Z")) s1 (fun _ _ h => by rw [hh0]; exact h) (g := (mkF m 0 #[.val (.ref x)] [])) rfl (hb hbytes d0)
  have hh2 := q2.trans hh0
  have c3 : Steps p.tables e below (s₁.setTop (entryFrame m #[.ref x] 1)) (T2.setTop (mkF m 7 #[.val (.ref x)] [.ref x])) := (c1.trans (st2 _ (Steps.refl _))).trans (by
    refine XS.ifNo X2.here hexec rfl (hb hbytes d3) rfl (i0_eq_f hz) ?_
    refine XS.aloadN X2.here hexec rfl (hb hbytes d6) rfl rfl ?_
    exact Steps.refl _)
  obtain ⟨T4, X4, q4, st4⟩ := X2.hget hexec hown (wk W (.fieldLink "java/lang/String" 15 "java/lang/String" "coder" "B")) (hx.mv X2.warmed.alike hh2) (g := (mkF m 7 #[.val (.ref x)] [.ref x])) rfl (rest := []) rfl (hb hbytes d7)
  have c5 : Steps p.tables e below (s₁.setTop (entryFrame m #[.ref x] 1)) (T4.setTop (mkF m 14 #[.val (.ref x)] [.int cd])) := (c3.trans (st4 _ (Steps.refl _))).trans (by
    refine XS.goto X4.here hexec rfl (pc0 := 10) rfl (hb hbytes d10) (by decide) rfl ?_
    exact Steps.refl _)
  exact ⟨T4, some (.int cd), _, _, _, X4, rfl, rfl, rfl, (fun h => by cases h), ⟨rfl, q4.trans hh2⟩, fun fs hl => c5.trans (X4.ireturnOut hexec hret (by rcases hc with rfl | rfl <;> rfl) (Or.inr (Or.inr (Or.inl rfl))) (hb hbytes d14) hl)⟩
end Cdr
namespace Len
def yN : MethodName := ⟨"java/lang/String", "length", "()I"⟩
abbrev yB : ByteArray := jdk_42_method_54_code
theorem d0 : decode yB 0 = .ok (.aload_n 0, 1) := by decide +kernel
theorem d1 : decode yB 1 = .ok (.getfield 9, 3) := by decide +kernel
theorem d4 : decode yB 4 = .ok (.arraylength, 1) := by decide +kernel
theorem d5 : decode yB 5 = .ok (.aload_n 0, 1) := by decide +kernel
theorem d6 : decode yB 6 = .ok (.invokevirtual 335, 3) := by decide +kernel
theorem d9 : decode yB 9 = .ok (.ishr, 1) := by decide +kernel
theorem d10 : decode yB 10 = .ok (.ireturn, 1) := by decide +kernel
def site : List Cond := [.fieldLink "java/lang/String" 9 "java/lang/String" "value" "[B", Cdr.tab] ++ virtW "java/lang/String" 335 "java/lang/String" Cdr.yN Cdr.yN
def tab : Cond := tabOf yN yB 1 (some .int) site
def P (x t : Addr) (V : Cell) (cd : Int32) (n : Nat) (f : Nat → Int32) (z : Int32) (args : Array Value) (s : State) : Prop := args = #[.ref x] ∧ Txt x t V cd n f s ∧ StaticIs s "java/lang/String" "COMPACT_STRINGS" "Z" (.int z) ∧ ¬ z = 0
def E (n : Nat) (r : Option Value) (s u : State) : Prop := XT.PureE (some (.int (Int32.ofNat n))) r s u
/-- length() of a String of n chars, in either coding -/
theorem law (l : Launch) (x t : Addr) (V : Cell) (cd : Int32) (n : Nat) (f : Nat → Int32) (z : Int32) : Law l yN 1 0 1 13 yB 1 (some .int) site (P x t V cd n f z) (E n) [] 0 0 := by
  refine Law.of_walk (plainFor_of_name (by decide +kernel)) (by decide +kernel) (by decide +kernel) (by decide) (fun _ _ h => by rw [h.1]; rfl) (fun _ U U' hal hh h => ⟨h.1, h.2.1.mv hal hh, h.2.2.1.there hal hh, h.2.2.2⟩) (fun r U U' V V' h1 hal h2 h => XT.PureE.mv r U U' V V' h1 hal h2 h) ?_
  intro p e s m args below meth c s₁ X0 hexec hbytes hml hret hlk hnm hown hh0 W hP
  obtain ⟨rfl, hx, s1, hz⟩ := hP
  have v31 := hx.2.2.2.1.2.2.2
  have c1 : Steps p.tables e below (s₁.setTop (entryFrame m #[.ref x] 1)) (s₁.setTop (mkF m 1 #[.val (.ref x)] [.ref x])) := Steps.trans (entry rfl) (by
    show Steps p.tables e below (s₁.setTop (mkF m 0 #[.val (.ref x)] [])) _
    refine XS.aloadN X0.here hexec rfl (hb hbytes d0) rfl rfl ?_
    exact Steps.refl _)
  obtain ⟨T2, X2, q2, st2⟩ := X0.hget hexec hown (wk W (.fieldLink "java/lang/String" 9 "java/lang/String" "value" "[B")) (hx.mv X0.warmed.alike hh0).2.1 (g := (mkF m 1 #[.val (.ref x)] [.ref x])) rfl (rest := []) rfl (hb hbytes d1)
  have hh2 := q2.trans hh0
  have hx2 := hx.mv X2.warmed.alike hh2
  have c3 : Steps p.tables e below (s₁.setTop (entryFrame m #[.ref x] 1)) (T2.setTop (mkF m 6 #[.val (.ref x)] [.ref x, .int (Int32.ofNat V.slots.size)])) := (c1.trans (st2 _ (Steps.refl _))).trans (by
    refine X2.alen hexec hx2.2.2.2.1 rfl rfl (hb hbytes d4) ?_
    refine XS.aloadN X2.here hexec rfl (hb hbytes d5) rfl rfl ?_
    exact Steps.refl _)
  obtain ⟨v4, T4, X4, E4, g4⟩ := X2.callV hexec (Cdr.law l x cd z) hown (wks W (virtW "java/lang/String" 335 "java/lang/String" Cdr.yN Cdr.yN)) rfl (by decide) (wk W Cdr.tab) (W := 1) (Nat.le_of_ble_eq_true rfl) (Nat.le_of_ble_eq_true rfl) (Nat.le_refl _) (Nat.le_refl _) (hx2.1.fc X2.warmed.alike) hx2.1.is (g := (mkF m 6 #[.val (.ref x)] [.ref x, .int (Int32.ofNat V.slots.size)])) rfl (by rw [hml]; rfl) c3 (argsL := []) (rest := [.int (Int32.ofNat V.slots.size)]) rfl rfl (by show 2 * 0 + (1 + 0) ≤ _; decide) (hb hbytes d6) (⟨rfl, hx2.2.2.1, hx.2.2.2.2.1.cd, s1.there X2.warmed.alike hh2, hz⟩)
  obtain ⟨rfl, q4⟩ := E4
  have c5 : Steps p.tables e below (s₁.setTop (entryFrame m #[.ref x] 1)) (T4.setTop (mkF m 10 #[.val (.ref x)] [.int (Int32.ofNat V.slots.size >>> (cd &&& 31))])) := Steps.trans g4 (by
    refine ishr X4.here hexec rfl (hb hbytes d9) rfl ?_
    exact Steps.refl _)
  rw [hx.2.2.2.2.1.len v31] at c5
  exact ⟨T4, some (.int (Int32.ofNat n)), _, _, _, X4, rfl, rfl, rfl, (fun h => by cases h), ⟨rfl, q4.trans hh2⟩, fun fs hl => c5.trans (X4.ireturnOut hexec hret rfl (Or.inl rfl) (hb hbytes d10) hl)⟩
theorem pays {l : Launch} {R : Room} {p : Program} {e : Env} {below : List Frame} {s : State} {sargs : Array Value} {len W : Nat} (x t : Addr) (V : Cell) (cd : Int32) (n : Nat) (f : Nat → Int32) (z : Int32) (htab : tab.before sargs s = true) (hfr : 2 ≤ R.frames) (hlo : W + 25 ≤ R.locals) :
    Back l R p e below s sargs yN len W (fun A₁ a₁ => A₁.cells + 0 ≤ R.cells ∧ A₁.slots + 0 ≤ R.slots ∧ P x t V cd n f z a₁ A₁.U) (fun A₁ _ v₁ B₁ => E n v₁ A₁.U B₁.U ∧ B₁.locs = A₁.locs ++ [] ∧ B₁.cells = A₁.cells + 0 ∧ B₁.slots = A₁.slots + 0) :=
  (law l x t V cd n f z).pays htab hfr (by omega)
end Len
namespace IsL
def yN : MethodName := ⟨"java/lang/String", "isLatin1", "()Z"⟩
abbrev yB : ByteArray := jdk_42_method_154_code
theorem d0 : decode yB 0 = .ok (.getstatic 38, 3) := by decide +kernel
theorem d3 : decode yB 3 = .ok (.ifCond (.eq) 14, 3) := by decide +kernel
theorem d6 : decode yB 6 = .ok (.aload_n 0, 1) := by decide +kernel
theorem d7 : decode yB 7 = .ok (.getfield 15, 3) := by decide +kernel
theorem d10 : decode yB 10 = .ok (.ifCond (.ne) 7, 3) := by decide +kernel
theorem d13 : decode yB 13 = .ok (.iconst 1, 1) := by decide +kernel
theorem d14 : decode yB 14 = .ok (.goto 4, 3) := by decide +kernel
theorem d17 : decode yB 17 = .ok (.iconst 0, 1) := by decide +kernel
theorem d18 : decode yB 18 = .ok (.ireturn, 1) := by decide +kernel
def site : List Cond := [.fieldLink "java/lang/String" 38 "java/lang/String" "COMPACT_STRINGS" "Z", .fieldLink "java/lang/String" 15 "java/lang/String" "coder" "B"]
def tab : Cond := tabOf yN yB 1 (some .boolean) site
def P (x : Addr) (cd z : Int32) (args : Array Value) (s : State) : Prop := args = #[.ref x] ∧ Has x "java/lang/String" "coder" "B" (.int cd) s ∧ (cd = 0 ∨ cd = 1) ∧ StaticIs s "java/lang/String" "COMPACT_STRINGS" "Z" (.int z) ∧ ¬ z = 0
def E (cd : Int32) (r : Option Value) (s u : State) : Prop := XT.PureE (some (.int (1 - cd))) r s u
theorem law (l : Launch) (x : Addr) (cd z : Int32) : Law l yN 1 0 0 0 yB 1 (some .boolean) site (P x cd z) (E cd) [] 0 0 := by
  refine Law.of_walk (plainFor_of_name (by decide +kernel)) (by decide +kernel) (by decide +kernel) (by decide) (fun _ _ h => by rw [h.1]; rfl) (fun _ U U' hal hh h => ⟨h.1, h.2.1.mv hal hh, h.2.2.1, h.2.2.2.1.there hal hh, h.2.2.2.2⟩) (fun r U U' V V' h1 hal h2 h => XT.PureE.mv r U U' V V' h1 hal h2 h) ?_
  intro p e s m args below meth c s₁ X0 hexec hbytes hml hret hlk hnm hown hh0 W hP
  obtain ⟨rfl, hx, hc, s1, hz⟩ := hP
  have c1 : Steps p.tables e below (s₁.setTop (entryFrame m #[.ref x] 1)) (s₁.setTop (mkF m 0 #[.val (.ref x)] [])) := entry rfl
  obtain ⟨T2, X2, q2, st2⟩ := X0.sget hexec hown (wk W (.fieldLink "java/lang/String" 38 "java/lang/String" "COMPACT_STRINGS" "Z")) s1 (fun _ _ h => by rw [hh0]; exact h) (g := (mkF m 0 #[.val (.ref x)] [])) rfl (hb hbytes d0)
  have hh2 := q2.trans hh0
  have c3 : Steps p.tables e below (s₁.setTop (entryFrame m #[.ref x] 1)) (T2.setTop (mkF m 7 #[.val (.ref x)] [.ref x])) := (c1.trans (st2 _ (Steps.refl _))).trans (by
    refine XS.ifNo X2.here hexec rfl (hb hbytes d3) rfl (i0_eq_f hz) ?_
    refine XS.aloadN X2.here hexec rfl (hb hbytes d6) rfl rfl ?_
    exact Steps.refl _)
  obtain ⟨T4, X4, q4, st4⟩ := X2.hget hexec hown (wk W (.fieldLink "java/lang/String" 15 "java/lang/String" "coder" "B")) (hx.mv X2.warmed.alike hh2) (g := (mkF m 7 #[.val (.ref x)] [.ref x])) rfl (rest := []) rfl (hb hbytes d7)
  have c5 : Steps p.tables e below (s₁.setTop (entryFrame m #[.ref x] 1)) (T4.setTop (mkF m 10 #[.val (.ref x)] [.int cd])) := c3.trans (st4 _ (Steps.refl _))
  have c6 : Steps p.tables e below (s₁.setTop (entryFrame m #[.ref x] 1)) (T4.setTop (mkF m 18 #[.val (.ref x)] [.int (1 - cd)])) := by
    rcases hc with rfl | rfl
    · exact c5.trans (by
        refine XS.ifNo X4.here hexec rfl (hb hbytes d10) rfl (i0_ne_f rfl) ?_
        refine iconstV X4.here hexec rfl 1 (hb hbytes d13) (by decide) ?_
        refine XS.goto X4.here hexec rfl (pc0 := 14) rfl (hb hbytes d14) (by decide) rfl ?_
        exact Steps.refl _)
    · exact c5.trans (by
        refine XS.ifYes X4.here hexec rfl (pc0 := 10) rfl (hb hbytes d10) rfl (i0_ne_t (by decide)) (by decide) rfl ?_
        refine iconstV X4.here hexec rfl 0 (hb hbytes d17) (by decide) ?_
        exact Steps.refl _)
  exact ⟨T4, some (.int (1 - cd)), _, _, _, X4, rfl, rfl, rfl, (fun h => by cases h), ⟨rfl, q4.trans hh2⟩, fun fs hl => c6.trans (X4.ireturnOut hexec hret (by rcases hc with rfl | rfl <;> rfl) (Or.inr (Or.inl rfl)) (hb hbytes d18) hl)⟩
end IsL
namespace LChA
def yN : MethodName := ⟨"java/lang/StringLatin1", "charAt", "([BI)C"⟩
abbrev yB : ByteArray := jdk_43_method_2_code
theorem d0 : decode yB 0 = .ok (.iload_n 1, 1) := by decide +kernel
theorem d1 : decode yB 1 = .ok (.aload_n 0, 1) := by decide +kernel
theorem d2 : decode yB 2 = .ok (.arraylength, 1) := by decide +kernel
theorem d3 : decode yB 3 = .ok (.invokestatic 9, 3) := by decide +kernel
theorem d6 : decode yB 6 = .ok (.aload_n 0, 1) := by decide +kernel
theorem d7 : decode yB 7 = .ok (.iload_n 1, 1) := by decide +kernel
theorem d8 : decode yB 8 = .ok (.baload, 1) := by decide +kernel
theorem d9 : decode yB 9 = .ok (.sipush 255, 3) := by decide +kernel
theorem d12 : decode yB 12 = .ok (.iand, 1) := by decide +kernel
theorem d13 : decode yB 13 = .ok (.i2c, 1) := by decide +kernel
theorem d14 : decode yB 14 = .ok (.ireturn, 1) := by decide +kernel
def site : List Cond := [JO.Str_checkIndex.tab] ++ staticW "java/lang/StringLatin1" 9 JO.Str_checkIndex.yN
def tab : Cond := tabOf yN yB 2 (some .char) site
def P (t : Addr) (V : Cell) (i : Nat) (u : Int32) (fm : Value) (args : Array Value) (s : State) : Prop := args = #[.ref t, .int (Int32.ofNat i)] ∧ XT.Arr .byte t V s ∧ V.slots[i]? = some (.int u) ∧ (StaticIs s "jdk/internal/util/Preconditions" "SIOOBE_FORMATTER" "Ljava/util/function/BiFunction;" fm ∧ fm.isRef = true)
def E (u : Int32) (r : Option Value) (s w : State) : Prop := XT.PureE (some (.int (chr8 u))) r s w
theorem law (l : Launch) (t : Addr) (V : Cell) (i : Nat) (u : Int32) (fm : Value) : Law l yN 2 2 2 27 yB 2 (some .char) site (P t V i u fm) (E u) [] 0 0 := by
  refine Law.of_walk (plainFor_of_name (by decide +kernel)) (by decide +kernel) (by decide +kernel) (by decide) (fun _ _ h => by rw [h.1]; rfl) (fun _ U U' hal hh h => ⟨h.1, h.2.1.mv hal hh, h.2.2.1, h.2.2.2.1.there hal hh, h.2.2.2.2⟩) (fun r U U' V V' h1 hal h2 h => XT.PureE.mv r U U' V V' h1 hal h2 h) ?_
  intro p e s m args below meth c s₁ X0 hexec hbytes hml hret hlk hnm hown hh0 W hP
  obtain ⟨rfl, hV, hu, s1, rf⟩ := hP
  have v31 := hV.2.2.2
  have hi : i < V.slots.size := (Array.getElem?_eq_some_iff.mp hu).1
  have c1 : Steps p.tables e below (s₁.setTop (entryFrame m #[.ref t, .int (Int32.ofNat i)] 2)) (s₁.setTop (mkF m 0 #[.val (.ref t), .val (.int (Int32.ofNat i))] [])) := entry rfl
  have c2 : Steps p.tables e below (s₁.setTop (entryFrame m #[.ref t, .int (Int32.ofNat i)] 2)) (s₁.setTop (mkF m 3 #[.val (.ref t), .val (.int (Int32.ofNat i))] [.int (Int32.ofNat V.slots.size), .int (Int32.ofNat i)])) := c1.trans (by
    refine XS.iloadN X0.here hexec rfl (hb hbytes d0) rfl ?_
    refine XS.aloadN X0.here hexec rfl (hb hbytes d1) rfl rfl ?_
    refine X0.alen hexec (hV.mv X0.warmed.alike hh0) rfl rfl (hb hbytes d2) ?_
    exact Steps.refl _)
  obtain ⟨v3, T3, X3, E3, g3⟩ := X0.callS hexec (JO.Str_checkIndex.law l (Int32.ofNat i) (Int32.ofNat V.slots.size) fm) hown (wks W (staticW "java/lang/StringLatin1" 9 JO.Str_checkIndex.yN)) (wk W JO.Str_checkIndex.tab) (W := 0) (Nat.le_of_ble_eq_true rfl) (Nat.le_of_ble_eq_true rfl) (Nat.le_refl _) (Nat.le_refl _) (g := (mkF m 3 #[.val (.ref t), .val (.int (Int32.ofNat i))] [.int (Int32.ofNat V.slots.size), .int (Int32.ofNat i)])) rfl (by rw [hml]; rfl) c2 (argsL := [.int (Int32.ofNat i), .int (Int32.ofNat V.slots.size)]) (rest := []) rfl rfl (by show 2 * 0 + 0 ≤ _; decide) (hb hbytes d3) (⟨rfl, rf, s1.there X0.warmed.alike hh0, Int32.ofNat_not_neg (by omega), lt32 v31 hi⟩)
  obtain ⟨rfl, q3⟩ := E3
  have hh3 := q3.trans hh0
  have c4 : Steps p.tables e below (s₁.setTop (entryFrame m #[.ref t, .int (Int32.ofNat i)] 2)) (T3.setTop (mkF m 14 #[.val (.ref t), .val (.int (Int32.ofNat i))] [.int (chr8 u)])) := Steps.trans g3 (by
    refine XS.aloadN X3.here hexec rfl (hb hbytes d6) rfl rfl ?_
    refine XS.iloadN X3.here hexec rfl (hb hbytes d7) rfl ?_
    refine X3.aget hexec (hV.mv X3.warmed.alike hh3) rfl hu rfl rfl (hb hbytes d8) ?_
    refine sipushV X3.here hexec rfl 255 (hb hbytes d9) (by decide) ?_
    refine XS.iand X3.here hexec rfl (hb hbytes d12) rfl ?_
    refine i2c X3.here hexec rfl (hb hbytes d13) rfl ?_
    exact Steps.refl _)
  exact ⟨T3, some (.int (chr8 u)), _, _, _, X3, rfl, rfl, rfl, (fun h => by cases h), ⟨rfl, hh3⟩, fun fs hl => c4.trans (X3.ireturnOut hexec hret (narrow_c _) (Or.inr (Or.inr (Or.inr (Or.inl rfl)))) (hb hbytes d14) hl)⟩
end LChA
end StrChars
namespace StrChars.Road
open Jvm Sem ClassFile Op Lib Jvm.Stand Jvm.Free Jvm.Free.XT
open Jvm.Lib.Cold (StaticIs)
theorem consq {a : Array Value} {s : State} {c : Jvm.Cond} {L : List Jvm.Cond} (h0 : c.before a s = true) (h : ∀ w ∈ L, w.before a s = true) : ∀ w ∈ c :: L, w.before a s = true := fun w hw => (List.mem_cons.mp hw).elim (fun e => e ▸ h0) (h w)
/-- the words of String.length(), either coding -/
abbrev wordsLen : List Jvm.Cond := [.code Len.yN Len.yB 1 (some .int), .initialized ST, .fieldLink ST 9 ST "value" "[B", .fieldLink ST 38 ST "COMPACT_STRINGS" "Z", .fieldLink ST 15 ST "coder" "B", .code Cdr.yN Cdr.yB 1 (some .byte), .methodLink ST 335 Cdr.yN, .declares Cdr.yN, .selects ST Cdr.yN Cdr.yN, .instanceMethod Cdr.yN]
theorem tabLen_of {a : Array Value} {s : State} (h : ∀ w ∈ wordsLen, w.before a s = true) : Len.tab.before a s = true := by
  have hc : Cdr.tab.before a s = true := unparts (wk h (.code Cdr.yN Cdr.yB 1 (some .byte))) (wks h (.initialized Cdr.yN.cls :: Cdr.site))
  have q := consq hc h
  exact unparts (wk q (.code Len.yN Len.yB 1 (some .int))) (wks q (.initialized Len.yN.cls :: Len.site))
theorem movedLen {Z s : State} {a0 args : Array Value} (hZ : Z.Warmed39 s.vm) (hw : ∀ d ∈ wordsLen, d.before a0 Z = true) : ∀ d ∈ wordsLen, d.before args s = true := fun d hd => by
  have q := hw d hd
  have t : ∀ d ∈ wordsLen, d = .arrayClass .byte ∨ (d.onTables && d.keepsFace) = true := by decide +kernel
  rcases t d hd with rfl | t
  · exact RoadKit.mvA hZ q
  · exact RoadKit.mv hZ q t
/-- the bytes of the chars cs, low before high -/
def wideBytes : List Int32 → List Value
  | [] => []
  | c :: cs => .int (lo8 c) :: .int (hi8 c) :: wideBytes cs
theorem wide_lo (d : Value) : ∀ (cs : List Int32) (j : Nat), j < cs.length → (wideBytes cs).getD (2 * j) d = .int (lo8 (cs.getD j 0))
  | [], j, h => absurd h (Nat.not_lt_zero j)
  | c :: cs, 0, _ => rfl
  | c :: cs, j + 1, h => by
    have q := wide_lo d cs j (by simpa using h)
    rw [show 2 * (j + 1) = 2 * j + 1 + 1 from by omega]
    simpa [wideBytes] using q
theorem wide_hi (d : Value) : ∀ (cs : List Int32) (j : Nat), j < cs.length → (wideBytes cs).getD (2 * j + 1) d = .int (hi8 (cs.getD j 0))
  | [], j, h => absurd h (Nat.not_lt_zero j)
  | c :: cs, 0, _ => rfl
  | c :: cs, j + 1, h => by
    have q := wide_hi d cs j (by simpa using h)
    rw [show 2 * (j + 1) + 1 = 2 * j + 1 + 1 + 1 from by omega]
    simpa [wideBytes] using q
theorem low_at (d : Value) (cs : List Int32) (j : Nat) (h : j < cs.length) : (cs.map fun c => Value.int (lo8 c)).getD j d = .int (lo8 (cs.getD j 0)) := by
  simp [List.getD_eq_getElem?_getD, h]
/-- an array of N2 bytes vs codes the chars cs by the coder cd -/
def CodA (cs : List Int32) (cd N2 : Int32) (vs : List Value) : Prop := (cd = 0 ∧ N2 = Int32.ofNat cs.length ∧ vs = (cs.map fun c => Value.int (lo8 c)) ∧ ∀ c ∈ cs, ¬ 255 < c) ∨ (cd = 1 ∧ N2 = Int32.ofNat (2 * cs.length) ∧ vs = wideBytes cs ∧ ∃ c ∈ cs, 255 < c)
theorem CodA.cod {cs : List Int32} {cd N2 : Int32} {vs : List Value} {V : Cell} (h : CodA cs cd N2 vs) (hn : 2 * cs.length < 2 ^ 31) (hs : V.slots.size = N2.toNatClampNeg) (hv : RoadKit.Has V vs (.int 0)) : Cod cd cs.length (fun j => cs.getD j 0) V := by
  rcases h with ⟨rfl, rfl, rfl, h⟩ | ⟨rfl, rfl, rfl, c, hc, hw⟩
  · rw [n32 (by omega)] at hs
    exact Or.inl ⟨rfl, hs, fun j hj => ⟨by rw [hv j (by omega), low_at _ _ _ hj], by
      have e : cs.getD j 0 = cs[j] := by simp [List.getD_eq_getElem?_getD, hj]
      show ¬ 255 < cs.getD j 0
      rw [e]; exact h _ (List.getElem_mem _)⟩⟩
  · rw [n32 (by omega)] at hs
    obtain ⟨j, hj, rfl⟩ := List.getElem_of_mem hc
    exact Or.inr ⟨rfl, hs, fun j hj => ⟨by rw [hv _ (by omega), wide_lo _ _ _ hj], by rw [hv _ (by omega), wide_hi _ _ _ hj]⟩, j, hj, by
      have e : cs.getD j 0 = cs[j] := by simp [List.getD_eq_getElem?_getD, hj]
      show 255 < cs.getD j 0
      rw [e]; exact hw⟩
/-- an object of exactly java/lang/String, its two fields found: as the laws ask it -/
theorem strObj {Z U : State} {a0 : Array Value} {kI : Nat} (wi : (Jvm.Cond.instantiable ST kI).before a0 Z = true) (al : Z.vm.Alike U.vm) {x : Addr} {v0 c0 : Value} (E : RoadKit.Exa Z U.heap x ST) (V : RoadKit.Fld Z U.heap x ST "value" "[B" v0) (C : RoadKit.Fld Z U.heap x ST "coder" "B" c0) :
    ∃ (D : Cell) (fV fC : Field), Blank ST x D U ∧ Found ST "value" "[B" fV U ∧ Found ST "coder" "B" fC U ∧ D.slots[fV.slot]? = some v0 ∧ D.slots[fC.slot]? = some c0 ∧ RoadKit.slotOf Z ST "value" "[B" = fV.slot ∧ RoadKit.slotOf Z ST "coder" "B" = fC.slot := by
  obtain ⟨D, cfV, kV, iV, fV, hD, gV, stV, knV, obV, asV, slV⟩ := V
  obtain ⟨D', cfC, kC, iC, fC, hD', gC, stC, -, -, asC, slC⟩ := C
  cases hD.symm.trans hD'
  obtain ⟨D2, kD, e1, e2, e3, e4, e5⟩ := E
  cases hD.symm.trans e1
  obtain ⟨c2, k2, i1, i2, i3, -⟩ := Cond.instantiable_spec wi
  cases e2.symm.trans i1
  cases e3.symm.trans i2
  obtain ⟨kU, u1, u2⟩ := al.2.2 _ _ e3
  exact ⟨D, fV, fC, ⟨hD, ⟨knV, fun q hq => by rw [hq] at obV; cases obV⟩, by rw [al.findClass]; exact e2, kU, u1, by rw [u2]; exact i3, by rw [u2]; exact e5 i3⟩, ⟨SBG.found_only al ⟨cfV, kV, iV, gV⟩, stV⟩, ⟨SBG.found_only al ⟨cfC, kC, iC, gC⟩, stC⟩, slV, slC, by simp [RoadKit.slotOf, gV], by simp [RoadKit.slotOf, gC]⟩
theorem sta_is {Z U : State} (al : Z.vm.Alike U.vm) {C n d : String} {v : Value} (S : RoadKit.Sta Z U.heap C n d v) : StaticIs U C n d v := by
  obtain ⟨cfS, iS, kS, fS, st, cS, t1, t2, t3, t4, t5, t6, t7⟩ := S
  exact StaticIs.there (s := { Z with heap := U.heap }) ⟨cfS, iS, kS, fS, st, cS, t1, t2, t3, t4, t5, (fun q => by rw [q] at t6; cases t6), t7⟩ al rfl
/-- **length() OF SUCH A STRING** -/
theorem lenW {p : Program} {l : Launch} {e : Env} {R : Room} {s : State} {args : Array Value} {below : List Frame} {len W : Nat} {Z : State} {a0 : Array Value} {h : Heap} (hZ : Z.Warmed39 s.vm) (hw : ∀ d ∈ wordsLen, d.before a0 Z = true) {kI : Nat} (wi : (Jvm.Cond.instantiable ST kI).before a0 Z = true)
    {x t : Addr} {kb : ClassId} {cs : List Int32} {cd N2 z : Int32} {vs : List Value} (E : RoadKit.Exa Z h x ST) (V : RoadKit.Fld Z h x ST "value" "[B" (.ref t)) (C : RoadKit.Fld Z h x ST "coder" "B" (.int cd)) (K : RoadKit.Arv Z h t kb .byte N2 vs (.int 0)) (hc : CodA cs cd N2 vs) (hb : ∀ c ∈ cs, ¬ c < 0 ∧ ¬ (65535 : Int32) < c)
    (S : RoadKit.Sta Z h ST "COMPACT_STRINGS" "Z" (.int z)) (hz : ¬ z = 0) (l2 : cs.length ≤ 4000) (hfr : 2 ≤ R.frames) (hlo : W + 25 ≤ R.locals) :
    Back l R p e below s args (⟨"java/lang/String", "length", "()I"⟩ : MethodName) len W (fun P a => a = #[.ref x] ∧ P.U.heap = h ∧ P.cells + 0 ≤ R.cells ∧ P.slots + 0 ≤ R.slots)
      (fun P _ v B => ∃ L, (v = some (.int (Int32.ofNat cs.length)) ∧ L = [] ∧ B.U.heap = h) ∧ B.locs = P.locs ++ L ∧ B.cells = P.cells + 0 ∧ B.slots = P.slots + 0) := by
  obtain ⟨A, K1, K2, K3, K4, K5, K6⟩ := K
  have hcod := hc.cod (by omega) K3 K5
  intro m meth c P g ig mk a X hg hsize hdg hW hn hp'
  obtain ⟨rfl, rfl, r1, r2⟩ := hp'
  have al : Z.vm.Alike P.U.vm := hZ.alike.trans X.warmed.alike
  obtain ⟨D, fV, fC, hB, F1, F2, g1, g2, -, -⟩ := strObj wi al E V C
  have hx : Txt x t A cd cs.length (fun j => cs.getD j 0) P.U := ⟨⟨_, hB.2.2.1, D, hB.1, rfl, by cases q : D.vm <;> first | rfl | exact absurd q (hB.2.1.2 _)⟩, Has.of hB F1 g1, Has.of hB F2 g2, ⟨K1.1, State.isArrayOf_alike al K1.2.1, K1.2.2, by rcases hcod with ⟨-, q, -⟩ | ⟨-, q, -⟩ <;> omega⟩, hcod, fun j hj => by
    have e : cs.getD j 0 = cs[j] := by simp [List.getD_eq_getElem?_getD, hj]
    show ¬ cs.getD j 0 < 0 ∧ ¬ 65535 < cs.getD j 0
    rw [e]; exact hb _ (List.getElem_mem _)⟩
  obtain ⟨v, B, X', ⟨⟨hv, hh⟩, hl, hk, hs⟩, st⟩ := Len.pays x t A cd cs.length (fun j => cs.getD j 0) z (tabLen_of (movedLen hZ hw)) hfr hlo m meth c P g ig mk _ X hg hsize hdg hW hn ⟨r1, r2, rfl, hx, sta_is al S, hz⟩
  exact ⟨v, B, X', ⟨[], ⟨hv, rfl, hh⟩, hl, hk, hs⟩, st⟩
end StrChars.Road
namespace StrChars
open Jvm Sem ClassFile Op Lib Jvm.Stand Jvm.Free.XT Jvm.Free.ALB Jvm.Free.JM Jvm.Free
open Jvm.Lib.Cold (StaticIs)
namespace Emp
def yN : MethodName := ⟨"java/lang/String", "isEmpty", "()Z"⟩
abbrev yB : ByteArray := jdk_42_method_55_code
theorem d0 : decode yB 0 = .ok (.aload_n 0, 1) := by decide +kernel
theorem d1 : decode yB 1 = .ok (.getfield 9, 3) := by decide +kernel
theorem d4 : decode yB 4 = .ok (.arraylength, 1) := by decide +kernel
theorem d5 : decode yB 5 = .ok (.ifCond (.ne) 7, 3) := by decide +kernel
theorem d8 : decode yB 8 = .ok (.iconst 1, 1) := by decide +kernel
theorem d9 : decode yB 9 = .ok (.goto 4, 3) := by decide +kernel
theorem d12 : decode yB 12 = .ok (.iconst 0, 1) := by decide +kernel
theorem d13 : decode yB 13 = .ok (.ireturn, 1) := by decide +kernel
def site : List Cond := [.fieldLink "java/lang/String" 9 "java/lang/String" "value" "[B"]
def tab : Cond := tabOf yN yB 1 (some .boolean) site
def P (x t : Addr) (V : Cell) (cd : Int32) (n : Nat) (f : Nat → Int32) (args : Array Value) (s : State) : Prop := args = #[.ref x] ∧ Txt x t V cd n f s
def E (n : Nat) (r : Option Value) (s u : State) : Prop := XT.PureE (some (.int (if n = 0 then 1 else 0))) r s u
/-- isEmpty() of a String of n chars -/
theorem law (l : Launch) (x t : Addr) (V : Cell) (cd : Int32) (n : Nat) (f : Nat → Int32) : Law l yN 1 0 0 0 yB 1 (some .boolean) site (P x t V cd n f) (E n) [] 0 0 := by
  refine Law.of_walk (plainFor_of_name (by decide +kernel)) (by decide +kernel) (by decide +kernel) (by decide) (fun _ _ h => by rw [h.1]; rfl) (fun _ U U' hal hh h => ⟨h.1, h.2.mv hal hh⟩) (fun r U U' V V' h1 hal h2 h => XT.PureE.mv r U U' V V' h1 hal h2 h) ?_
  intro p e s m args below meth c s₁ X0 hexec hbytes hml hret hlk hnm hown hh0 W hP
  obtain ⟨rfl, hx⟩ := hP
  have v31 := hx.2.2.2.1.2.2.2
  have c1 : Steps p.tables e below (s₁.setTop (entryFrame m #[.ref x] 1)) (s₁.setTop (mkF m 1 #[.val (.ref x)] [.ref x])) := Steps.trans (entry rfl) (by
    show Steps p.tables e below (s₁.setTop (mkF m 0 #[.val (.ref x)] [])) _
    refine XS.aloadN X0.here hexec rfl (hb hbytes d0) rfl rfl ?_
    exact Steps.refl _)
  obtain ⟨T2, X2, q2, st2⟩ := X0.hget hexec hown (wk W (.fieldLink "java/lang/String" 9 "java/lang/String" "value" "[B")) (hx.mv X0.warmed.alike hh0).2.1 (g := (mkF m 1 #[.val (.ref x)] [.ref x])) rfl (rest := []) rfl (hb hbytes d1)
  have hh2 := q2.trans hh0
  have hx2 := hx.mv X2.warmed.alike hh2
  have c3 : Steps p.tables e below (s₁.setTop (entryFrame m #[.ref x] 1)) (T2.setTop (mkF m 5 #[.val (.ref x)] [.int (Int32.ofNat V.slots.size)])) := (c1.trans (st2 _ (Steps.refl _))).trans (by
    refine X2.alen hexec hx2.2.2.2.1 rfl rfl (hb hbytes d4) ?_
    exact Steps.refl _)
  have hz : V.slots.size = 0 ↔ n = 0 := by
    rcases hx.2.2.2.2.1 with ⟨-, q, -⟩ | ⟨-, q, -⟩ <;> omega
  by_cases h0 : n = 0
  · have c4 : Steps p.tables e below (s₁.setTop (entryFrame m #[.ref x] 1)) (T2.setTop (mkF m 13 #[.val (.ref x)] [.int 1])) := c3.trans (by
      refine XS.ifNo X2.here hexec rfl (hb hbytes d5) rfl (i0_ne_f (by rw [hz.mpr h0]; rfl)) ?_
      refine iconstV X2.here hexec rfl 1 (hb hbytes d8) (by decide) ?_
      refine XS.goto X2.here hexec rfl (pc0 := 9) rfl (hb hbytes d9) (by decide) rfl ?_
      exact Steps.refl _)
    exact ⟨T2, some (.int 1), _, _, _, X2, rfl, rfl, rfl, (fun h => by cases h), ⟨by rw [if_pos h0], hh2⟩, fun fs hl => c4.trans (X2.ireturnOut hexec hret rfl (Or.inr (Or.inl rfl)) (hb hbytes d13) hl)⟩
  · have c4 : Steps p.tables e below (s₁.setTop (entryFrame m #[.ref x] 1)) (T2.setTop (mkF m 13 #[.val (.ref x)] [.int 0])) := c3.trans (by
      refine XS.ifYes X2.here hexec rfl (pc0 := 5) rfl (hb hbytes d5) rfl (i0_ne_t (nz32 v31 (by omega))) (by decide) rfl ?_
      refine iconstV X2.here hexec rfl 0 (hb hbytes d12) (by decide) ?_
      exact Steps.refl _)
    exact ⟨T2, some (.int 0), _, _, _, X2, rfl, rfl, rfl, (fun h => by cases h), ⟨by rw [if_neg h0], hh2⟩, fun fs hl => c4.trans (X2.ireturnOut hexec hret rfl (Or.inr (Or.inl rfl)) (hb hbytes d13) hl)⟩
theorem pays {l : Launch} {R : Room} {p : Program} {e : Env} {below : List Frame} {s : State} {sargs : Array Value} {len W : Nat} (x t : Addr) (V : Cell) (cd : Int32) (n : Nat) (f : Nat → Int32) (htab : tab.before sargs s = true) (hfr : 1 ≤ R.frames) (hlo : W + 12 ≤ R.locals) :
    Back l R p e below s sargs yN len W (fun A₁ a₁ => A₁.cells + 0 ≤ R.cells ∧ A₁.slots + 0 ≤ R.slots ∧ P x t V cd n f a₁ A₁.U) (fun A₁ _ v₁ B₁ => E n v₁ A₁.U B₁.U ∧ B₁.locs = A₁.locs ++ [] ∧ B₁.cells = A₁.cells + 0 ∧ B₁.slots = A₁.slots + 0) :=
  (law l x t V cd n f).pays htab hfr (by omega)
end Emp
/-- what place i of a byte[]'s cell holds -/
def yv (A : Cell) (i : Nat) : Int32 := match A.slots[i]? with | some (.int x) => x | _ => 0
theorem yv_get {a : Addr} {A : Cell} {U : State} (h : XT.Arr .byte a A U) (ht : Typed .byte A) {i : Nat} (hi : i < A.slots.size) : A.slots[i]? = some (.int (yv A i)) := by
  have e := Array.getElem?_eq_getElem hi
  have f := ht i _ e
  unfold yv; rw [e]
  generalize A.slots[i] = v at f
  cases v <;> simp [fits] at f ⊢
/-- the two arrays are equal, place for place -/
def EqC (A B : Cell) : Prop := A.slots.size = B.slots.size ∧ ∀ i, i < A.slots.size → yv A i = yv B i
/-- a boolean that says whether p -/
def Says01 (q : Prop) (r : Option Value) (s u : State) : Prop := ∃ v : Int32, r = some (.int v) ∧ u.heap = s.heap ∧ ((v = 1 ∧ q) ∨ (v = 0 ∧ ¬ q))
theorem Says01.mv {q : Prop} : ∀ r (U U' V V' : State), U'.heap = U.heap → V.vm.Alike V'.vm → V'.heap = V.heap → Says01 q r U V → Says01 q r U' V' :=
  fun r U U' V V' h1 _ h2 ⟨v, a, b, c⟩ => ⟨v, a, by rw [h1, h2]; exact b, c⟩
namespace LEq
def yN : MethodName := ⟨"java/lang/StringLatin1", "equals", "([B[B)Z"⟩
abbrev yB : ByteArray := jdk_43_method_13_code
theorem d0 : decode yB 0 = .ok (.aload_n 0, 1) := by decide +kernel
theorem d1 : decode yB 1 = .ok (.arraylength, 1) := by decide +kernel
theorem d2 : decode yB 2 = .ok (.aload_n 1, 1) := by decide +kernel
theorem d3 : decode yB 3 = .ok (.arraylength, 1) := by decide +kernel
theorem d4 : decode yB 4 = .ok (.if_icmp (.ne) 30, 3) := by decide +kernel
theorem d7 : decode yB 7 = .ok (.iconst 0, 1) := by decide +kernel
theorem d8 : decode yB 8 = .ok (.istore_n 2, 1) := by decide +kernel
theorem d9 : decode yB 9 = .ok (.iload_n 2, 1) := by decide +kernel
theorem d10 : decode yB 10 = .ok (.aload_n 0, 1) := by decide +kernel
theorem d11 : decode yB 11 = .ok (.arraylength, 1) := by decide +kernel
theorem d12 : decode yB 12 = .ok (.if_icmp (.ge) 20, 3) := by decide +kernel
theorem d15 : decode yB 15 = .ok (.aload_n 0, 1) := by decide +kernel
theorem d16 : decode yB 16 = .ok (.iload_n 2, 1) := by decide +kernel
theorem d17 : decode yB 17 = .ok (.baload, 1) := by decide +kernel
theorem d18 : decode yB 18 = .ok (.aload_n 1, 1) := by decide +kernel
theorem d19 : decode yB 19 = .ok (.iload_n 2, 1) := by decide +kernel
theorem d20 : decode yB 20 = .ok (.baload, 1) := by decide +kernel
theorem d21 : decode yB 21 = .ok (.if_icmp (.eq) 5, 3) := by decide +kernel
theorem d24 : decode yB 24 = .ok (.iconst 0, 1) := by decide +kernel
theorem d25 : decode yB 25 = .ok (.ireturn, 1) := by decide +kernel
theorem d26 : decode yB 26 = .ok (.iinc 2 1, 3) := by decide +kernel
theorem d29 : decode yB 29 = .ok (.goto (-20), 3) := by decide +kernel
theorem d32 : decode yB 32 = .ok (.iconst 1, 1) := by decide +kernel
theorem d33 : decode yB 33 = .ok (.ireturn, 1) := by decide +kernel
theorem d34 : decode yB 34 = .ok (.iconst 0, 1) := by decide +kernel
theorem d35 : decode yB 35 = .ok (.ireturn, 1) := by decide +kernel
def site : List Cond := []
def tab : Cond := tabOf yN yB 3 (some .boolean) site
def P (a : Addr) (A : Cell) (b : Addr) (B : Cell) (args : Array Value) (s : State) : Prop := args = #[.ref a, .ref b] ∧ XT.Arr .byte a A s ∧ Typed .byte A ∧ XT.Arr .byte b B s ∧ Typed .byte B
/-- whether two byte[] are equal, place for place -/
theorem law (l : Launch) (a : Addr) (A : Cell) (b : Addr) (B : Cell) : Law l yN 2 2 0 0 yB 3 (some .boolean) site (P a A b B) (Says01 (EqC A B)) [] 0 0 := by
  refine Law.of_walk (plainFor_of_name (by decide +kernel)) (by decide +kernel) (by decide +kernel) (by decide) (fun _ _ h => by rw [h.1]; rfl) (fun _ U U' hal hh h => ⟨h.1, h.2.1.mv hal hh, h.2.2.1, h.2.2.2.1.mv hal hh, h.2.2.2.2⟩) (fun r U U' V V' h1 hal h2 h => Says01.mv r U U' V V' h1 hal h2 h) ?_
  intro p e s m args below meth c s₁ X0 hexec hbytes hml hret hlk hnm hown hh0 W hP
  obtain ⟨rfl, hA, tA, hB, tB⟩ := hP
  have a31 := hA.2.2.2
  have b31 := hB.2.2.2
  have hA0 := hA.mv X0.warmed.alike hh0
  have hB0 := hB.mv X0.warmed.alike hh0
  have c1 : Steps p.tables e below (s₁.setTop (entryFrame m #[.ref a, .ref b] 3)) (s₁.setTop (mkF m 0 #[.val (.ref a), .val (.ref b), .unset] [])) := entry rfl
  have c2 : Steps p.tables e below (s₁.setTop (entryFrame m #[.ref a, .ref b] 3)) (s₁.setTop (mkF m 4 #[.val (.ref a), .val (.ref b), .unset] [.int (Int32.ofNat B.slots.size), .int (Int32.ofNat A.slots.size)])) := c1.trans (by
    refine XS.aloadN X0.here hexec rfl (hb hbytes d0) rfl rfl ?_
    refine X0.alen hexec hA0 rfl rfl (hb hbytes d1) ?_
    refine XS.aloadN X0.here hexec rfl (hb hbytes d2) rfl rfl ?_
    refine X0.alen hexec hB0 rfl rfl (hb hbytes d3) ?_
    exact Steps.refl _)
  by_cases hs : A.slots.size = B.slots.size
  · have c3 : Steps p.tables e below (s₁.setTop (entryFrame m #[.ref a, .ref b] 3)) (s₁.setTop (mkF m 9 #[.val (.ref a), .val (.ref b), .val (.int 0)] [])) := c2.trans (by
      refine XS.icmpNo X0.here hexec rfl (hb hbytes d4) rfl (ii_ne_f (by rw [hs])) ?_
      refine iconstV X0.here hexec rfl 0 (hb hbytes d7) (by decide) ?_
      refine XS.istoreN X0.here hexec rfl (hb hbytes d8) rfl rfl ?_
      exact Steps.refl _)
    have loop : ∀ (r i : Nat), i + r = A.slots.size → (∀ j, j < i → yv A j = yv B j) → Steps p.tables e below (s₁.setTop (entryFrame m #[.ref a, .ref b] 3)) (s₁.setTop (mkF m 9 #[.val (.ref a), .val (.ref b), .val (.int (Int32.ofNat i))] [])) → ∃ (pc : Nat) (Ls : Array Slot) (v : Int32), (pc = 25 ∨ pc = 33) ∧ ((v = 1 ∧ EqC A B) ∨ (v = 0 ∧ ¬ EqC A B)) ∧ Steps p.tables e below (s₁.setTop (entryFrame m #[.ref a, .ref b] 3)) (s₁.setTop (mkF m pc Ls [.int v])) := by
      intro r
      induction r with
      | zero =>
        intro i hi he cl
        exact ⟨33, _, 1, Or.inr rfl, Or.inl ⟨rfl, hs, fun j hj => he j (by omega)⟩, cl.trans (by
          refine XS.iloadN X0.here hexec rfl (hb hbytes d9) rfl ?_
          refine XS.aloadN X0.here hexec rfl (hb hbytes d10) rfl rfl ?_
          refine X0.alen hexec hA0 rfl rfl (hb hbytes d11) ?_
          refine XS.icmpYes X0.here hexec rfl (pc0 := 12) rfl (hb hbytes d12) rfl (ii_ge_t (nlt32 (by omega) (by omega))) (by decide) rfl ?_
          refine iconstV X0.here hexec rfl 1 (hb hbytes d32) (by decide) ?_
          exact Steps.refl _)⟩
      | succ r ih =>
        intro i hi he cl
        have c4 : Steps p.tables e below (s₁.setTop (entryFrame m #[.ref a, .ref b] 3)) (s₁.setTop (mkF m 21 #[.val (.ref a), .val (.ref b), .val (.int (Int32.ofNat i))] [.int (yv B i), .int (yv A i)])) := cl.trans (by
          refine XS.iloadN X0.here hexec rfl (hb hbytes d9) rfl ?_
          refine XS.aloadN X0.here hexec rfl (hb hbytes d10) rfl rfl ?_
          refine X0.alen hexec hA0 rfl rfl (hb hbytes d11) ?_
          refine XS.icmpNo X0.here hexec rfl (hb hbytes d12) rfl (ii_ge_f (lt32 (by omega) (by omega))) ?_
          refine XS.aloadN X0.here hexec rfl (hb hbytes d15) rfl rfl ?_
          refine XS.iloadN X0.here hexec rfl (hb hbytes d16) rfl ?_
          refine X0.aget hexec hA0 rfl (yv_get hA tA (i := i) (by omega)) rfl rfl (hb hbytes d17) ?_
          refine XS.aloadN X0.here hexec rfl (hb hbytes d18) rfl rfl ?_
          refine XS.iloadN X0.here hexec rfl (hb hbytes d19) rfl ?_
          refine X0.aget hexec hB0 rfl (yv_get hB tB (i := i) (by omega)) rfl rfl (hb hbytes d20) ?_
          exact Steps.refl _)
        by_cases hv : yv A i = yv B i
        · have c5 : Steps p.tables e below (s₁.setTop (entryFrame m #[.ref a, .ref b] 3)) (s₁.setTop (mkF m 9 #[.val (.ref a), .val (.ref b), .val (.int (Int32.ofNat i + 1))] [])) := c4.trans (by
            refine XS.icmpYes X0.here hexec rfl (pc0 := 21) rfl (hb hbytes d21) rfl (ii_eq_t hv) (by decide) rfl ?_
            refine iincV X0.here hexec rfl 1 (hb hbytes d26) (by decide) rfl rfl ?_
            refine XS.goto X0.here hexec rfl (pc0 := 29) rfl (hb hbytes d29) (by decide) rfl ?_
            exact Steps.refl _)
          rw [succ32] at c5
          exact ih (i + 1) (by omega) (fun j hj => by
            by_cases e : j = i
            · rw [e]; exact hv
            · exact he j (by omega)) c5
        · exact ⟨25, _, 0, Or.inl rfl, Or.inr ⟨rfl, fun q => hv (q.2 i (by omega))⟩, c4.trans (by
            refine XS.icmpNo X0.here hexec rfl (hb hbytes d21) rfl (ii_eq_f hv) ?_
            refine iconstV X0.here hexec rfl 0 (hb hbytes d24) (by decide) ?_
            exact Steps.refl _)⟩
    obtain ⟨pc, Ls, v, hpc, hv, cz⟩ := loop A.slots.size 0 (by omega) (fun j hj => absurd hj (Nat.not_lt_zero j)) c3
    have nv : narrow .boolean (.int v) = .int v := by rcases hv with ⟨rfl, -⟩ | ⟨rfl, -⟩ <;> rfl
    rcases hpc with rfl | rfl
    · exact ⟨s₁, some (.int v), _, _, _, X0, rfl, rfl, rfl, (fun h => by cases h), ⟨v, rfl, hh0, hv⟩, fun fs hl => cz.trans (X0.ireturnOut hexec hret nv (Or.inr (Or.inl rfl)) (hb hbytes d25) hl)⟩
    · exact ⟨s₁, some (.int v), _, _, _, X0, rfl, rfl, rfl, (fun h => by cases h), ⟨v, rfl, hh0, hv⟩, fun fs hl => cz.trans (X0.ireturnOut hexec hret nv (Or.inr (Or.inl rfl)) (hb hbytes d33) hl)⟩
  · have c3 : Steps p.tables e below (s₁.setTop (entryFrame m #[.ref a, .ref b] 3)) (s₁.setTop (mkF m 35 #[.val (.ref a), .val (.ref b), .unset] [.int 0])) := c2.trans (by
      refine XS.icmpYes X0.here hexec rfl (pc0 := 4) rfl (hb hbytes d4) rfl (ii_ne_t (ne32 a31 b31 hs)) (by decide) rfl ?_
      refine iconstV X0.here hexec rfl 0 (hb hbytes d34) (by decide) ?_
      exact Steps.refl _)
    exact ⟨s₁, some (.int 0), _, _, _, X0, rfl, rfl, rfl, (fun h => by cases h), ⟨0, rfl, hh0, Or.inr ⟨rfl, fun q => hs q.1⟩⟩, fun fs hl => c3.trans (X0.ireturnOut hexec hret rfl (Or.inr (Or.inl rfl)) (hb hbytes d35) hl)⟩
end LEq
theorem Cod.ty {cd : Int32} {n : Nat} {f : Nat → Int32} {V : Cell} (h : Cod cd n f V) : Typed .byte V := fun i v hv => by
  have hi : i < V.slots.size := (Array.getElem?_eq_some_iff.mp hv).1
  rcases h with ⟨-, k1, k2⟩ | ⟨-, k1, k2, -⟩
  · rw [(k2 i (by omega)).1] at hv; cases hv; exact fits_lo8 _
  · rcases Nat.mod_two_eq_zero_or_one i with e | e
    · obtain ⟨j, rfl⟩ : ∃ j, i = 2 * j := ⟨i / 2, by omega⟩
      rw [(k2 j (by omega)).1] at hv; cases hv; exact fits_lo8 _
    · obtain ⟨j, rfl⟩ : ∃ j, i = 2 * j + 1 := ⟨i / 2, by omega⟩
      rw [(k2 j (by omega)).2] at hv; cases hv; exact fits_lo8 _
/-- the same text -/
def SameT (n : Nat) (f : Nat → Int32) (k : Nat) (g : Nat → Int32) : Prop := n = k ∧ ∀ j, j < n → f j = g j
theorem lo8_inj {x y : Int32} (h0 : ¬ x < 0) (h1 : ¬ 255 < x) (k0 : ¬ y < 0) (k1 : ¬ 255 < y) (h : lo8 x = lo8 y) : x = y := by
  rw [← lo8_mask h0 h1, ← lo8_mask k0 k1, h]
/-- arrays coded by one coder are equal just where the texts are -/
theorem Cod.eqv {cd : Int32} {n k : Nat} {f g : Nat → Int32} {V V' : Cell} (h : Cod cd n f V) (h' : Cod cd k g V') (hf : ∀ j, j < n → ¬ f j < 0 ∧ ¬ 65535 < f j) (hg : ∀ j, j < k → ¬ g j < 0 ∧ ¬ 65535 < g j) : EqC V V' ↔ SameT n f k g := by
  have yvv : ∀ {W : Cell} {i : Nat} {x : Int32}, W.slots[i]? = some (.int x) → yv W i = x := fun q => by unfold yv; rw [q]
  rcases h with ⟨rfl, k1, k2⟩ | ⟨rfl, k1, k2, -⟩
  · rcases h' with ⟨-, m1, m2⟩ | ⟨e, -⟩
    · constructor
      · rintro ⟨e1, e2⟩
        refine ⟨by omega, fun j hj => ?_⟩
        have q := e2 j (by omega)
        rw [yvv (k2 j hj).1, yvv (m2 j (by omega)).1] at q
        exact lo8_inj (hf j hj).1 (k2 j hj).2 (hg j (by omega)).1 (m2 j (by omega)).2 q
      · rintro ⟨rfl, e2⟩
        refine ⟨by omega, fun j hj => ?_⟩
        rw [yvv (k2 j (by omega)).1, yvv (m2 j (by omega)).1, e2 j (by omega)]
    · exact absurd e (by decide)
  · rcases h' with ⟨e, -⟩ | ⟨-, m1, m2, -⟩
    · exact absurd e (by decide)
    · constructor
      · rintro ⟨e1, e2⟩
        refine ⟨by omega, fun j hj => ?_⟩
        have q1 := e2 (2 * j) (by omega)
        have q2 := e2 (2 * j + 1) (by omega)
        rw [yvv (k2 j hj).1, yvv (m2 j (by omega)).1] at q1
        rw [yvv (k2 j hj).2, yvv (m2 j (by omega)).2] at q2
        rw [← pair_says (hf j hj).1 (hf j hj).2, ← pair_says (hg j (by omega)).1 (hg j (by omega)).2, q1, q2]
      · rintro ⟨rfl, e2⟩
        refine ⟨by omega, fun i hi => ?_⟩
        rcases Nat.mod_two_eq_zero_or_one i with e | e
        · obtain ⟨j, rfl⟩ : ∃ j, i = 2 * j := ⟨i / 2, by omega⟩
          rw [yvv (k2 j (by omega)).1, yvv (m2 j (by omega)).1, e2 j (by omega)]
        · obtain ⟨j, rfl⟩ : ∃ j, i = 2 * j + 1 := ⟨i / 2, by omega⟩
          rw [yvv (k2 j (by omega)).2, yvv (m2 j (by omega)).2, e2 j (by omega)]
/-- two codings differ: so do the texts -/
theorem Cod.dif {cd cd' : Int32} {n k : Nat} {f g : Nat → Int32} {V V' : Cell} (h : Cod cd n f V) (h' : Cod cd' k g V') (hne : ¬ cd = cd') : ¬ SameT n f k g := by
  rintro ⟨rfl, e⟩
  rcases h with ⟨rfl, -, k2⟩ | ⟨rfl, -, -, j, hj, hw⟩
  · rcases h' with ⟨rfl, -⟩ | ⟨-, -, -, j, hj, hw⟩
    · exact hne rfl
    · exact (k2 j hj).2 (by rw [e j hj]; exact hw)
  · rcases h' with ⟨-, -, m2⟩ | ⟨rfl, -⟩
    · exact (m2 j hj).2 (by rw [← e j hj]; exact hw)
    · exact hne rfl
/-- an object of exactly C is an instance of C -/
theorem cinst {p : Program} {l : Launch} {e : Env} {R : Room} {s : State} {m : MethodId} {args : Array Value} {below : List Frame} {meth : Method} {c : Code} {T : State} {locs : List Loc} {cells slots : Nat} (X : Stand p l e R s m args below meth c T locs cells slots) (hexec : p.tables.exec = Jvm.exec) {own C : String} {index : Nat} (hown : s.vm.findClass own = some m.cls) (hlink : (Cond.classLink own index C).before args s = true) {a : Addr} (hE : Exact C a T)
    {g : JFrame} (hg : g.method = m) {rest : List Value} (hstack : g.stack = .ref a :: rest) (hdg : decode c.code g.pc = .ok (.instanceof index, 3)) :
    ∃ T', Stand p l e R s m args below meth c T' locs cells slots ∧ T'.heap = T.heap ∧ ∀ target, Steps p.tables e below (T'.setTop { g with pc := g.pc + 3, stack := .int 1 :: rest }) target → Steps p.tables e below (T.setTop g) target := by
  obtain ⟨cB, h1, D, h2, h3, h4⟩ := hE
  have h1' : s.vm.findClass C = some cB := by rw [← X.warmed.alike.findClass]; exact h1
  obtain ⟨vm', X', st⟩ := X.instanceofYes hexec hown hlink h2 h4 h1' (by rw [h3]; exact Jvm.Free.SB.assignable_self _ _) hg hstack hdg
  exact ⟨_, X', rfl, st⟩
theorem cself {p : Program} {l : Launch} {e : Env} {R : Room} {s : State} {m : MethodId} {args : Array Value} {below : List Frame} {meth : Method} {c : Code} {T : State} {locs : List Loc} {cells slots : Nat} (X : Stand p l e R s m args below meth c T locs cells slots) (hexec : p.tables.exec = Jvm.exec) {own C : String} {index : Nat} (hown : s.vm.findClass own = some m.cls) (hlink : (Cond.classLink own index C).before args s = true) {a : Addr} (hE : Exact C a T)
    {g : JFrame} (hg : g.method = m) {rest : List Value} (hstack : g.stack = .ref a :: rest) (hdg : decode c.code g.pc = .ok (.checkcast index, 3)) :
    ∃ T', Stand p l e R s m args below meth c T' locs cells slots ∧ T'.heap = T.heap ∧ ∀ target, Steps p.tables e below (T'.setTop { g with pc := g.pc + 3, stack := .ref a :: rest }) target → Steps p.tables e below (T.setTop g) target := by
  obtain ⟨cB, h1, D, h2, h3, h4⟩ := hE
  have h1' : s.vm.findClass C = some cB := by rw [← X.warmed.alike.findClass]; exact h1
  obtain ⟨vm', X', st⟩ := X.checkcastYes hexec hown hlink h2 h4 h1' (by rw [h3]; exact Jvm.Free.SB.assignable_self _ _) hg hstack hdg
  exact ⟨_, X', rfl, fun t h => st t (by rw [← hstack] at h; exact h)⟩
namespace SEq
def yN : MethodName := ⟨"java/lang/String", "equals", "(Ljava/lang/Object;)Z"⟩
abbrev yB : ByteArray := jdk_42_method_66_code
theorem d0 : decode yB 0 = .ok (.aload_n 0, 1) := by decide +kernel
theorem d1 : decode yB 1 = .ok (.aload_n 1, 1) := by decide +kernel
theorem d2 : decode yB 2 = .ok (.if_acmp (.ne) 5, 3) := by decide +kernel
theorem d5 : decode yB 5 = .ok (.iconst 1, 1) := by decide +kernel
theorem d6 : decode yB 6 = .ok (.ireturn, 1) := by decide +kernel
theorem d7 : decode yB 7 = .ok (.aload_n 1, 1) := by decide +kernel
theorem d8 : decode yB 8 = .ok (.instanceof 10, 3) := by decide +kernel
theorem d11 : decode yB 11 = .ok (.ifCond (.eq) 43, 3) := by decide +kernel
theorem d14 : decode yB 14 = .ok (.aload_n 1, 1) := by decide +kernel
theorem d15 : decode yB 15 = .ok (.checkcast 10, 3) := by decide +kernel
theorem d18 : decode yB 18 = .ok (.astore_n 2, 1) := by decide +kernel
theorem d19 : decode yB 19 = .ok (.getstatic 38, 3) := by decide +kernel
theorem d22 : decode yB 22 = .ok (.ifCond (.eq) 14, 3) := by decide +kernel
theorem d25 : decode yB 25 = .ok (.aload_n 0, 1) := by decide +kernel
theorem d26 : decode yB 26 = .ok (.getfield 15, 3) := by decide +kernel
theorem d29 : decode yB 29 = .ok (.aload_n 2, 1) := by decide +kernel
theorem d30 : decode yB 30 = .ok (.getfield 15, 3) := by decide +kernel
theorem d33 : decode yB 33 = .ok (.if_icmp (.ne) 21, 3) := by decide +kernel
theorem d36 : decode yB 36 = .ok (.aload_n 0, 1) := by decide +kernel
theorem d37 : decode yB 37 = .ok (.getfield 9, 3) := by decide +kernel
theorem d40 : decode yB 40 = .ok (.aload_n 2, 1) := by decide +kernel
theorem d41 : decode yB 41 = .ok (.getfield 9, 3) := by decide +kernel
theorem d44 : decode yB 44 = .ok (.invokestatic 541, 3) := by decide +kernel
theorem d47 : decode yB 47 = .ok (.ifCond (.eq) 7, 3) := by decide +kernel
theorem d50 : decode yB 50 = .ok (.iconst 1, 1) := by decide +kernel
theorem d51 : decode yB 51 = .ok (.goto 4, 3) := by decide +kernel
theorem d54 : decode yB 54 = .ok (.iconst 0, 1) := by decide +kernel
theorem d55 : decode yB 55 = .ok (.ireturn, 1) := by decide +kernel
def site : List Cond := [.classLink "java/lang/String" 10 "java/lang/String", .fieldLink "java/lang/String" 38 "java/lang/String" "COMPACT_STRINGS" "Z", .fieldLink "java/lang/String" 15 "java/lang/String" "coder" "B", .fieldLink "java/lang/String" 9 "java/lang/String" "value" "[B", LEq.tab] ++ staticW "java/lang/String" 541 LEq.yN
def tab : Cond := tabOf yN yB 3 (some .boolean) site
def P (x t : Addr) (V : Cell) (cd : Int32) (n : Nat) (f : Nat → Int32) (y t' : Addr) (V' : Cell) (cd' : Int32) (k : Nat) (g : Nat → Int32) (z : Int32) (args : Array Value) (s : State) : Prop := args = #[.ref x, .ref y] ∧ Txt x t V cd n f s ∧ Txt y t' V' cd' k g s ∧ StaticIs s "java/lang/String" "COMPACT_STRINGS" "Z" (.int z) ∧ ¬ z = 0
/-- equals(Object) of two Strings: whether the texts are the same -/
theorem law (l : Launch) (x t : Addr) (V : Cell) (cd : Int32) (n : Nat) (f : Nat → Int32) (y t' : Addr) (V' : Cell) (cd' : Int32) (k : Nat) (g : Nat → Int32) (z : Int32) : Law l yN 2 1 1 14 yB 3 (some .boolean) site (P x t V cd n f y t' V' cd' k g z) (Says01 (SameT n f k g)) [] 0 0 := by
  refine Law.of_walk (plainFor_of_name (by decide +kernel)) (by decide +kernel) (by decide +kernel) (by decide) (fun _ _ h => by rw [h.1]; rfl) (fun _ U U' hal hh h => ⟨h.1, h.2.1.mv hal hh, h.2.2.1.mv hal hh, h.2.2.2.1.there hal hh, h.2.2.2.2⟩) (fun r U U' V V' h1 hal h2 h => Says01.mv r U U' V V' h1 hal h2 h) ?_
  intro p e s m args below meth c s₁ X0 hexec hbytes hml hret hlk hnm hown hh0 W hP
  obtain ⟨rfl, hx, hy, s1, hz⟩ := hP
  have c1 : Steps p.tables e below (s₁.setTop (entryFrame m #[.ref x, .ref y] 3)) (s₁.setTop (mkF m 2 #[.val (.ref x), .val (.ref y), .unset] [.ref y, .ref x])) := Steps.trans (entry rfl) (by
    show Steps p.tables e below (s₁.setTop (mkF m 0 #[.val (.ref x), .val (.ref y), .unset] [])) _
    refine XS.aloadN X0.here hexec rfl (hb hbytes d0) rfl rfl ?_
    refine XS.aloadN X0.here hexec rfl (hb hbytes d1) rfl rfl ?_
    exact Steps.refl _)
  by_cases hxy : x = y
  · have c2 : Steps p.tables e below (s₁.setTop (entryFrame m #[.ref x, .ref y] 3)) (s₁.setTop (mkF m 6 #[.val (.ref x), .val (.ref y), .unset] [.int 1])) := c1.trans (by
      refine acmpNo X0.here hexec rfl (hb hbytes d2) rfl rfl rfl (by simp [acmp, hxy]) ?_
      refine iconstV X0.here hexec rfl 1 (hb hbytes d5) (by decide) ?_
      exact Steps.refl _)
    subst hxy
    have ec : cd = cd' := by
      obtain ⟨D, fd, a1, a2, a3⟩ := hx.2.2.1
      obtain ⟨D', fd', b1, b2, b3⟩ := hy.2.2.1
      cases a1.symm.trans b1
      obtain ⟨q1, q2, q3, q4⟩ := a2.1
      obtain ⟨r1, r2, r3, r4⟩ := b2.1
      cases q4.symm.trans r4
      cases a3.symm.trans b3; rfl
    have et : t = t' := by
      obtain ⟨D, fd, a1, a2, a3⟩ := hx.2.1
      obtain ⟨D', fd', b1, b2, b3⟩ := hy.2.1
      cases a1.symm.trans b1
      obtain ⟨q1, q2, q3, q4⟩ := a2.1
      obtain ⟨r1, r2, r3, r4⟩ := b2.1
      cases q4.symm.trans r4
      cases a3.symm.trans b3; rfl
    subst ec et
    have ev : V = V' := by cases hx.2.2.2.1.1.symm.trans hy.2.2.2.1.1; rfl
    subst ev
    have hs : SameT n f k g := (Cod.eqv hx.2.2.2.2.1 hy.2.2.2.2.1 hx.2.2.2.2.2 hy.2.2.2.2.2).mp ⟨rfl, fun _ _ => rfl⟩
    exact ⟨s₁, some (.int 1), _, _, _, X0, rfl, rfl, rfl, (fun h => by cases h), ⟨1, rfl, hh0, Or.inl ⟨rfl, hs⟩⟩, fun fs hl => c2.trans (X0.ireturnOut hexec hret rfl (Or.inr (Or.inl rfl)) (hb hbytes d6) hl)⟩
  · have c2 : Steps p.tables e below (s₁.setTop (entryFrame m #[.ref x, .ref y] 3)) (s₁.setTop (mkF m 8 #[.val (.ref x), .val (.ref y), .unset] [.ref y])) := c1.trans (by
      refine acmpYes X0.here hexec rfl (pc0 := 2) rfl (hb hbytes d2) rfl rfl rfl (by simp [acmp, hxy]) (by decide) rfl ?_
      refine XS.aloadN X0.here hexec rfl (hb hbytes d7) rfl rfl ?_
      exact Steps.refl _)
    obtain ⟨T3, X3, q3, st3⟩ := cinst X0 hexec hown (wk W (.classLink "java/lang/String" 10 "java/lang/String")) (hy.mv X0.warmed.alike hh0).1 (g := (mkF m 8 #[.val (.ref x), .val (.ref y), .unset] [.ref y])) rfl (rest := []) rfl (hb hbytes d8)
    have hh3 := q3.trans hh0
    have c4 : Steps p.tables e below (s₁.setTop (entryFrame m #[.ref x, .ref y] 3)) (T3.setTop (mkF m 15 #[.val (.ref x), .val (.ref y), .unset] [.ref y])) := (c2.trans (st3 _ (Steps.refl _))).trans (by
      refine XS.ifNo X3.here hexec rfl (hb hbytes d11) rfl (i0_eq_f (by decide)) ?_
      refine XS.aloadN X3.here hexec rfl (hb hbytes d14) rfl rfl ?_
      exact Steps.refl _)
    obtain ⟨T5, X5, q5, st5⟩ := cself X3 hexec hown (wk W (.classLink "java/lang/String" 10 "java/lang/String")) (hy.mv X3.warmed.alike hh3).1 (g := (mkF m 15 #[.val (.ref x), .val (.ref y), .unset] [.ref y])) rfl (rest := []) rfl (hb hbytes d15)
    have hh5 := q5.trans hh3
    have c6 : Steps p.tables e below (s₁.setTop (entryFrame m #[.ref x, .ref y] 3)) (T5.setTop (mkF m 19 #[.val (.ref x), .val (.ref y), .val (.ref y)] [])) := (c4.trans (st5 _ (Steps.refl _))).trans (by
      refine XS.astoreN X5.here hexec rfl (hb hbytes d18) rfl rfl rfl ?_
      exact Steps.refl _)
    obtain ⟨T7, X7, q7, st7⟩ := X5.sget hexec hown (wk W (.fieldLink "java/lang/String" 38 "java/lang/String" "COMPACT_STRINGS" "Z")) s1 (fun _ _ h => by rw [hh5]; exact h) (g := (mkF m 19 #[.val (.ref x), .val (.ref y), .val (.ref y)] [])) rfl (hb hbytes d19)
    have hh7 := q7.trans hh5
    have c8 : Steps p.tables e below (s₁.setTop (entryFrame m #[.ref x, .ref y] 3)) (T7.setTop (mkF m 26 #[.val (.ref x), .val (.ref y), .val (.ref y)] [.ref x])) := (c6.trans (st7 _ (Steps.refl _))).trans (by
      refine XS.ifNo X7.here hexec rfl (hb hbytes d22) rfl (i0_eq_f hz) ?_
      refine XS.aloadN X7.here hexec rfl (hb hbytes d25) rfl rfl ?_
      exact Steps.refl _)
    obtain ⟨T9, X9, q9, st9⟩ := X7.hget hexec hown (wk W (.fieldLink "java/lang/String" 15 "java/lang/String" "coder" "B")) (hx.mv X7.warmed.alike hh7).2.2.1 (g := (mkF m 26 #[.val (.ref x), .val (.ref y), .val (.ref y)] [.ref x])) rfl (rest := []) rfl (hb hbytes d26)
    have hh9 := q9.trans hh7
    have c10 : Steps p.tables e below (s₁.setTop (entryFrame m #[.ref x, .ref y] 3)) (T9.setTop (mkF m 30 #[.val (.ref x), .val (.ref y), .val (.ref y)] [.ref y, .int cd])) := (c8.trans (st9 _ (Steps.refl _))).trans (by
      refine XS.aloadN X9.here hexec rfl (hb hbytes d29) rfl rfl ?_
      exact Steps.refl _)
    obtain ⟨T11, X11, q11, st11⟩ := X9.hget hexec hown (wk W (.fieldLink "java/lang/String" 15 "java/lang/String" "coder" "B")) (hy.mv X9.warmed.alike hh9).2.2.1 (g := (mkF m 30 #[.val (.ref x), .val (.ref y), .val (.ref y)] [.ref y, .int cd])) rfl (rest := [.int cd]) rfl (hb hbytes d30)
    have hh11 := q11.trans hh9
    have c12 : Steps p.tables e below (s₁.setTop (entryFrame m #[.ref x, .ref y] 3)) (T11.setTop (mkF m 33 #[.val (.ref x), .val (.ref y), .val (.ref y)] [.int cd', .int cd])) := c10.trans (st11 _ (Steps.refl _))
    by_cases hcd : cd = cd'
    · subst hcd
      have c13 : Steps p.tables e below (s₁.setTop (entryFrame m #[.ref x, .ref y] 3)) (T11.setTop (mkF m 37 #[.val (.ref x), .val (.ref y), .val (.ref y)] [.ref x])) := c12.trans (by
        refine XS.icmpNo X11.here hexec rfl (hb hbytes d33) rfl (ii_ne_f rfl) ?_
        refine XS.aloadN X11.here hexec rfl (hb hbytes d36) rfl rfl ?_
        exact Steps.refl _)
      obtain ⟨T14, X14, q14, st14⟩ := X11.hget hexec hown (wk W (.fieldLink "java/lang/String" 9 "java/lang/String" "value" "[B")) (hx.mv X11.warmed.alike hh11).2.1 (g := (mkF m 37 #[.val (.ref x), .val (.ref y), .val (.ref y)] [.ref x])) rfl (rest := []) rfl (hb hbytes d37)
      have hh14 := q14.trans hh11
      have c15 : Steps p.tables e below (s₁.setTop (entryFrame m #[.ref x, .ref y] 3)) (T14.setTop (mkF m 41 #[.val (.ref x), .val (.ref y), .val (.ref y)] [.ref y, .ref t])) := (c13.trans (st14 _ (Steps.refl _))).trans (by
        refine XS.aloadN X14.here hexec rfl (hb hbytes d40) rfl rfl ?_
        exact Steps.refl _)
      obtain ⟨T16, X16, q16, st16⟩ := X14.hget hexec hown (wk W (.fieldLink "java/lang/String" 9 "java/lang/String" "value" "[B")) (hy.mv X14.warmed.alike hh14).2.1 (g := (mkF m 41 #[.val (.ref x), .val (.ref y), .val (.ref y)] [.ref y, .ref t])) rfl (rest := [.ref t]) rfl (hb hbytes d41)
      have hh16 := q16.trans hh14
      have c17 : Steps p.tables e below (s₁.setTop (entryFrame m #[.ref x, .ref y] 3)) (T16.setTop (mkF m 44 #[.val (.ref x), .val (.ref y), .val (.ref y)] [.ref t', .ref t])) := c15.trans (st16 _ (Steps.refl _))
      obtain ⟨v18, T18, X18, E18, g18⟩ := X16.callS hexec (LEq.law l t V t' V') hown (wks W (staticW "java/lang/String" 541 LEq.yN)) (wk W LEq.tab) (W := 0) (Nat.le_of_ble_eq_true rfl) (Nat.le_of_ble_eq_true rfl) (Nat.le_refl _) (Nat.le_refl _) (g := (mkF m 44 #[.val (.ref x), .val (.ref y), .val (.ref y)] [.ref t', .ref t])) rfl (by rw [hml]; rfl) c17 (argsL := [.ref t, .ref t']) (rest := []) rfl rfl (by show 2 * 0 + 0 ≤ _; decide) (hb hbytes d44) (⟨rfl, hx.2.2.2.1.mv X16.warmed.alike hh16, hx.2.2.2.2.1.ty, hy.2.2.2.1.mv X16.warmed.alike hh16, hy.2.2.2.2.1.ty⟩)
      obtain ⟨v, rfl, q18, hv⟩ := E18
      have iff := Cod.eqv hx.2.2.2.2.1 hy.2.2.2.2.1 hx.2.2.2.2.2 hy.2.2.2.2.2
      rcases hv with ⟨rfl, he⟩ | ⟨rfl, he⟩
      · have c19 : Steps p.tables e below (s₁.setTop (entryFrame m #[.ref x, .ref y] 3)) (T18.setTop (mkF m 55 #[.val (.ref x), .val (.ref y), .val (.ref y)] [.int 1])) := Steps.trans g18 (by
          refine XS.ifNo X18.here hexec rfl (hb hbytes d47) rfl (i0_eq_f (by decide)) ?_
          refine iconstV X18.here hexec rfl 1 (hb hbytes d50) (by decide) ?_
          refine XS.goto X18.here hexec rfl (pc0 := 51) rfl (hb hbytes d51) (by decide) rfl ?_
          exact Steps.refl _)
        exact ⟨T18, some (.int 1), _, _, _, X18, rfl, rfl, rfl, (fun h => by cases h), ⟨1, rfl, q18.trans hh16, Or.inl ⟨rfl, iff.mp he⟩⟩, fun fs hl => c19.trans (X18.ireturnOut hexec hret rfl (Or.inr (Or.inl rfl)) (hb hbytes d55) hl)⟩
      · have c19 : Steps p.tables e below (s₁.setTop (entryFrame m #[.ref x, .ref y] 3)) (T18.setTop (mkF m 55 #[.val (.ref x), .val (.ref y), .val (.ref y)] [.int 0])) := Steps.trans g18 (by
          refine XS.ifYes X18.here hexec rfl (pc0 := 47) rfl (hb hbytes d47) rfl (i0_eq_t rfl) (by decide) rfl ?_
          refine iconstV X18.here hexec rfl 0 (hb hbytes d54) (by decide) ?_
          exact Steps.refl _)
        exact ⟨T18, some (.int 0), _, _, _, X18, rfl, rfl, rfl, (fun h => by cases h), ⟨0, rfl, q18.trans hh16, Or.inr ⟨rfl, fun q => he (iff.mpr q)⟩⟩, fun fs hl => c19.trans (X18.ireturnOut hexec hret rfl (Or.inr (Or.inl rfl)) (hb hbytes d55) hl)⟩
    · have c13 : Steps p.tables e below (s₁.setTop (entryFrame m #[.ref x, .ref y] 3)) (T11.setTop (mkF m 55 #[.val (.ref x), .val (.ref y), .val (.ref y)] [.int 0])) := c12.trans (by
        refine XS.icmpYes X11.here hexec rfl (pc0 := 33) rfl (hb hbytes d33) rfl (ii_ne_t hcd) (by decide) rfl ?_
        refine iconstV X11.here hexec rfl 0 (hb hbytes d54) (by decide) ?_
        exact Steps.refl _)
      exact ⟨T11, some (.int 0), _, _, _, X11, rfl, rfl, rfl, (fun h => by cases h), ⟨0, rfl, hh11, Or.inr ⟨rfl, Cod.dif hx.2.2.2.2.1 hy.2.2.2.2.1 hcd⟩⟩, fun fs hl => c13.trans (X11.ireturnOut hexec hret rfl (Or.inr (Or.inl rfl)) (hb hbytes d55) hl)⟩
theorem pays {l : Launch} {R : Room} {p : Program} {e : Env} {below : List Frame} {s : State} {sargs : Array Value} {len W : Nat} (x t : Addr) (V : Cell) (cd : Int32) (n : Nat) (f : Nat → Int32) (y t' : Addr) (V' : Cell) (cd' : Int32) (k : Nat) (g : Nat → Int32) (z : Int32) (htab : tab.before sargs s = true) (hfr : 2 ≤ R.frames) (hlo : W + 28 ≤ R.locals) :
    Back l R p e below s sargs yN len W (fun A₁ a₁ => A₁.cells + 0 ≤ R.cells ∧ A₁.slots + 0 ≤ R.slots ∧ P x t V cd n f y t' V' cd' k g z a₁ A₁.U) (fun A₁ _ v₁ B₁ => Says01 (SameT n f k g) v₁ A₁.U B₁.U ∧ B₁.locs = A₁.locs ++ [] ∧ B₁.cells = A₁.cells + 0 ∧ B₁.slots = A₁.slots + 0) :=
  (law l x t V cd n f y t' V' cd' k g z).pays htab hfr (by omega)
end SEq
end StrChars
namespace StrChars.Road
open Jvm Sem ClassFile Op Lib Jvm.Stand Jvm.Free Jvm.Free.XT
open Jvm.Lib.Cold (StaticIs)
/-- the words of String.isEmpty() -/
abbrev wordsEmp : List Jvm.Cond := [.code Emp.yN Emp.yB 1 (some .boolean), .initialized ST, .fieldLink ST 9 ST "value" "[B"]
theorem tabEmp_of {a : Array Value} {s : State} (h : ∀ w ∈ wordsEmp, w.before a s = true) : Emp.tab.before a s = true := unparts (wk h (.code Emp.yN Emp.yB 1 (some .boolean))) (wks h (.initialized Emp.yN.cls :: Emp.site))
theorem movedEmp {Z s : State} {a0 args : Array Value} (hZ : Z.Warmed39 s.vm) (hw : ∀ d ∈ wordsEmp, d.before a0 Z = true) : ∀ d ∈ wordsEmp, d.before args s = true := fun d hd => by
  have t : ∀ d ∈ wordsEmp, (d.onTables && d.keepsFace) = true := by decide +kernel
  exact RoadKit.mv hZ (hw d hd) (t d hd)
/-- the words of String.equals(Object) -/
abbrev wordsEq : List Jvm.Cond := [.code SEq.yN SEq.yB 3 (some .boolean), .initialized ST, .classLink ST 10 ST, .fieldLink ST 38 ST "COMPACT_STRINGS" "Z", .fieldLink ST 15 ST "coder" "B", .fieldLink ST 9 ST "value" "[B", .methodLink ST 541 LEq.yN, .static LEq.yN, .code LEq.yN LEq.yB 3 (some .boolean), .initialized "java/lang/StringLatin1"]
theorem tabEq_of {a : Array Value} {s : State} (h : ∀ w ∈ wordsEq, w.before a s = true) : SEq.tab.before a s = true := by
  have hl : LEq.tab.before a s = true := unparts (wk h (.code LEq.yN LEq.yB 3 (some .boolean))) (wks h (.initialized LEq.yN.cls :: LEq.site))
  have q := consq hl h
  exact unparts (wk q (.code SEq.yN SEq.yB 3 (some .boolean))) (wks q (.initialized SEq.yN.cls :: SEq.site))
theorem movedEq {Z s : State} {a0 args : Array Value} (hZ : Z.Warmed39 s.vm) (hw : ∀ d ∈ wordsEq, d.before a0 Z = true) : ∀ d ∈ wordsEq, d.before args s = true := fun d hd => by
  have t : ∀ d ∈ wordsEq, (d.onTables && d.keepsFace) = true := by decide +kernel
  exact RoadKit.mv hZ (hw d hd) (t d hd)
/-- the road's facts of a String, as the laws ask it -/
theorem txt_of {Z U : State} {a0 : Array Value} {kI : Nat} (wi : (Jvm.Cond.instantiable ST kI).before a0 Z = true) (al : Z.vm.Alike U.vm) {x t : Addr} {kb : ClassId} {cs : List Int32} {cd N2 : Int32} {vs : List Value} (E : RoadKit.Exa Z U.heap x ST) (V : RoadKit.Fld Z U.heap x ST "value" "[B" (.ref t)) (C : RoadKit.Fld Z U.heap x ST "coder" "B" (.int cd)) (K : RoadKit.Arv Z U.heap t kb .byte N2 vs (.int 0)) (hc : CodA cs cd N2 vs) (hb : ∀ c ∈ cs, ¬ c < 0 ∧ ¬ (65535 : Int32) < c) (l2 : cs.length ≤ 4000) :
    ∃ A, Txt x t A cd cs.length (fun j => cs.getD j 0) U := by
  obtain ⟨A, K1, K2, K3, K4, K5, K6⟩ := K
  have hcod := hc.cod (by omega) K3 K5
  obtain ⟨D, fV, fC, hB, F1, F2, g1, g2, -, -⟩ := strObj wi al E V C
  exact ⟨A, ⟨_, hB.2.2.1, D, hB.1, rfl, by cases q : D.vm <;> first | rfl | exact absurd q (hB.2.1.2 _)⟩, Has.of hB F1 g1, Has.of hB F2 g2, ⟨K1.1, State.isArrayOf_alike al K1.2.1, K1.2.2, by rcases hcod with ⟨-, q, -⟩ | ⟨-, q, -⟩ <;> omega⟩, hcod, fun j hj => by
    have e : cs.getD j 0 = cs[j] := by simp [List.getD_eq_getElem?_getD, hj]
    show ¬ cs.getD j 0 < 0 ∧ ¬ 65535 < cs.getD j 0
    rw [e]; exact hb _ (List.getElem_mem _)⟩
theorem same_list (cs ds : List Int32) : SameT cs.length (fun j => cs.getD j 0) ds.length (fun j => ds.getD j 0) ↔ cs = ds := by
  constructor
  · rintro ⟨e, q⟩
    refine List.ext_getElem e fun j h1 h2 => ?_
    have := q j h1
    simpa [List.getD_eq_getElem?_getD, h1, h2] using this
  · rintro rfl
    exact ⟨rfl, fun _ _ => rfl⟩
/-- **isEmpty() OF SUCH A STRING** -/
theorem empW {p : Program} {l : Launch} {e : Env} {R : Room} {s : State} {args : Array Value} {below : List Frame} {len W : Nat} {Z : State} {a0 : Array Value} {h : Heap} (hZ : Z.Warmed39 s.vm) (hw : ∀ d ∈ wordsEmp, d.before a0 Z = true) {kI : Nat} (wi : (Jvm.Cond.instantiable ST kI).before a0 Z = true)
    {x t : Addr} {kb : ClassId} {cs : List Int32} {cd N2 : Int32} {vs : List Value} (E : RoadKit.Exa Z h x ST) (V : RoadKit.Fld Z h x ST "value" "[B" (.ref t)) (C : RoadKit.Fld Z h x ST "coder" "B" (.int cd)) (K : RoadKit.Arv Z h t kb .byte N2 vs (.int 0)) (hc : CodA cs cd N2 vs) (hb : ∀ c ∈ cs, ¬ c < 0 ∧ ¬ (65535 : Int32) < c) (l2 : cs.length ≤ 4000) (hfr : 1 ≤ R.frames) (hlo : W + 12 ≤ R.locals) :
    Back l R p e below s args (⟨"java/lang/String", "isEmpty", "()Z"⟩ : MethodName) len W (fun P a => a = #[.ref x] ∧ P.U.heap = h ∧ P.cells + 0 ≤ R.cells ∧ P.slots + 0 ≤ R.slots)
      (fun P _ v B => ∃ L, (v = some (.int (if cs.length = 0 then 1 else 0)) ∧ L = [] ∧ B.U.heap = h) ∧ B.locs = P.locs ++ L ∧ B.cells = P.cells + 0 ∧ B.slots = P.slots + 0) := by
  intro m meth c P g ig mk a X hg hsize hdg hW hn hp'
  obtain ⟨rfl, rfl, r1, r2⟩ := hp'
  have al : Z.vm.Alike P.U.vm := hZ.alike.trans X.warmed.alike
  obtain ⟨A, hx⟩ := txt_of wi al E V C K hc hb l2
  obtain ⟨v, B, X', ⟨⟨hv, hh⟩, hl, hk, hs⟩, st⟩ := Emp.pays x t A cd cs.length (fun j => cs.getD j 0) (tabEmp_of (movedEmp hZ hw)) hfr hlo m meth c P g ig mk _ X hg hsize hdg hW hn ⟨r1, r2, rfl, hx⟩
  exact ⟨v, B, X', ⟨[], ⟨hv, rfl, hh⟩, hl, hk, hs⟩, st⟩
/-- **equals(Object) OF TWO SUCH STRINGS**: 1 just where the chars are the same -/
theorem eqW {p : Program} {l : Launch} {e : Env} {R : Room} {s : State} {args : Array Value} {below : List Frame} {len W : Nat} {Z : State} {a0 : Array Value} {h : Heap} (hZ : Z.Warmed39 s.vm) (hw : ∀ d ∈ wordsEq, d.before a0 Z = true) {kI : Nat} (wi : (Jvm.Cond.instantiable ST kI).before a0 Z = true)
    {x t : Addr} {kb : ClassId} {cs : List Int32} {cd N2 : Int32} {vs : List Value} (E : RoadKit.Exa Z h x ST) (V : RoadKit.Fld Z h x ST "value" "[B" (.ref t)) (C : RoadKit.Fld Z h x ST "coder" "B" (.int cd)) (K : RoadKit.Arv Z h t kb .byte N2 vs (.int 0)) (hc : CodA cs cd N2 vs) (hb : ∀ c ∈ cs, ¬ c < 0 ∧ ¬ (65535 : Int32) < c) (l2 : cs.length ≤ 4000)
    {y t' : Addr} {kb' : ClassId} {ds : List Int32} {cd' N2' : Int32} {vs' : List Value} (E' : RoadKit.Exa Z h y ST) (V' : RoadKit.Fld Z h y ST "value" "[B" (.ref t')) (C' : RoadKit.Fld Z h y ST "coder" "B" (.int cd')) (K' : RoadKit.Arv Z h t' kb' .byte N2' vs' (.int 0)) (hc' : CodA ds cd' N2' vs') (hb' : ∀ c ∈ ds, ¬ c < 0 ∧ ¬ (65535 : Int32) < c) (l2' : ds.length ≤ 4000)
    {z : Int32} (S : RoadKit.Sta Z h ST "COMPACT_STRINGS" "Z" (.int z)) (hz : ¬ z = 0) (hfr : 2 ≤ R.frames) (hlo : W + 28 ≤ R.locals) :
    Back l R p e below s args (⟨"java/lang/String", "equals", "(Ljava/lang/Object;)Z"⟩ : MethodName) len W (fun P a => a = #[.ref x, .ref y] ∧ P.U.heap = h ∧ P.cells + 0 ≤ R.cells ∧ P.slots + 0 ≤ R.slots)
      (fun P _ v B => ∃ L, (((v = some (.int 1) ∧ cs = ds) ∨ (v = some (.int 0) ∧ ¬ cs = ds)) ∧ L = [] ∧ B.U.heap = h) ∧ B.locs = P.locs ++ L ∧ B.cells = P.cells + 0 ∧ B.slots = P.slots + 0) := by
  intro m meth c P g ig mk a X hg hsize hdg hW hn hp'
  obtain ⟨rfl, rfl, r1, r2⟩ := hp'
  have al : Z.vm.Alike P.U.vm := hZ.alike.trans X.warmed.alike
  obtain ⟨A, hx⟩ := txt_of wi al E V C K hc hb l2
  obtain ⟨A', hy⟩ := txt_of wi al E' V' C' K' hc' hb' l2'
  obtain ⟨v, B, X', ⟨⟨w, hv, hh, hq⟩, hl, hk, hs⟩, st⟩ := SEq.pays x t A cd cs.length (fun j => cs.getD j 0) y t' A' cd' ds.length (fun j => ds.getD j 0) z (tabEq_of (movedEq hZ hw)) hfr hlo m meth c P g ig mk _ X hg hsize hdg hW hn ⟨r1, r2, rfl, hx, hy, sta_is al S, hz⟩
  refine ⟨v, B, X', ⟨[], ⟨?_, rfl, hh⟩, hl, hk, hs⟩, st⟩
  rcases hq with ⟨rfl, q⟩ | ⟨rfl, q⟩
  · exact Or.inl ⟨hv, (same_list cs ds).mp q⟩
  · exact Or.inr ⟨hv, fun e => q ((same_list cs ds).mpr e)⟩
end StrChars.Road
namespace StrChars
open Jvm Sem ClassFile Op Lib Jvm.Stand Jvm.Free.XT Jvm.Free.ALB Jvm.Free.JM Jvm.Free
open Jvm.Lib.Cold (StaticIs)
namespace ChN
def yN : MethodName := ⟨"java/lang/String", "charAt", "(I)C"⟩
abbrev yB : ByteArray := jdk_42_method_56_code
theorem d0 : decode yB 0 = .ok (.aload_n 0, 1) := by decide +kernel
theorem d1 : decode yB 1 = .ok (.invokevirtual 492, 3) := by decide +kernel
theorem d4 : decode yB 4 = .ok (.ifCond (.eq) 12, 3) := by decide +kernel
theorem d7 : decode yB 7 = .ok (.aload_n 0, 1) := by decide +kernel
theorem d8 : decode yB 8 = .ok (.getfield 9, 3) := by decide +kernel
theorem d11 : decode yB 11 = .ok (.iload_n 1, 1) := by decide +kernel
theorem d12 : decode yB 12 = .ok (.invokestatic 495, 3) := by decide +kernel
theorem d15 : decode yB 15 = .ok (.ireturn, 1) := by decide +kernel
def site : List Cond := [.fieldLink "java/lang/String" 9 "java/lang/String" "value" "[B", IsL.tab, LChA.tab] ++ virtW "java/lang/String" 492 "java/lang/String" IsL.yN IsL.yN ++ staticW "java/lang/String" 495 LChA.yN
def tab : Cond := tabOf yN yB 2 (some .char) site
def P (x t : Addr) (V : Cell) (n : Nat) (f : Nat → Int32) (z : Int32) (fm : Value) (i : Nat) (args : Array Value) (s : State) : Prop := args = #[.ref x, .int (Int32.ofNat i)] ∧ Txt x t V 0 n f s ∧ i < n ∧ StaticIs s "java/lang/String" "COMPACT_STRINGS" "Z" (.int z) ∧ ¬ z = 0 ∧ StaticIs s "jdk/internal/util/Preconditions" "SIOOBE_FORMATTER" "Ljava/util/function/BiFunction;" fm ∧ fm.isRef = true
def E (f : Nat → Int32) (i : Nat) (r : Option Value) (s u : State) : Prop := XT.PureE (some (.int (f i))) r s u
/-- charAt(i) of a Latin-1 String of n chars, i < n: f i -/
theorem law (l : Launch) (x t : Addr) (V : Cell) (n : Nat) (f : Nat → Int32) (z : Int32) (fm : Value) (i : Nat) : Law l yN 2 1 3 40 yB 2 (some .char) site (P x t V n f z fm i) (E f i) [] 0 0 := by
  refine Law.of_walk (plainFor_of_name (by decide +kernel)) (by decide +kernel) (by decide +kernel) (by decide) (fun _ _ h => by rw [h.1]; rfl) (fun _ U U' hal hh h => ⟨h.1, h.2.1.mv hal hh, h.2.2.1, h.2.2.2.1.there hal hh, h.2.2.2.2.1, h.2.2.2.2.2.1.there hal hh, h.2.2.2.2.2.2⟩) (fun r U U' V V' h1 hal h2 h => XT.PureE.mv r U U' V V' h1 hal h2 h) ?_
  intro p e s m args below meth c s₁ X0 hexec hbytes hml hret hlk hnm hown hh0 W hP
  obtain ⟨rfl, hx, hi, s1, hz, s3, rf⟩ := hP
  have v31 := hx.2.2.2.1.2.2.2
  have hr := hx.2.2.2.2.2 i hi
  have hx0 := hx.mv X0.warmed.alike hh0
  have c1 : Steps p.tables e below (s₁.setTop (entryFrame m #[.ref x, .int (Int32.ofNat i)] 2)) (s₁.setTop (mkF m 1 #[.val (.ref x), .val (.int (Int32.ofNat i))] [.ref x])) := Steps.trans (entry rfl) (by
    show Steps p.tables e below (s₁.setTop (mkF m 0 #[.val (.ref x), .val (.int (Int32.ofNat i))] [])) _
    refine XS.aloadN X0.here hexec rfl (hb hbytes d0) rfl rfl ?_
    exact Steps.refl _)
  obtain ⟨v2, T2, X2, E2, g2⟩ := X0.callV hexec (IsL.law l x 0 z) hown (wks W (virtW "java/lang/String" 492 "java/lang/String" IsL.yN IsL.yN)) rfl (by decide) (wk W IsL.tab) (W := 0) (Nat.le_of_ble_eq_true rfl) (Nat.le_of_ble_eq_true rfl) (Nat.le_refl _) (Nat.le_refl _) (hx0.1.fc X0.warmed.alike) hx0.1.is (g := (mkF m 1 #[.val (.ref x), .val (.int (Int32.ofNat i))] [.ref x])) rfl (by rw [hml]; rfl) c1 (argsL := []) (rest := []) rfl rfl (by show 2 * 0 + 0 ≤ _; decide) (hb hbytes d1) (⟨rfl, hx0.2.2.1, hx.2.2.2.2.1.cd, s1.there X0.warmed.alike hh0, hz⟩)
  obtain ⟨rfl, q2⟩ := E2
  have hh2 := q2.trans hh0
  have hx2 := hx.mv X2.warmed.alike hh2
  obtain ⟨-, k1, k2⟩ | ⟨k0, -⟩ := hx.2.2.2.2.1
  · have c3 : Steps p.tables e below (s₁.setTop (entryFrame m #[.ref x, .int (Int32.ofNat i)] 2)) (T2.setTop (mkF m 8 #[.val (.ref x), .val (.int (Int32.ofNat i))] [.ref x])) := Steps.trans g2 (by
      refine XS.ifNo X2.here hexec rfl (hb hbytes d4) rfl (i0_eq_f (by decide)) ?_
      refine XS.aloadN X2.here hexec rfl (hb hbytes d7) rfl rfl ?_
      exact Steps.refl _)
    obtain ⟨T4, X4, q4, st4⟩ := X2.hget hexec hown (wk W (.fieldLink "java/lang/String" 9 "java/lang/String" "value" "[B")) hx2.2.1 (g := (mkF m 8 #[.val (.ref x), .val (.int (Int32.ofNat i))] [.ref x])) rfl (rest := []) rfl (hb hbytes d8)
    have hh4 := q4.trans hh2
    have c5 : Steps p.tables e below (s₁.setTop (entryFrame m #[.ref x, .int (Int32.ofNat i)] 2)) (T4.setTop (mkF m 12 #[.val (.ref x), .val (.int (Int32.ofNat i))] [.int (Int32.ofNat i), .ref t])) := (c3.trans (st4 _ (Steps.refl _))).trans (by
      refine XS.iloadN X4.here hexec rfl (hb hbytes d11) rfl ?_
      exact Steps.refl _)
    obtain ⟨v6, T6, X6, E6, g6⟩ := X4.callS hexec (LChA.law l t V i (lo8 (f i)) fm) hown (wks W (staticW "java/lang/String" 495 LChA.yN)) (wk W LChA.tab) (W := 0) (Nat.le_of_ble_eq_true rfl) (Nat.le_of_ble_eq_true rfl) (Nat.le_refl _) (Nat.le_refl _) (g := (mkF m 12 #[.val (.ref x), .val (.int (Int32.ofNat i))] [.int (Int32.ofNat i), .ref t])) rfl (by rw [hml]; rfl) c5 (argsL := [.ref t, .int (Int32.ofNat i)]) (rest := []) rfl rfl (by show 2 * 0 + 0 ≤ _; decide) (hb hbytes d12) (⟨rfl, hx.2.2.2.1.mv X4.warmed.alike hh4, (k2 i hi).1, s3.there X4.warmed.alike hh4, rf⟩)
    obtain ⟨rfl, q6⟩ := E6
    rw [chr8_lo8 hr.1 (k2 i hi).2] at g6
    exact ⟨T6, some (.int (f i)), _, _, _, X6, rfl, rfl, rfl, (fun h => by cases h), ⟨rfl, q6.trans hh4⟩, fun fs hl => Steps.trans g6 (X6.ireturnOut hexec hret (narrow_ch hr.1 hr.2) (Or.inr (Or.inr (Or.inr (Or.inl rfl)))) (hb hbytes d15) hl)⟩
  · exact absurd k0 (by decide)
theorem pays {l : Launch} {R : Room} {p : Program} {e : Env} {below : List Frame} {s : State} {sargs : Array Value} {len W : Nat} (x t : Addr) (V : Cell) (n : Nat) (f : Nat → Int32) (z : Int32) (fm : Value) (i : Nat) (htab : tab.before sargs s = true) (hfr : 4 ≤ R.frames) (hlo : W + 53 ≤ R.locals) :
    Back l R p e below s sargs yN len W (fun A₁ a₁ => A₁.cells + 0 ≤ R.cells ∧ A₁.slots + 0 ≤ R.slots ∧ P x t V n f z fm i a₁ A₁.U) (fun A₁ _ v₁ B₁ => E f i v₁ A₁.U B₁.U ∧ B₁.locs = A₁.locs ++ [] ∧ B₁.cells = A₁.cells + 0 ∧ B₁.slots = A₁.slots + 0) :=
  (law l x t V n f z fm i).pays htab hfr (by omega)
end ChN
end StrChars
namespace StrChars.Road
open Jvm Sem ClassFile Op Lib Jvm.Stand Jvm.Free Jvm.Free.XT
open Jvm.Lib.Cold (StaticIs)
/-- the words of String.charAt(int), the Latin-1 road alone -/
abbrev wordsChN : List Jvm.Cond := [.code ChN.yN ChN.yB 2 (some .char), .initialized ST, .fieldLink ST 9 ST "value" "[B", .fieldLink ST 38 ST "COMPACT_STRINGS" "Z", .fieldLink ST 15 ST "coder" "B", .code IsL.yN IsL.yB 1 (some .boolean), .methodLink ST 492 IsL.yN, .declares IsL.yN, .selects ST IsL.yN IsL.yN, .instanceMethod IsL.yN,
  .methodLink ST 495 LChA.yN, .static LChA.yN, .code LChA.yN LChA.yB 2 (some .char), .initialized "java/lang/StringLatin1", .methodLink "java/lang/StringLatin1" 9 JO.Str_checkIndex.yN, .static JO.Str_checkIndex.yN, .code JO.Str_checkIndex.yN JO.Str_checkIndex.yB 2 none,
  .fieldLink ST 1053 "jdk/internal/util/Preconditions" "SIOOBE_FORMATTER" "Ljava/util/function/BiFunction;", .methodLink ST 1059 JC.PreCheck.yN, .static JC.PreCheck.yN, .code JC.PreCheck.yN JC.PreCheck.yB 3 (some .int), .initialized "jdk/internal/util/Preconditions"]
theorem tabChN_of {a : Array Value} {s : State} (h : ∀ w ∈ wordsChN, w.before a s = true) : ChN.tab.before a s = true := by
  have hp : JC.PreCheck.tab.before a s = true := unparts (wk h (.code JC.PreCheck.yN JC.PreCheck.yB 3 (some .int))) (wks h (.initialized JC.PreCheck.yN.cls :: JC.PreCheck.site))
  have qk := consq hp h
  have hk : JO.Str_checkIndex.tab.before a s = true := unparts (wk qk (.code JO.Str_checkIndex.yN JO.Str_checkIndex.yB 2 none)) (wks qk (.initialized JO.Str_checkIndex.yN.cls :: JO.Str_checkIndex.site))
  have ql := consq hk h
  have hl : LChA.tab.before a s = true := unparts (wk ql (.code LChA.yN LChA.yB 2 (some .char))) (wks ql (.initialized LChA.yN.cls :: LChA.site))
  have hi : IsL.tab.before a s = true := unparts (wk h (.code IsL.yN IsL.yB 1 (some .boolean))) (wks h (.initialized IsL.yN.cls :: IsL.site))
  have q := consq hi (consq hl h)
  exact unparts (wk q (.code ChN.yN ChN.yB 2 (some .char))) (wks q (.initialized ChN.yN.cls :: ChN.site))
theorem movedChN {Z s : State} {a0 args : Array Value} (hZ : Z.Warmed39 s.vm) (hw : ∀ d ∈ wordsChN, d.before a0 Z = true) : ∀ d ∈ wordsChN, d.before args s = true := fun d hd => by
  have t : ∀ d ∈ wordsChN, (d.onTables && d.keepsFace) = true := by decide +kernel
  exact RoadKit.mv hZ (hw d hd) (t d hd)
/-- **charAt(i) OF A LATIN-1 STRING**, i < n: the char -/
theorem chN {p : Program} {l : Launch} {e : Env} {R : Room} {s : State} {args : Array Value} {below : List Frame} {len W : Nat} {Z : State} {a0 : Array Value} {h : Heap} (hZ : Z.Warmed39 s.vm) (hw : ∀ d ∈ wordsChN, d.before a0 Z = true) {kI : Nat} (wi : (Jvm.Cond.instantiable ST kI).before a0 Z = true)
    {x t : Addr} {kb : ClassId} {cs : List Int32} {N2 z : Int32} {vs : List Value} {fm : Value} {i : Nat} {j : Int32} (E : RoadKit.Exa Z h x ST) (V : RoadKit.Fld Z h x ST "value" "[B" (.ref t)) (C : RoadKit.Fld Z h x ST "coder" "B" (.int 0)) (K : RoadKit.Arv Z h t kb .byte N2 vs (.int 0)) (hc : CodA cs 0 N2 vs) (hb : ∀ c ∈ cs, ¬ c < 0 ∧ ¬ (65535 : Int32) < c)
    (S : RoadKit.Sta Z h ST "COMPACT_STRINGS" "Z" (.int z)) (hz : ¬ z = 0) (F : RoadKit.Sta Z h "jdk/internal/util/Preconditions" "SIOOBE_FORMATTER" "Ljava/util/function/BiFunction;" fm) (rf : fm.isRef = true) (l2 : cs.length ≤ 4000) (hi : i < cs.length) (hj : j = Int32.ofNat i) (hfr : 4 ≤ R.frames) (hlo : W + 53 ≤ R.locals) :
    Back l R p e below s args (⟨"java/lang/String", "charAt", "(I)C"⟩ : MethodName) len W (fun P a => a = #[.ref x, .int j] ∧ P.U.heap = h ∧ P.cells + 0 ≤ R.cells ∧ P.slots + 0 ≤ R.slots)
      (fun P _ v B => ∃ L, (v = some (.int (cs.getD i 0)) ∧ L = [] ∧ B.U.heap = h) ∧ B.locs = P.locs ++ L ∧ B.cells = P.cells + 0 ∧ B.slots = P.slots + 0) := by
  subst hj
  intro m meth c P g ig mk a X hg hsize hdg hW hn hp'
  obtain ⟨rfl, rfl, r1, r2⟩ := hp'
  have al : Z.vm.Alike P.U.vm := hZ.alike.trans X.warmed.alike
  obtain ⟨A, hx⟩ := txt_of wi al E V C K hc hb l2
  obtain ⟨v, B, X', ⟨⟨hv, hh⟩, hl, hk, hs⟩, st⟩ := ChN.pays x t A cs.length (fun j => cs.getD j 0) z fm i (tabChN_of (movedChN hZ hw)) hfr hlo m meth c P g ig mk _ X hg hsize hdg hW hn ⟨r1, r2, rfl, hx, hi, sta_is al S, hz, sta_is al F, rf⟩
  exact ⟨v, B, X', ⟨[], ⟨hv, rfl, hh⟩, hl, hk, hs⟩, st⟩
/-- what backV says of its String, as the contracts of this text ask it: cs's low bytes, coder 0 -/
theorem codOf {cs : List Int32} {n : Nat} (hn : cs.length = n) (hb : ∀ c ∈ cs, ¬ 255 < c) : CodA cs 0 (Int32.ofNat n) ((cs.map lo8).map Value.int) := Or.inl ⟨rfl, by rw [hn], by simp [List.map_map, Function.comp_def], hb⟩
end StrChars.Road
end Jvm.Pilot.@@N@@

namespace Jvm.Pilot.@@N@@
open Jvm Jvm.ClassFile Sem Op Lib Jvm.Free Jvm.Stand Jvm.LawKit Jvm.RoadKit Bundle Jvm.Pilot.@@N@@.Jvm.D
abbrev own_S (p : Program) (e : Env) (b : List Frame) (T : State) (m : MethodId) (pc : Nat) (L : Array Slot) (S : List Value) (t : State) : Prop := Steps p.tables e b (T.setTop (mkF m pc L S)) t
theorem own_wS {Z : State} {a0 : Array Value} (hw : ∀ d ∈ tables_1, d.before a0 Z = true) : ∀ a ∈ Bundle.stringAtoms, a.before a0 Z = true := fun d hd => hw d ((by decide +kernel : ∀ d ∈ Bundle.stringAtoms, d ∈ tables_1) d hd)
theorem own_EL {Z : State} {a0 : Array Value} (hw : ∀ d ∈ tables_1, d.before a0 Z = true) : EW Z a0 consts_1 := EW.cons (text := "database") (hw _ (List.mem_of_getElem? (i := 47) rfl)) (by decide +kernel) (EW.cons (text := "table") (hw _ (List.mem_of_getElem? (i := 117) rfl)) (by decide +kernel) (EW.cons (text := " ") (hw _ (List.mem_of_getElem? (i := 72) rfl)) (by decide +kernel) EW.nil))
theorem own_wV {Z : State} {a0 : Array Value} (hw : ∀ d ∈ tables_1, d.before a0 Z = true) : ∀ d ∈ StrChars.Road.words, d.before a0 Z = true := fun d hd => hw d ((by decide +kernel : ∀ d ∈ StrChars.Road.words, d ∈ tables_1) d hd)
theorem own_wL {Z : State} {a0 : Array Value} (hw : ∀ d ∈ tables_1, d.before a0 Z = true) : ∀ d ∈ StrChars.Road.wordsLen, d.before a0 Z = true := fun d hd => hw d ((by decide +kernel : ∀ d ∈ StrChars.Road.wordsLen, d ∈ tables_1) d hd)
theorem own_wC {Z : State} {a0 : Array Value} (hw : ∀ d ∈ tables_1, d.before a0 Z = true) : ∀ d ∈ StrChars.Road.wordsChN, d.before a0 Z = true := fun d hd => hw d ((by decide +kernel : ∀ d ∈ StrChars.Road.wordsChN, d ∈ tables_1) d hd)
theorem own_wQ {Z : State} {a0 : Array Value} (hw : ∀ d ∈ tables_1, d.before a0 Z = true) : ∀ d ∈ StrChars.Road.wordsEq, d.before a0 Z = true := fun d hd => hw d ((by decide +kernel : ∀ d ∈ StrChars.Road.wordsEq, d ∈ tables_1) d hd)
theorem own_wE {Z : State} {a0 : Array Value} (hw : ∀ d ∈ tables_1, d.before a0 Z = true) : ∀ d ∈ StrChars.Road.wordsEmp, d.before a0 Z = true := fun d hd => hw d ((by decide +kernel : ∀ d ∈ StrChars.Road.wordsEmp, d ∈ tables_1) d hd)
theorem own_sta_keep0 {Z : State} {h h' : Heap} {C n d : String} {v : Value} (S : Sta Z h C n d v) (K : Keep h h' []) : Sta Z h' C n d v := by
  obtain ⟨cf, i, k, f, st, cell, h1, h2, h3, h4, h5, h6, h7⟩ := S
  exact ⟨cf, i, k, f, st, cell, h1, h2, h3, h4, K.2.1 _ _ h5 nin0, h6, h7⟩
theorem own_sta_keep {Z : State} {h h' : Heap} {C n d C' : String} {v : Value} {a : Addr} (S : Sta Z h C n d v) (K : Keep h h' [a]) (E : Exa Z h a C') : Sta Z h' C n d v := by
  obtain ⟨cf, i, k, f, st, cell, h1, h2, h3, h4, h5, h6, h7⟩ := S
  obtain ⟨c1, _, g1, -, -, g4, -⟩ := E
  have ne : st ∉ [a] := fun q => by
    cases List.mem_singleton.mp q
    cases h5.symm.trans g1
    rw [g4] at h6; cases h6
  exact ⟨cf, i, k, f, st, cell, h1, h2, h3, h4, K.2.1 _ _ h5 ne, h6, h7⟩
theorem own_nn (x : Int32) : nar .char (nar .char x) = nar .char x := by simp only [nar, UInt32.toUInt32_toInt32, UInt16.toUInt16_toUInt32]
def own_c (a : Int32) : Prop := ¬ a < 1 ∧ ¬ 255 < a
def own_ok : List Int32 → Prop
  | [a] => own_c a ∧ ¬ a = 32
  | [a, b] => own_c a ∧ own_c b ∧ ¬ b = 32
  | _ => False
def own_ch (p : Int32) : Int32 := if p &&& 255 = 0 then 1 else p &&& 255
def own_la (a : Int32) : Int32 := if a = 32 then 33 else a
def own_mk (p : Int32) : List Int32 := if ((p.toUInt32 >>> ((16 : Int32) &&& 31).toUInt32).toInt32 &&& 1) = 0 then [own_la (own_ch p)] else [own_ch p, own_la (own_ch ((p.toUInt32 >>> ((8 : Int32) &&& 31).toUInt32).toInt32))]
theorem own_ch_c (p : Int32) : own_c (own_ch p) := by
  have e := c_mask p 255 8 (by decide) (by decide)
  have l0 : (0 : Int32).toInt = 0 := by decide
  have l1 : (1 : Int32).toInt = 1 := by decide
  have l2 : (255 : Int32).toInt = 255 := by decide
  unfold own_ch own_c
  split
  · decide
  · rename_i h
    rw [← Int32.toInt_inj, l0] at h
    rw [Int32.lt_iff_toInt_lt, Int32.lt_iff_toInt_lt, l1, l2]; omega
theorem own_la_c {a : Int32} (h : own_c a) : own_c (own_la a) ∧ ¬ own_la a = 32 := by
  unfold own_la
  split
  · exact ⟨by unfold own_c; decide, by decide⟩
  · rename_i q; exact ⟨h, q⟩
theorem own_mk_ok (p : Int32) : own_ok (own_mk p) := by
  unfold own_mk
  split
  · exact own_la_c (own_ch_c p)
  · exact ⟨own_ch_c p, own_la_c (own_ch_c _)⟩
theorem own_c_rng {a : Int32} (h : own_c a) : 1 ≤ a.toInt ∧ a.toInt ≤ 255 := by
  have l1 : (1 : Int32).toInt = 1 := by decide
  have l2 : (255 : Int32).toInt = 255 := by decide
  unfold own_c at h
  rw [Int32.lt_iff_toInt_lt, Int32.lt_iff_toInt_lt, l1, l2] at h; omega
theorem own_nc {a : Int32} (h : own_c a) : nar .char a = a := by
  have e := c_i2c a
  have r := own_c_rng h
  show a.toUInt32.toUInt16.toUInt32.toInt32 = a
  apply Int32.toInt_inj.mp; omega
theorem own_lt0 {a : Int32} (h : own_c a) : ¬ a < 0 := by
  have l0 : (0 : Int32).toInt = 0 := by decide
  have r := own_c_rng h
  rw [Int32.lt_iff_toInt_lt, l0]; omega
theorem own_ne0 {a : Int32} (h : own_c a) : ¬ a = 0 := fun q => by
  have r := own_c_rng h
  rw [q] at r; exact absurd r.1 (by decide)
theorem own_sur {a : Int32} (h : own_c a) : a < (55296 : Int32) := by
  have l0 : (55296 : Int32).toInt = 55296 := by decide
  have r := own_c_rng h
  rw [Int32.lt_iff_toInt_lt, l0]; omega
theorem own_hi {a : Int32} (h : own_c a) : ¬ (65535 : Int32) < a := by
  have l0 : (65535 : Int32).toInt = 65535 := by decide
  have r := own_c_rng h
  rw [Int32.lt_iff_toInt_lt, l0]; omega
theorem own_b32 {a : Int32} (h : own_c a) (q : ¬ a = 32) : ¬ a.toInt8.toInt32 = 32 := fun z => by
  have e := c_i2b a
  have r := own_c_rng h
  rw [z] at e
  have l : (32 : Int32).toInt = 32 := by decide
  rw [l] at e
  exact q (Int32.toInt_inj.mp (by rw [l]; omega))
theorem own_hp1 {a : Int32} (h : own_c a) : ∀ z ∈ [a], ¬ z < 0 ∧ ¬ (255 : Int32) < z := fun z hz => by cases List.mem_singleton.mp hz; exact ⟨own_lt0 h, h.2⟩
theorem own_hp2 {a b : Int32} (h : own_c a) (g : own_c b) : ∀ z ∈ [a, b], ¬ z < 0 ∧ ¬ (255 : Int32) < z := fun z hz => by
  rcases List.mem_cons.mp hz with rfl | hz
  · exact ⟨own_lt0 h, h.2⟩
  · cases List.mem_singleton.mp hz; exact ⟨own_lt0 g, g.2⟩
theorem own_up {cs : List Int32} (h : ∀ z ∈ cs, ¬ z < 0 ∧ ¬ (255 : Int32) < z) : ∀ z ∈ cs, ¬ z < 0 ∧ ¬ (65535 : Int32) < z := fun z hz => ⟨(h z hz).1, fun q => (h z hz).2 (by
  have l1 : (255 : Int32).toInt = 255 := by decide
  have l2 : (65535 : Int32).toInt = 65535 := by decide
  rw [Int32.lt_iff_toInt_lt, l2] at q
  rw [Int32.lt_iff_toInt_lt, l1]; omega)⟩
theorem own_cs {cs : List Int32} (h : own_ok cs) : (∃ a, cs = [a] ∧ own_c a ∧ ¬ a = 32) ∨ (∃ a b, cs = [a, b] ∧ own_c a ∧ own_c b ∧ ¬ b = 32) := by
  match cs, h with
  | [a], h => exact Or.inl ⟨a, rfl, h.1, h.2⟩
  | [a, b], h => exact Or.inr ⟨a, b, rfl, h.1, h.2.1, h.2.2⟩
abbrev own_bs (cs : List Int32) : List Value := (cs.map fun z => z.toInt8.toInt32).map Value.int
theorem pn_0 : plainName "com/example/garter/garter/schema/TableNameEqualsPinLaw" = true := by first | (simp [plainName, overriddenIn]; done) | decide +kernel
theorem ef_Ch (m : MethodId) (p1 : Int32) : entryFrame m #[(.int p1)] 2 = mkF m 0 #[iv p1, .unset] [] := by first | (simp [entryFrame, mkF, argsToLocals, Value.category]; done) | rfl
def QCh (Z : State) (p1 : Int32) (h0 : Heap) (n0 : Nat) (v : Option Value) (h : Heap) (L : List Loc) : Prop := v = some (.int (own_ch p1)) ∧ Fr n0 L ∧ h = h0
theorem d2_0 : decode method_2_code 0 = .ok (.iload_n 0, 1) := by decide +kernel
theorem d2_1 : decode method_2_code 1 = .ok (.sipush 255, 3) := by decide +kernel
theorem d2_4 : decode method_2_code 4 = .ok (.iand, 1) := by decide +kernel
theorem d2_5 : decode method_2_code 5 = .ok (.istore_n 1, 1) := by decide +kernel
theorem d2_6 : decode method_2_code 6 = .ok (.iload_n 1, 1) := by decide +kernel
theorem d2_7 : decode method_2_code 7 = .ok (.ifCond .ne 5, 3) := by decide +kernel
theorem d2_10 : decode method_2_code 10 = .ok (.iconst 1, 1) := by decide +kernel
theorem d2_11 : decode method_2_code 11 = .ok (.istore_n 1, 1) := by decide +kernel
theorem d2_12 : decode method_2_code 12 = .ok (.iload_n 1, 1) := by decide +kernel
theorem d2_13 : decode method_2_code 13 = .ok (.i2c, 1) := by decide +kernel
theorem d2_14 : decode method_2_code 14 = .ok (.ireturn, 1) := by decide +kernel
set_option maxRecDepth 65536 in
set_option maxHeartbeats 40000000 in
theorem rmCh (l : Launch) (Z : State) (a0 : Array Value) (hw : ∀ d ∈ tables_1, d.before a0 Z = true) (ws : List Jvm.Cond) (p1 : Int32) (h0 : Heap) (n0 : Nat) (Z0 : n0 ≤ h0.size)  :
    MetFree l (⟨"com/example/garter/garter/schema/TableNameEqualsPinLaw", "ch", "(I)C"⟩ : MethodName) (head1 (Jvm.Cond.code (⟨"com/example/garter/garter/schema/TableNameEqualsPinLaw", "ch", "(I)C"⟩ : MethodName) method_2_code 2 (some .char) :: ws) ({ frames := 0, cells := 0, slots := 0, locals := 0 } : Room)) (fun a U => a = #[(.int p1)] ∧ Z.Warmed39 U.vm ∧ U.heap = h0) (fun _ _ _ _ _ => True) (fun _ U o U' => ∃ v L, o = .returned v ∧ QCh Z p1 h0 n0 v U'.heap L ∧ FrameEnd U o U' L ({ frames := 0, cells := 0, slots := 0, locals := 0 } : Room).cells ({ frames := 0, cells := 0, slots := 0, locals := 0 } : Room).slots) := by
  refine MetFree.of_bodySF (plainFor_of_name pn_0) hisR ?_
  intro p e s m args below meth c s₁ Bd hml0 hP hK
  obtain ⟨rfl, hZ, hh⟩ := hP
  have hx := Bd.exec
  have hby := Bd.bytes
  have hml : c.maxLocals = 2 := hml0
  have hown : s.vm.findClass "com/example/garter/garter/schema/TableNameEqualsPinLaw" = some m.cls := findClass_of_methodNamed Bd.named
  have hnm := (name_of_methodNamed Bd.named Bd.method).1
  have X0 : Stand p l e ({ frames := 0, cells := 0, slots := 0, locals := 0 } : Room) s m #[(.int p1)] below meth c s₁ [] 0 0 := Stand.of_body Bd
  have e0 : s₁.heap = h0 := by rw [← hh, Bd.state]; rfl
  have N0 := Fr.nil n0
  have pre0 : ∀ tg, Steps p.tables e below (s₁.setTop (mkF m 0 #[iv p1, .unset] [])) tg → Steps p.tables e below (s₁.setTop (entryFrame m #[(.int p1)] 2)) tg := fun tg k => castTop (ef_Ch m p1) k
  have pre2 : ∀ tg, own_S p e below s₁ m 7 #[iv p1, iv (p1 &&& (255 : Int32))] [(.int (p1 &&& (255 : Int32)))] tg → Steps p.tables e below (s₁.setTop (entryFrame m #[(.int p1)] 2)) tg := fun tg k => pre0 tg (by
    show own_S p e below s₁ m 0 #[iv p1, .unset] [] _
    refine XS.iloadN X0.here hx rfl (hb hby d2_0) rfl ?_
    refine XS.sipush X0.here hx rfl (hb hby d2_1) ?_
    refine XS.iand X0.here hx rfl (hb hby d2_4) rfl ?_
    show own_S p e below s₁ m 5 #[iv p1, .unset] [(.int (p1 &&& (255 : Int32)))] _
    refine XS.istoreN X0.here hx rfl (hb hby d2_5) rfl (l' := #[iv p1, iv (p1 &&& (255 : Int32))]) rfl ?_
    refine XS.iloadN X0.here hx rfl (hb hby d2_6) rfl ?_
    exact k)
  by_cases hc7_1 : (p1 &&& (255 : Int32)) = (0 : Int32)
  ·  -- pc 7 yes
    have pre3 : ∀ tg, own_S p e below s₁ m 14 #[iv p1, iv (1 : Int32)] [(.int ((1 : Int32).toUInt32.toUInt16.toUInt32.toInt32))] tg → Steps p.tables e below (s₁.setTop (entryFrame m #[(.int p1)] 2)) tg := fun tg k => pre2 tg (by
      show own_S p e below s₁ m 7 #[iv p1, iv (p1 &&& (255 : Int32))] [(.int (p1 &&& (255 : Int32)))] _
      refine XS.ifNo X0.here hx rfl (hb hby d2_7) rfl ((if0 _ _).trans (teq hc7_1).2) ?_
      refine XS.iconst X0.here hx rfl (hb hby d2_10) ?_
      refine XS.istoreN X0.here hx rfl (hb hby d2_11) rfl (l' := #[iv p1, iv (1 : Int32)]) rfl ?_
      show own_S p e below s₁ m 12 #[iv p1, iv (1 : Int32)] [] _
      refine XS.iloadN X0.here hx rfl (hb hby d2_12) rfl ?_
      refine XS.i2c X0.here hx rfl (hb hby d2_13) rfl ?_
      exact k)
    obtain ⟨fs, hr, hrun, hended, hW, hsame⟩ := X0.leave (v := some (.int (nar .char ((1 : Int32).toUInt32.toUInt16.toUInt32.toInt32)))) (fun h => by rw [Bd.returns] at h; cases h)
    refine ⟨_, _, pre3 _ ?_, hrun, hended, _, _, rfl, ?_, ⟨_, rfl⟩, hW, hsame.mono (by decide) (by decide)⟩
    · show own_S p e below s₁ m 14 #[iv p1, iv (1 : Int32)] [(.int ((1 : Int32).toUInt32.toUInt16.toUInt32.toInt32))] _
      exact retN X0 hx (t := .char) Bd.returns (by simp) (hb hby d2_14) hr
    · show QCh Z p1 h0 n0 _ s₁.heap _
      rw [e0]
      refine ⟨?_, N0, rfl⟩
      unfold own_ch; rw [if_pos hc7_1]
      rfl
  ·  -- pc 7 no
    have pre4 : ∀ tg, own_S p e below s₁ m 14 #[iv p1, iv (p1 &&& (255 : Int32))] [(.int ((p1 &&& (255 : Int32)).toUInt32.toUInt16.toUInt32.toInt32))] tg → Steps p.tables e below (s₁.setTop (entryFrame m #[(.int p1)] 2)) tg := fun tg k => pre2 tg (by
      show own_S p e below s₁ m 7 #[iv p1, iv (p1 &&& (255 : Int32))] [(.int (p1 &&& (255 : Int32)))] _
      refine XS.ifYes X0.here hx rfl (pc0 := 7) (pc' := 12) rfl (hb hby d2_7) rfl ((if0 _ _).trans (feq hc7_1).2) (by decide) (by decide) ?_
      refine XS.iloadN X0.here hx rfl (hb hby d2_12) rfl ?_
      refine XS.i2c X0.here hx rfl (hb hby d2_13) rfl ?_
      exact k)
    obtain ⟨fs, hr, hrun, hended, hW, hsame⟩ := X0.leave (v := some (.int (nar .char ((p1 &&& (255 : Int32)).toUInt32.toUInt16.toUInt32.toInt32)))) (fun h => by rw [Bd.returns] at h; cases h)
    refine ⟨_, _, pre4 _ ?_, hrun, hended, _, _, rfl, ?_, ⟨_, rfl⟩, hW, hsame.mono (by decide) (by decide)⟩
    · show own_S p e below s₁ m 14 #[iv p1, iv (p1 &&& (255 : Int32))] [(.int ((p1 &&& (255 : Int32)).toUInt32.toUInt16.toUInt32.toInt32))] _
      exact retN X0 hx (t := .char) Bd.returns (by simp) (hb hby d2_14) hr
    · show QCh Z p1 h0 n0 _ s₁.heap _
      rw [e0]
      refine ⟨?_, N0, rfl⟩
      unfold own_ch; rw [if_neg hc7_1]
      show some (Value.int (nar .char (nar .char (p1 &&& 255)))) = _
      rw [own_nn]; exact congrArg (fun z => some (Value.int z)) (i2c_mask p1)
theorem ef_La (m : MethodId) (p1 : Int32) : entryFrame m #[(.int p1)] 1 = mkF m 0 #[iv p1] [] := by first | (simp [entryFrame, mkF, argsToLocals, Value.category]; done) | rfl
def QLa (Z : State) (p1 : Int32) (h0 : Heap) (n0 : Nat) (v : Option Value) (h : Heap) (L : List Loc) : Prop := v = some (.int (own_la p1)) ∧ Fr n0 L ∧ h = h0
theorem d3_0 : decode method_3_code 0 = .ok (.iload_n 0, 1) := by decide +kernel
theorem d3_1 : decode method_3_code 1 = .ok (.bipush 32, 2) := by decide +kernel
theorem d3_3 : decode method_3_code 3 = .ok (.if_icmp .ne 6, 3) := by decide +kernel
theorem d3_6 : decode method_3_code 6 = .ok (.bipush 33, 2) := by decide +kernel
theorem d3_8 : decode method_3_code 8 = .ok (.ireturn, 1) := by decide +kernel
theorem d3_9 : decode method_3_code 9 = .ok (.iload_n 0, 1) := by decide +kernel
theorem d3_10 : decode method_3_code 10 = .ok (.ireturn, 1) := by decide +kernel
set_option maxRecDepth 65536 in
set_option maxHeartbeats 40000000 in
theorem rmLa (l : Launch) (Z : State) (a0 : Array Value) (hw : ∀ d ∈ tables_1, d.before a0 Z = true) (ws : List Jvm.Cond) (p1 : Int32) (h0 : Heap) (n0 : Nat) (Z0 : n0 ≤ h0.size) (hc : nar .char p1 = p1) :
    MetFree l (⟨"com/example/garter/garter/schema/TableNameEqualsPinLaw", "last", "(C)C"⟩ : MethodName) (head1 (Jvm.Cond.code (⟨"com/example/garter/garter/schema/TableNameEqualsPinLaw", "last", "(C)C"⟩ : MethodName) method_3_code 1 (some .char) :: ws) ({ frames := 0, cells := 0, slots := 0, locals := 0 } : Room)) (fun a U => a = #[(.int p1)] ∧ Z.Warmed39 U.vm ∧ U.heap = h0) (fun _ _ _ _ _ => True) (fun _ U o U' => ∃ v L, o = .returned v ∧ QLa Z p1 h0 n0 v U'.heap L ∧ FrameEnd U o U' L ({ frames := 0, cells := 0, slots := 0, locals := 0 } : Room).cells ({ frames := 0, cells := 0, slots := 0, locals := 0 } : Room).slots) := by
  refine MetFree.of_bodySF (plainFor_of_name pn_0) hisR ?_
  intro p e s m args below meth c s₁ Bd hml0 hP hK
  obtain ⟨rfl, hZ, hh⟩ := hP
  have hx := Bd.exec
  have hby := Bd.bytes
  have hml : c.maxLocals = 1 := hml0
  have hown : s.vm.findClass "com/example/garter/garter/schema/TableNameEqualsPinLaw" = some m.cls := findClass_of_methodNamed Bd.named
  have hnm := (name_of_methodNamed Bd.named Bd.method).1
  have X0 : Stand p l e ({ frames := 0, cells := 0, slots := 0, locals := 0 } : Room) s m #[(.int p1)] below meth c s₁ [] 0 0 := Stand.of_body Bd
  have e0 : s₁.heap = h0 := by rw [← hh, Bd.state]; rfl
  have N0 := Fr.nil n0
  have pre0 : ∀ tg, Steps p.tables e below (s₁.setTop (mkF m 0 #[iv p1] [])) tg → Steps p.tables e below (s₁.setTop (entryFrame m #[(.int p1)] 1)) tg := fun tg k => castTop (ef_La m p1) k
  have pre2 : ∀ tg, own_S p e below s₁ m 3 #[iv p1] [(.int (32 : Int32)), (.int p1)] tg → Steps p.tables e below (s₁.setTop (entryFrame m #[(.int p1)] 1)) tg := fun tg k => pre0 tg (by
    show own_S p e below s₁ m 0 #[iv p1] [] _
    refine XS.iloadN X0.here hx rfl (hb hby d3_0) rfl ?_
    refine XS.bipush X0.here hx rfl (hb hby d3_1) ?_
    exact k)
  by_cases hc3_1 : p1 = (32 : Int32)
  ·  -- pc 3 yes
    have pre3 : ∀ tg, own_S p e below s₁ m 8 #[iv p1] [(.int (33 : Int32))] tg → Steps p.tables e below (s₁.setTop (entryFrame m #[(.int p1)] 1)) tg := fun tg k => pre2 tg (by
      show own_S p e below s₁ m 3 #[iv p1] [(.int (32 : Int32)), (.int p1)] _
      refine XS.icmpNo X0.here hx rfl (hb hby d3_3) rfl (teq hc3_1).2 ?_
      refine XS.bipush X0.here hx rfl (hb hby d3_6) ?_
      exact k)
    obtain ⟨fs, hr, hrun, hended, hW, hsame⟩ := X0.leave (v := some (.int (nar .char (33 : Int32)))) (fun h => by rw [Bd.returns] at h; cases h)
    refine ⟨_, _, pre3 _ ?_, hrun, hended, _, _, rfl, ?_, ⟨_, rfl⟩, hW, hsame.mono (by decide) (by decide)⟩
    · show own_S p e below s₁ m 8 #[iv p1] [(.int (33 : Int32))] _
      exact retN X0 hx (t := .char) Bd.returns (by simp) (hb hby d3_8) hr
    · show QLa Z p1 h0 n0 _ s₁.heap _
      rw [e0]
      refine ⟨?_, N0, rfl⟩
      unfold own_la; rw [if_pos hc3_1]
      rfl
  ·  -- pc 3 no
    have pre4 : ∀ tg, own_S p e below s₁ m 10 #[iv p1] [(.int p1)] tg → Steps p.tables e below (s₁.setTop (entryFrame m #[(.int p1)] 1)) tg := fun tg k => pre2 tg (by
      show own_S p e below s₁ m 3 #[iv p1] [(.int (32 : Int32)), (.int p1)] _
      refine XS.icmpYes X0.here hx rfl (pc0 := 3) (pc' := 9) rfl (hb hby d3_3) rfl (feq hc3_1).2 (by decide) (by decide) ?_
      refine XS.iloadN X0.here hx rfl (hb hby d3_9) rfl ?_
      exact k)
    obtain ⟨fs, hr, hrun, hended, hW, hsame⟩ := X0.leave (v := some (.int (nar .char p1))) (fun h => by rw [Bd.returns] at h; cases h)
    refine ⟨_, _, pre4 _ ?_, hrun, hended, _, _, rfl, ?_, ⟨_, rfl⟩, hW, hsame.mono (by decide) (by decide)⟩
    · show own_S p e below s₁ m 10 #[iv p1] [(.int p1)] _
      exact retN X0 hx (t := .char) Bd.returns (by simp) (hb hby d3_10) hr
    · show QLa Z p1 h0 n0 _ s₁.heap _
      rw [e0]
      refine ⟨?_, N0, rfl⟩
      unfold own_la; rw [if_neg hc3_1]
      rw [hc]
theorem ef_Mk (m : MethodId) (p1 : Int32) : entryFrame m #[(.int p1)] 5 = mkF m 0 #[iv p1, .unset, .unset, .unset, .unset] [] := by first | (simp [entryFrame, mkF, argsToLocals, Value.category]; done) | rfl
def QMk (Z : State) (p1 : Int32) (zc : Int32) (h0 : Heap) (n0 : Nat) (v : Option Value) (h : Heap) (L : List Loc) : Prop := ∃ (b t : Addr) (kb : ClassId), v = some (.ref b) ∧ Fr n0 L ∧ Keep h0 h [] ∧ Exa Z h b "java/lang/String" ∧ Fld Z h b "java/lang/String" "coder" "B" (.int 0) ∧ Fld Z h b "java/lang/String" "value" "[B" (.ref t) ∧ Arv Z h t kb .byte (Int32.ofNat (own_mk p1).length) (own_bs (own_mk p1)) (.int 0) ∧ n0 ≤ b ∧ h0.size ≤ b ∧ n0 ≤ t ∧ h0.size ≤ t ∧ ¬ t = b
theorem d1_0 : decode method_4_code 0 = .ok (.iload_n 0, 1) := by decide +kernel
theorem d1_1 : decode method_4_code 1 = .ok (.invokestatic 7, 3) := by decide +kernel
theorem pd_0 : parseMethodDescriptor "(I)C" = some ⟨[.int], some .char⟩ := by decide +kernel
theorem d1_4 : decode method_4_code 4 = .ok (.istore_n 1, 1) := by decide +kernel
theorem d1_5 : decode method_4_code 5 = .ok (.iload_n 0, 1) := by decide +kernel
theorem d1_6 : decode method_4_code 6 = .ok (.bipush 8, 2) := by decide +kernel
theorem d1_8 : decode method_4_code 8 = .ok (.iushr, 1) := by decide +kernel
theorem d1_9 : decode method_4_code 9 = .ok (.invokestatic 7, 3) := by decide +kernel
theorem d1_12 : decode method_4_code 12 = .ok (.istore_n 2, 1) := by decide +kernel
theorem d1_13 : decode method_4_code 13 = .ok (.iload_n 0, 1) := by decide +kernel
theorem d1_14 : decode method_4_code 14 = .ok (.bipush 16, 2) := by decide +kernel
theorem d1_16 : decode method_4_code 16 = .ok (.iushr, 1) := by decide +kernel
theorem d1_17 : decode method_4_code 17 = .ok (.iconst 1, 1) := by decide +kernel
theorem d1_18 : decode method_4_code 18 = .ok (.iand, 1) := by decide +kernel
theorem d1_19 : decode method_4_code 19 = .ok (.ifCond .eq 7, 3) := by decide +kernel
theorem d1_26 : decode method_4_code 26 = .ok (.iconst 0, 1) := by decide +kernel
theorem d1_27 : decode method_4_code 27 = .ok (.istore_n 3, 1) := by decide +kernel
theorem d1_28 : decode method_4_code 28 = .ok (.iload_n 3, 1) := by decide +kernel
theorem d1_29 : decode method_4_code 29 = .ok (.ifCond .eq 31, 3) := by decide +kernel
theorem d1_60 : decode method_4_code 60 = .ok (.iconst 1, 1) := by decide +kernel
theorem d1_61 : decode method_4_code 61 = .ok (.newarray .char, 2) := by decide +kernel
theorem d1_63 : decode method_4_code 63 = .ok (.astore 4, 2) := by decide +kernel
theorem d1_65 : decode method_4_code 65 = .ok (.aload 4, 2) := by decide +kernel
theorem d1_67 : decode method_4_code 67 = .ok (.iconst 0, 1) := by decide +kernel
theorem d1_68 : decode method_4_code 68 = .ok (.iload_n 1, 1) := by decide +kernel
theorem d1_69 : decode method_4_code 69 = .ok (.invokestatic 13, 3) := by decide +kernel
theorem pd_1 : parseMethodDescriptor "(C)C" = some ⟨[.char], some .char⟩ := by decide +kernel
theorem d1_72 : decode method_4_code 72 = .ok (.castore, 1) := by decide +kernel
theorem d1_73 : decode method_4_code 73 = .ok (.new 17, 3) := by decide +kernel
theorem d1_76 : decode method_4_code 76 = .ok (.dup, 1) := by decide +kernel
theorem d1_77 : decode method_4_code 77 = .ok (.aload 4, 2) := by decide +kernel
theorem d1_79 : decode method_4_code 79 = .ok (.invokespecial 19, 3) := by decide +kernel
theorem pd_2 : parseMethodDescriptor "([C)V" = some ⟨[(.array .char)], none⟩ := by decide +kernel
theorem d1_82 : decode method_4_code 82 = .ok (.areturn, 1) := by decide +kernel
theorem d1_22 : decode method_4_code 22 = .ok (.iconst 1, 1) := by decide +kernel
theorem d1_23 : decode method_4_code 23 = .ok (.goto 4, 3) := by decide +kernel
theorem d1_32 : decode method_4_code 32 = .ok (.iconst 2, 1) := by decide +kernel
theorem d1_33 : decode method_4_code 33 = .ok (.newarray .char, 2) := by decide +kernel
theorem d1_35 : decode method_4_code 35 = .ok (.astore 4, 2) := by decide +kernel
theorem d1_37 : decode method_4_code 37 = .ok (.aload 4, 2) := by decide +kernel
theorem d1_39 : decode method_4_code 39 = .ok (.iconst 0, 1) := by decide +kernel
theorem d1_40 : decode method_4_code 40 = .ok (.iload_n 1, 1) := by decide +kernel
theorem d1_41 : decode method_4_code 41 = .ok (.castore, 1) := by decide +kernel
theorem d1_42 : decode method_4_code 42 = .ok (.aload 4, 2) := by decide +kernel
theorem d1_44 : decode method_4_code 44 = .ok (.iconst 1, 1) := by decide +kernel
theorem d1_45 : decode method_4_code 45 = .ok (.iload_n 2, 1) := by decide +kernel
theorem d1_46 : decode method_4_code 46 = .ok (.invokestatic 13, 3) := by decide +kernel
theorem d1_49 : decode method_4_code 49 = .ok (.castore, 1) := by decide +kernel
theorem d1_50 : decode method_4_code 50 = .ok (.new 17, 3) := by decide +kernel
theorem d1_53 : decode method_4_code 53 = .ok (.dup, 1) := by decide +kernel
theorem d1_54 : decode method_4_code 54 = .ok (.aload 4, 2) := by decide +kernel
theorem d1_56 : decode method_4_code 56 = .ok (.invokespecial 19, 3) := by decide +kernel
theorem d1_59 : decode method_4_code 59 = .ok (.areturn, 1) := by decide +kernel
set_option maxRecDepth 65536 in
set_option maxHeartbeats 40000000 in
theorem rmMk (l : Launch) (Z : State) (a0 : Array Value) (hw : ∀ d ∈ tables_1, d.before a0 Z = true) (ws : List Jvm.Cond) (p1 : Int32) (zc : Int32) (h0 : Heap) (n0 : Nat) (Z0 : n0 ≤ h0.size) (S_c : Sta Z h0 "java/lang/String" "COMPACT_STRINGS" "Z" (.int zc)) (hzc : ¬ zc = 0) :
    MetFree l (⟨"com/example/garter/garter/schema/TableNameEqualsPinLaw", "mk", "(I)Ljava/lang/String;"⟩ : MethodName) (head1 (Jvm.Cond.code (⟨"com/example/garter/garter/schema/TableNameEqualsPinLaw", "mk", "(I)Ljava/lang/String;"⟩ : MethodName) method_4_code 5 (some (.object "java/lang/String")) :: ws) ({ frames := 4, cells := 3, slots := 8, locals := 70 } : Room)) (fun a U => a = #[(.int p1)] ∧ Z.Warmed39 U.vm ∧ U.heap = h0) (fun _ _ _ _ _ => True) (fun _ U o U' => ∃ v L, o = .returned v ∧ QMk Z p1 zc h0 n0 v U'.heap L ∧ FrameEnd U o U' L ({ frames := 4, cells := 3, slots := 8, locals := 70 } : Room).cells ({ frames := 4, cells := 3, slots := 8, locals := 70 } : Room).slots) := by
  refine MetFree.of_bodySF (plainFor_of_name pn_0) hisR ?_
  intro p e s m args below meth c s₁ Bd hml0 hP hK
  obtain ⟨rfl, hZ, hh⟩ := hP
  have hx := Bd.exec
  have hby := Bd.bytes
  have hml : c.maxLocals = 5 := hml0
  have hown : s.vm.findClass "com/example/garter/garter/schema/TableNameEqualsPinLaw" = some m.cls := findClass_of_methodNamed Bd.named
  have hnm := (name_of_methodNamed Bd.named Bd.method).1
  have X0 : Stand p l e ({ frames := 4, cells := 3, slots := 8, locals := 70 } : Room) s m #[(.int p1)] below meth c s₁ [] 0 0 := Stand.of_body Bd
  have e0 : s₁.heap = h0 := by rw [← hh, Bd.state]; rfl
  have N0 := Fr.nil n0
  have pre0 : ∀ tg, Steps p.tables e below (s₁.setTop (mkF m 0 #[iv p1, .unset, .unset, .unset, .unset] [])) tg → Steps p.tables e below (s₁.setTop (entryFrame m #[(.int p1)] 5)) tg := fun tg k => castTop (ef_Mk m p1) k
  obtain ⟨_, _, ⟨T1, L1, k1, n1⟩, -, X1, ⟨Lc1, hQ1, l1, y1, z1⟩, st1⟩ := Jvm.LawKit.callS X0 hx (y := (⟨"com/example/garter/garter/schema/TableNameEqualsPinLaw", "ch", "(I)C"⟩ : MethodName)) hown (mvT hZ (hw _ (List.mem_of_getElem? (i := 4) rfl))) (mvT hZ (hw _ (List.mem_of_getElem? (i := 5) rfl))) (mvT hZ (hw _ (List.mem_of_getElem? (i := 2) rfl))) (mvT hZ (hw _ (List.mem_of_getElem? (i := 6) rfl))) (by decide) (backOf (W := 0) (rmCh l Z a0 hw [] p1 h0 n0 Z0 ) hZ (hw _ (List.mem_of_getElem? (i := 6) rfl)) (hw _ (List.mem_of_getElem? (i := 2) rfl)) (by decide) (by decide)) (g := (mkF m 1 #[iv p1, .unset, .unset, .unset, .unset] [(.int p1)])) rfl (by rw [hml]; rfl) (argsL := [(.int p1)]) (rest := []) (lenOf pd_0 rfl) rfl (by show 2 * 0 + _ ≤ _; exact Nat.le_of_eq rfl) (hb hby d1_1) (fun _ _ => ⟨rfl, e0, (by decide : 0 + 0 ≤ _), (by decide : 0 + 0 ≤ _)⟩)
  dsimp only [Pt.U, Pt.locs, Pt.cells, Pt.slots] at X1 l1 y1 z1 st1 hQ1
  subst l1 y1 z1
  obtain ⟨rfl, N1q, e1q⟩ := hQ1
  have N1 := Fr.app N0 N1q
  have e1 : T1.heap = h0 := e1q
  obtain ⟨_, _, ⟨T2, L2, k2, n2⟩, -, X2, ⟨Lc2, hQ2, l2, y2, z2⟩, st2⟩ := Jvm.LawKit.callS X1 hx (y := (⟨"com/example/garter/garter/schema/TableNameEqualsPinLaw", "ch", "(I)C"⟩ : MethodName)) hown (mvT hZ (hw _ (List.mem_of_getElem? (i := 4) rfl))) (mvT hZ (hw _ (List.mem_of_getElem? (i := 5) rfl))) (mvT hZ (hw _ (List.mem_of_getElem? (i := 2) rfl))) (mvT hZ (hw _ (List.mem_of_getElem? (i := 6) rfl))) (by decide) (backOf (W := 0) (rmCh l Z a0 hw [] ((p1.toUInt32 >>> ((8 : Int32) &&& 31).toUInt32).toInt32) h0 n0 Z0 ) hZ (hw _ (List.mem_of_getElem? (i := 6) rfl)) (hw _ (List.mem_of_getElem? (i := 2) rfl)) (by decide) (by decide)) (g := (mkF m 9 #[iv p1, iv (own_ch p1), .unset, .unset, .unset] [(.int ((p1.toUInt32 >>> ((8 : Int32) &&& 31).toUInt32).toInt32))])) rfl (by rw [hml]; rfl) (argsL := [(.int ((p1.toUInt32 >>> ((8 : Int32) &&& 31).toUInt32).toInt32))]) (rest := []) (lenOf pd_0 rfl) rfl (by show 2 * 0 + _ ≤ _; exact Nat.le_of_eq rfl) (hb hby d1_9) (fun _ _ => ⟨rfl, e1, (by decide : 0 + 0 ≤ _), (by decide : 0 + 0 ≤ _)⟩)
  dsimp only [Pt.U, Pt.locs, Pt.cells, Pt.slots] at X2 l2 y2 z2 st2 hQ2
  subst l2 y2 z2
  obtain ⟨rfl, N2q, e2q⟩ := hQ2
  have N2 := Fr.app N1 N2q
  have e2 : T2.heap = h0 := e2q
  have pre4 : ∀ tg, own_S p e below T2 m 19 #[iv p1, iv (own_ch p1), iv (own_ch ((p1.toUInt32 >>> ((8 : Int32) &&& 31).toUInt32).toInt32)), .unset, .unset] [(.int (((p1.toUInt32 >>> ((16 : Int32) &&& 31).toUInt32).toInt32) &&& (1 : Int32)))] tg → Steps p.tables e below (s₁.setTop (entryFrame m #[(.int p1)] 5)) tg := fun tg k => pre0 tg (by
    show own_S p e below s₁ m 0 #[iv p1, .unset, .unset, .unset, .unset] [] _
    refine XS.iloadN X0.here hx rfl (hb hby d1_0) rfl ?_
    refine st1 _ ?_
    refine XS.istoreN X1.here hx rfl (hb hby d1_4) rfl (l' := #[iv p1, iv (own_ch p1), .unset, .unset, .unset]) rfl ?_
    show own_S p e below T1 m 5 #[iv p1, iv (own_ch p1), .unset, .unset, .unset] [] _
    refine XS.iloadN X1.here hx rfl (hb hby d1_5) rfl ?_
    refine XS.bipush X1.here hx rfl (hb hby d1_6) ?_
    refine XS.iushr X1.here hx rfl (hb hby d1_8) rfl ?_
    show own_S p e below T1 m 9 #[iv p1, iv (own_ch p1), .unset, .unset, .unset] [(.int ((p1.toUInt32 >>> ((8 : Int32) &&& 31).toUInt32).toInt32))] _
    refine st2 _ ?_
    refine XS.istoreN X2.here hx rfl (hb hby d1_12) rfl (l' := #[iv p1, iv (own_ch p1), iv (own_ch ((p1.toUInt32 >>> ((8 : Int32) &&& 31).toUInt32).toInt32)), .unset, .unset]) rfl ?_
    refine XS.iloadN X2.here hx rfl (hb hby d1_13) rfl ?_
    show own_S p e below T2 m 14 #[iv p1, iv (own_ch p1), iv (own_ch ((p1.toUInt32 >>> ((8 : Int32) &&& 31).toUInt32).toInt32)), .unset, .unset] [(.int p1)] _
    refine XS.bipush X2.here hx rfl (hb hby d1_14) ?_
    refine XS.iushr X2.here hx rfl (hb hby d1_16) rfl ?_
    refine XS.iconst X2.here hx rfl (hb hby d1_17) ?_
    show own_S p e below T2 m 18 #[iv p1, iv (own_ch p1), iv (own_ch ((p1.toUInt32 >>> ((8 : Int32) &&& 31).toUInt32).toInt32)), .unset, .unset] [(.int (1 : Int32)), (.int ((p1.toUInt32 >>> ((16 : Int32) &&& 31).toUInt32).toInt32))] _
    refine XS.iand X2.here hx rfl (hb hby d1_18) rfl ?_
    exact k)
  by_cases hc19_3 : (((p1.toUInt32 >>> ((16 : Int32) &&& 31).toUInt32).toInt32) &&& (1 : Int32)) = (0 : Int32)
  ·  -- pc 19 yes
    obtain ⟨T5, h5, k5, X5, e5, E5, A5, st5⟩ := newP X2 hx hZ (hw _ (List.mem_of_getElem? (i := 7) rfl)) e2 (g := (mkF m 61 #[iv p1, iv (own_ch p1), iv (own_ch ((p1.toUInt32 >>> ((8 : Int32) &&& 31).toUInt32).toInt32)), iv (0 : Int32), .unset] [(.int (1 : Int32))])) rfl (hb hby d1_61) rfl (by decide) (cap := 1) (by decide) (by decide) (by decide) (by decide)
    obtain ⟨b5, g5⟩ : ∃ z, z = h0.size := ⟨_, rfl⟩
    rw [← g5] at A5 st5
    have g_b5 : n0 ≤ b5 := Nat.le_trans Z0 (Nat.le_of_eq g5.symm)
    have sz_b5 : h0.size ≤ b5 := Nat.le_trans ((Keep.refl h0 [])).1 (Nat.le_of_eq g5.symm)
    have V_b5 : Arv Z h5 b5 k5 .char (1 : Int32) [(.int (0 : Int32))] (.int (0 : Int32)) := (Arv.new A5 (by decide)).pad (pad_rep [] (.int (0 : Int32)) 1)
    have Zs7 : n0 ≤ h5.size := (Nat.le_trans Z0 E5.1)
    obtain ⟨_, _, ⟨T6, L6, k6, n6⟩, -, X6, ⟨Lc6, hQ6, l6, y6, z6⟩, st6⟩ := Jvm.LawKit.callS X5 hx (y := (⟨"com/example/garter/garter/schema/TableNameEqualsPinLaw", "last", "(C)C"⟩ : MethodName)) hown (mvT hZ (hw _ (List.mem_of_getElem? (i := 8) rfl))) (mvT hZ (hw _ (List.mem_of_getElem? (i := 9) rfl))) (mvT hZ (hw _ (List.mem_of_getElem? (i := 2) rfl))) (mvT hZ (hw _ (List.mem_of_getElem? (i := 10) rfl))) (by decide) (backOf (W := 2) (rmLa l Z a0 hw [] (own_ch p1) h5 n0 Zs7 (own_nc (own_ch_c _))) hZ (hw _ (List.mem_of_getElem? (i := 10) rfl)) (hw _ (List.mem_of_getElem? (i := 2) rfl)) (by decide) (by decide)) (g := (mkF m 69 #[iv p1, iv (own_ch p1), iv (own_ch ((p1.toUInt32 >>> ((8 : Int32) &&& 31).toUInt32).toInt32)), iv (0 : Int32), rv b5] [(.int (own_ch p1)), (.int (0 : Int32)), (.ref b5)])) rfl (by rw [hml]; rfl) (argsL := [(.int (own_ch p1))]) (rest := [(.int (0 : Int32)), (.ref b5)]) (lenOf pd_1 rfl) rfl (by show 2 * 0 + _ ≤ _; exact Nat.le_of_eq rfl) (hb hby d1_69) (fun _ _ => ⟨rfl, e5, (by decide : 1 + 0 ≤ _), (by decide : 1 + 0 ≤ _)⟩)
    dsimp only [Pt.U, Pt.locs, Pt.cells, Pt.slots] at X6 l6 y6 z6 st6 hQ6
    subst l6 y6 z6
    obtain ⟨rfl, N6q, e6q⟩ := hQ6
    have N6 := Fr.app N2 N6q
    have e6 : T6.heap = h5 := e6q
    obtain ⟨cl8, Ar8, q8, S8, M8, H8, G8⟩ := id V_b5
    have hin8 : ¬ ((0 : Int32) < 0 ∨ cl8.slots.size ≤ ((0 : Int32)).toNatClampNeg) := inb_of S8 ⟨by decide, by decide⟩
    obtain ⟨T8, h8, X8, e8, W8, st8⟩ := stC X6 hx hZ e6 Ar8 (j := (0 : Int32)) hin8 (g := (mkF m 72 #[iv p1, iv (own_ch p1), iv (own_ch ((p1.toUInt32 >>> ((8 : Int32) &&& 31).toUInt32).toInt32)), iv (0 : Int32), rv b5] [(.int (own_la (own_ch p1))), (.int (0 : Int32)), (.ref b5)])) rfl rfl (hb hby d1_72)
    have V8 : Arv Z h8 b5 k5 .char (1 : Int32) [(.int (nar .char (own_la (own_ch p1))))] (.int (0 : Int32)) := Arv.set Ar8 q8 S8 M8 H8 G8 (fits_nar_char _) W8 0 rfl (Nat.le_of_ble_eq_true rfl)
    have N8 := Fr.snoc X8 N6 g_b5
    have Zs9 : n0 ≤ h8.size := (Nat.le_trans Zs7 (Keep.of_wr W8).1)
    obtain ⟨T10, h10, X10, e10, E10, A10, D10, -, st10⟩ := newO X8 hx hZ hown (hw _ (List.mem_of_getElem? (i := 11) rfl)) (hw _ (List.mem_of_getElem? (i := 12) rfl)) (hw _ (List.mem_of_getElem? (i := 13) rfl)) e8 (g := (mkF m 73 #[iv p1, iv (own_ch p1), iv (own_ch ((p1.toUInt32 >>> ((8 : Int32) &&& 31).toUInt32).toInt32)), iv (0 : Int32), rv b5] [])) rfl (hb hby d1_73) (by decide) (by decide)
    obtain ⟨b10, g10⟩ : ∃ z, z = h8.size := ⟨_, rfl⟩
    rw [← g10] at A10 D10 st10
    have g_b10 : n0 ≤ b10 := Nat.le_trans Zs9 (Nat.le_of_eq g10.symm)
    have sz_b10 : h0.size ≤ b10 := Nat.le_trans ((((Keep.refl h0 []).ext E5).wr W8 (Or.inr sz_b5))).1 (Nat.le_of_eq g10.symm)
    have ne_b5_b10 : b5 ≠ b10 := Nat.ne_of_lt (Nat.lt_of_lt_of_le V8.lt (Nat.le_of_eq g10.symm))
    have F_coder_b10 : Fld Z h10 b10 "java/lang/String" "coder" "B" (.int (0 : Int32)) := D10 (Or.inr (hw _ (List.mem_of_getElem? (i := 37) rfl))) (ty := .byte) (by decide)
    have F_value_b10 : Fld Z h10 b10 "java/lang/String" "value" "[B" .null := D10 (Or.inr (hw _ (List.mem_of_getElem? (i := 39) rfl))) (ty := (.array .byte)) (by decide)
    have hszk : h0.size ≤ h10.size := (((((Keep.refl h0 []).ext E5).wr W8 (Or.inr sz_b5)).ext E10)).1
    have Vn_11 := (V8.ext E10)
    rw [own_nc (own_la_c (own_ch_c _)).1] at Vn_11
    have Zs12 : n0 ≤ h10.size := (Nat.le_trans Zs9 E10.1)
    have Sn_13 := (((S_c.ext E5).wr W8).ext E10)
    obtain ⟨_, _, ⟨T14, L14, k14, n14⟩, -, X14, ⟨Lc14, hQ14, l14, y14, z14⟩, st14⟩ := X10.specialBack hx (y := (⟨"java/lang/String", "<init>", "([C)V"⟩ : MethodName)) rfl hown (mvT hZ (hw _ (List.mem_of_getElem? (i := 14) rfl))) (mvT hZ (hw _ (List.mem_of_getElem? (i := 15) rfl))) (mvT hZ (hw _ (List.mem_of_getElem? (i := 16) rfl))) (by decide) (StrChars.Road.backV (W := 1) hZ (own_wV hw) (hw _ (List.mem_of_getElem? (i := 12) rfl)) (cs := [(own_la (own_ch p1))]) g_b10 Zs12 A10 F_value_b10 F_coder_b10 Vn_11 Sn_13 hzc (n := 1) rfl rfl (by decide) (by decide) (own_hp1 (own_la_c (own_ch_c _)).1) rfl (by decide) (by decide)) (g := (mkF m 79 #[iv p1, iv (own_ch p1), iv (own_ch ((p1.toUInt32 >>> ((8 : Int32) &&& 31).toUInt32).toInt32)), iv (0 : Int32), rv b5] [(.ref b5), (.ref b10), (.ref b10)])) rfl (by rw [hml]; rfl) (Steps.refl _) (a := b10) (argsL := [(.ref b5)]) (rest := [(.ref b10)]) (lenOf pd_2 rfl) rfl (by show 2 * 0 + _ ≤ _; exact Nat.le_of_eq rfl) (hb hby d1_79) (fun _ _ => ⟨rfl, e10, (by decide : 2 + 1 ≤ _), (by decide : 5 + 1 ≤ _)⟩)
    dsimp only [Pt.U, Pt.locs, Pt.cells, Pt.slots] at X14 l14 y14 z14 st14 hQ14
    subst l14 y14 z14
    obtain ⟨rfl, N14q, K14, Ex14, Cd14, t14, kb14, g_t14, sz_t14, ne_t14, Vl14, Va14⟩ := hQ14
    have N14 := Fr.app N8 N14q
    have pre15 : ∀ tg, own_S p e below T14 m 82 #[iv p1, iv (own_ch p1), iv (own_ch ((p1.toUInt32 >>> ((8 : Int32) &&& 31).toUInt32).toInt32)), iv (0 : Int32), rv b5] [(.ref b10)] tg → Steps p.tables e below (s₁.setTop (entryFrame m #[(.int p1)] 5)) tg := fun tg k => pre4 tg (by
      show own_S p e below T2 m 19 #[iv p1, iv (own_ch p1), iv (own_ch ((p1.toUInt32 >>> ((8 : Int32) &&& 31).toUInt32).toInt32)), .unset, .unset] [(.int (((p1.toUInt32 >>> ((16 : Int32) &&& 31).toUInt32).toInt32) &&& (1 : Int32)))] _
      refine XS.ifYes X2.here hx rfl (pc0 := 19) (pc' := 26) rfl (hb hby d1_19) rfl ((if0 _ _).trans (teq hc19_3).1) (by decide) (by decide) ?_
      refine XS.iconst X2.here hx rfl (hb hby d1_26) ?_
      refine XS.istoreN X2.here hx rfl (hb hby d1_27) rfl (l' := #[iv p1, iv (own_ch p1), iv (own_ch ((p1.toUInt32 >>> ((8 : Int32) &&& 31).toUInt32).toInt32)), iv (0 : Int32), .unset]) rfl ?_
      show own_S p e below T2 m 28 #[iv p1, iv (own_ch p1), iv (own_ch ((p1.toUInt32 >>> ((8 : Int32) &&& 31).toUInt32).toInt32)), iv (0 : Int32), .unset] [] _
      refine XS.iloadN X2.here hx rfl (hb hby d1_28) rfl ?_
      refine XS.ifYes X2.here hx rfl (pc0 := 29) (pc' := 60) rfl (hb hby d1_29) rfl ((if0 _ _).trans (teq (by decide : (0 : Int32) = (0 : Int32))).1) (by decide) (by decide) ?_
      refine XS.iconst X2.here hx rfl (hb hby d1_60) ?_
      show own_S p e below T2 m 61 #[iv p1, iv (own_ch p1), iv (own_ch ((p1.toUInt32 >>> ((8 : Int32) &&& 31).toUInt32).toInt32)), iv (0 : Int32), .unset] [(.int (1 : Int32))] _
      refine st5 _ ?_
      refine XS.astore X5.here hx rfl (hb hby d1_63) rfl rfl (l' := #[iv p1, iv (own_ch p1), iv (own_ch ((p1.toUInt32 >>> ((8 : Int32) &&& 31).toUInt32).toInt32)), iv (0 : Int32), rv b5]) rfl ?_
      refine XS.aload X5.here hx rfl (hb hby d1_65) rfl rfl ?_
      show own_S p e below T5 m 67 #[iv p1, iv (own_ch p1), iv (own_ch ((p1.toUInt32 >>> ((8 : Int32) &&& 31).toUInt32).toInt32)), iv (0 : Int32), rv b5] [(.ref b5)] _
      refine XS.iconst X5.here hx rfl (hb hby d1_67) ?_
      refine XS.iloadN X5.here hx rfl (hb hby d1_68) rfl ?_
      refine st6 _ ?_
      show own_S p e below T6 m 72 #[iv p1, iv (own_ch p1), iv (own_ch ((p1.toUInt32 >>> ((8 : Int32) &&& 31).toUInt32).toInt32)), iv (0 : Int32), rv b5] [(.int (own_la (own_ch p1))), (.int (0 : Int32)), (.ref b5)] _
      refine st8 _ ?_
      refine st10 _ ?_
      refine XS.dup X10.here hx rfl (hb hby d1_76) rfl rfl ?_
      show own_S p e below T10 m 77 #[iv p1, iv (own_ch p1), iv (own_ch ((p1.toUInt32 >>> ((8 : Int32) &&& 31).toUInt32).toInt32)), iv (0 : Int32), rv b5] [(.ref b10), (.ref b10)] _
      refine XS.aload X10.here hx rfl (hb hby d1_77) rfl rfl ?_
      refine st14.trans ?_
      exact k)
    obtain ⟨fs, hr, hrun, hended, hW, hsame⟩ := X14.leave (v := some (.ref b10)) (fun h => by rw [Bd.returns] at h; cases h)
    refine ⟨_, _, pre15 _ ?_, hrun, hended, _, _, rfl, ?_, ⟨_, rfl⟩, hW, hsame.mono (by decide) (by decide)⟩
    · show own_S p e below T14 m 82 #[iv p1, iv (own_ch p1), iv (own_ch ((p1.toUInt32 >>> ((8 : Int32) &&& 31).toUInt32).toInt32)), iv (0 : Int32), rv b5] [(.ref b10)] _
      exact retOut X14 hx (t := (.object "java/lang/String")) Bd.returns rfl (Or.inr (Or.inr (Or.inr (Or.inr ⟨rfl, rfl, rfl⟩)))) (hb hby d1_82) hr
    · show QMk Z p1 zc h0 n0 _ T14.heap _
      have hmk : own_mk p1 = [(own_la (own_ch p1))] := by unfold own_mk; rw [if_pos hc19_3]
      unfold QMk
      rw [hmk]
      exact ⟨b10, t14, _, rfl, N14, (((((Keep.refl h0 []).ext E5).wr W8 (Or.inr sz_b5)).ext E10).trans K14 (allS (Or.inr sz_b10) all0)), Ex14, Cd14, Vl14, Va14, g_b10, sz_b10, g_t14, Nat.le_trans (hszk) sz_t14, ne_t14⟩
  ·  -- pc 19 no
    obtain ⟨T16, h16, k16, X16, e16, E16, A16, st16⟩ := newP X2 hx hZ (hw _ (List.mem_of_getElem? (i := 7) rfl)) e2 (g := (mkF m 33 #[iv p1, iv (own_ch p1), iv (own_ch ((p1.toUInt32 >>> ((8 : Int32) &&& 31).toUInt32).toInt32)), iv (1 : Int32), .unset] [(.int (2 : Int32))])) rfl (hb hby d1_33) rfl (by decide) (cap := 2) (by decide) (by decide) (by decide) (by decide)
    obtain ⟨b16, g16⟩ : ∃ z, z = h0.size := ⟨_, rfl⟩
    rw [← g16] at A16 st16
    have g_b16 : n0 ≤ b16 := Nat.le_trans Z0 (Nat.le_of_eq g16.symm)
    have sz_b16 : h0.size ≤ b16 := Nat.le_trans ((Keep.refl h0 [])).1 (Nat.le_of_eq g16.symm)
    have V_b16 : Arv Z h16 b16 k16 .char (2 : Int32) [(.int (0 : Int32)), (.int (0 : Int32))] (.int (0 : Int32)) := (Arv.new A16 (by decide)).pad (pad_rep [] (.int (0 : Int32)) 2)
    obtain ⟨cl17, Ar17, q17, S17, M17, H17, G17⟩ := id V_b16
    have hin17 : ¬ ((0 : Int32) < 0 ∨ cl17.slots.size ≤ ((0 : Int32)).toNatClampNeg) := inb_of S17 ⟨by decide, by decide⟩
    obtain ⟨T17, h17, X17, e17, W17, st17⟩ := stC X16 hx hZ e16 Ar17 (j := (0 : Int32)) hin17 (g := (mkF m 41 #[iv p1, iv (own_ch p1), iv (own_ch ((p1.toUInt32 >>> ((8 : Int32) &&& 31).toUInt32).toInt32)), iv (1 : Int32), rv b16] [(.int (own_ch p1)), (.int (0 : Int32)), (.ref b16)])) rfl rfl (hb hby d1_41)
    have V17 : Arv Z h17 b16 k16 .char (2 : Int32) [(.int (nar .char (own_ch p1))), (.int (0 : Int32))] (.int (0 : Int32)) := Arv.set Ar17 q17 S17 M17 H17 G17 (fits_nar_char _) W17 0 rfl (Nat.le_of_ble_eq_true rfl)
    have N17 := Fr.snoc X17 N2 g_b16
    have Zs19 : n0 ≤ h17.size := (Nat.le_trans (Nat.le_trans Z0 E16.1) (Keep.of_wr W17).1)
    obtain ⟨_, _, ⟨T18, L18, k18, n18⟩, -, X18, ⟨Lc18, hQ18, l18, y18, z18⟩, st18⟩ := Jvm.LawKit.callS X17 hx (y := (⟨"com/example/garter/garter/schema/TableNameEqualsPinLaw", "last", "(C)C"⟩ : MethodName)) hown (mvT hZ (hw _ (List.mem_of_getElem? (i := 8) rfl))) (mvT hZ (hw _ (List.mem_of_getElem? (i := 9) rfl))) (mvT hZ (hw _ (List.mem_of_getElem? (i := 2) rfl))) (mvT hZ (hw _ (List.mem_of_getElem? (i := 10) rfl))) (by decide) (backOf (W := 2) (rmLa l Z a0 hw [] (own_ch ((p1.toUInt32 >>> ((8 : Int32) &&& 31).toUInt32).toInt32)) h17 n0 Zs19 (own_nc (own_ch_c _))) hZ (hw _ (List.mem_of_getElem? (i := 10) rfl)) (hw _ (List.mem_of_getElem? (i := 2) rfl)) (by decide) (by decide)) (g := (mkF m 46 #[iv p1, iv (own_ch p1), iv (own_ch ((p1.toUInt32 >>> ((8 : Int32) &&& 31).toUInt32).toInt32)), iv (1 : Int32), rv b16] [(.int (own_ch ((p1.toUInt32 >>> ((8 : Int32) &&& 31).toUInt32).toInt32))), (.int (1 : Int32)), (.ref b16)])) rfl (by rw [hml]; rfl) (argsL := [(.int (own_ch ((p1.toUInt32 >>> ((8 : Int32) &&& 31).toUInt32).toInt32)))]) (rest := [(.int (1 : Int32)), (.ref b16)]) (lenOf pd_1 rfl) rfl (by show 2 * 0 + _ ≤ _; exact Nat.le_of_eq rfl) (hb hby d1_46) (fun _ _ => ⟨rfl, e17, (by decide : 1 + 0 ≤ _), (by decide : 2 + 0 ≤ _)⟩)
    dsimp only [Pt.U, Pt.locs, Pt.cells, Pt.slots] at X18 l18 y18 z18 st18 hQ18
    subst l18 y18 z18
    obtain ⟨rfl, N18q, e18q⟩ := hQ18
    have N18 := Fr.app N17 N18q
    have e18 : T18.heap = h17 := e18q
    obtain ⟨cl20, Ar20, q20, S20, M20, H20, G20⟩ := id V17
    have hin20 : ¬ ((1 : Int32) < 0 ∨ cl20.slots.size ≤ ((1 : Int32)).toNatClampNeg) := inb_of S20 ⟨by decide, by decide⟩
    obtain ⟨T20, h20, X20, e20, W20, st20⟩ := stC X18 hx hZ e18 Ar20 (j := (1 : Int32)) hin20 (g := (mkF m 49 #[iv p1, iv (own_ch p1), iv (own_ch ((p1.toUInt32 >>> ((8 : Int32) &&& 31).toUInt32).toInt32)), iv (1 : Int32), rv b16] [(.int (own_la (own_ch ((p1.toUInt32 >>> ((8 : Int32) &&& 31).toUInt32).toInt32)))), (.int (1 : Int32)), (.ref b16)])) rfl rfl (hb hby d1_49)
    have V20 : Arv Z h20 b16 k16 .char (2 : Int32) [(.int (nar .char (own_ch p1))), (.int (nar .char (own_la (own_ch ((p1.toUInt32 >>> ((8 : Int32) &&& 31).toUInt32).toInt32)))))] (.int (0 : Int32)) := Arv.set Ar20 q20 S20 M20 H20 G20 (fits_nar_char _) W20 1 rfl (Nat.le_of_ble_eq_true rfl)
    have N20 := Fr.snoc X20 N18 g_b16
    have Zs21 : n0 ≤ h20.size := (Nat.le_trans Zs19 (Keep.of_wr W20).1)
    obtain ⟨T22, h22, X22, e22, E22, A22, D22, -, st22⟩ := newO X20 hx hZ hown (hw _ (List.mem_of_getElem? (i := 11) rfl)) (hw _ (List.mem_of_getElem? (i := 12) rfl)) (hw _ (List.mem_of_getElem? (i := 13) rfl)) e20 (g := (mkF m 50 #[iv p1, iv (own_ch p1), iv (own_ch ((p1.toUInt32 >>> ((8 : Int32) &&& 31).toUInt32).toInt32)), iv (1 : Int32), rv b16] [])) rfl (hb hby d1_50) (by decide) (by decide)
    obtain ⟨b22, g22⟩ : ∃ z, z = h20.size := ⟨_, rfl⟩
    rw [← g22] at A22 D22 st22
    have g_b22 : n0 ≤ b22 := Nat.le_trans Zs21 (Nat.le_of_eq g22.symm)
    have sz_b22 : h0.size ≤ b22 := Nat.le_trans (((((Keep.refl h0 []).ext E16).wr W17 (Or.inr sz_b16)).wr W20 (Or.inr sz_b16))).1 (Nat.le_of_eq g22.symm)
    have ne_b16_b22 : b16 ≠ b22 := Nat.ne_of_lt (Nat.lt_of_lt_of_le V20.lt (Nat.le_of_eq g22.symm))
    have F_coder_b22 : Fld Z h22 b22 "java/lang/String" "coder" "B" (.int (0 : Int32)) := D22 (Or.inr (hw _ (List.mem_of_getElem? (i := 37) rfl))) (ty := .byte) (by decide)
    have F_value_b22 : Fld Z h22 b22 "java/lang/String" "value" "[B" .null := D22 (Or.inr (hw _ (List.mem_of_getElem? (i := 39) rfl))) (ty := (.array .byte)) (by decide)
    have hszk : h0.size ≤ h22.size := ((((((Keep.refl h0 []).ext E16).wr W17 (Or.inr sz_b16)).wr W20 (Or.inr sz_b16)).ext E22)).1
    have Vn_23 := (V20.ext E22)
    rw [own_nc (own_ch_c _), own_nc (own_la_c (own_ch_c _)).1] at Vn_23
    have Zs24 : n0 ≤ h22.size := (Nat.le_trans Zs21 E22.1)
    have Sn_25 := ((((S_c.ext E16).wr W17).wr W20).ext E22)
    obtain ⟨_, _, ⟨T26, L26, k26, n26⟩, -, X26, ⟨Lc26, hQ26, l26, y26, z26⟩, st26⟩ := X22.specialBack hx (y := (⟨"java/lang/String", "<init>", "([C)V"⟩ : MethodName)) rfl hown (mvT hZ (hw _ (List.mem_of_getElem? (i := 14) rfl))) (mvT hZ (hw _ (List.mem_of_getElem? (i := 15) rfl))) (mvT hZ (hw _ (List.mem_of_getElem? (i := 16) rfl))) (by decide) (StrChars.Road.backV (W := 1) hZ (own_wV hw) (hw _ (List.mem_of_getElem? (i := 12) rfl)) (cs := [(own_ch p1), (own_la (own_ch ((p1.toUInt32 >>> ((8 : Int32) &&& 31).toUInt32).toInt32)))]) g_b22 Zs24 A22 F_value_b22 F_coder_b22 Vn_23 Sn_25 hzc (n := 2) rfl rfl (by decide) (by decide) (own_hp2 (own_ch_c _) (own_la_c (own_ch_c _)).1) rfl (by decide) (by decide)) (g := (mkF m 56 #[iv p1, iv (own_ch p1), iv (own_ch ((p1.toUInt32 >>> ((8 : Int32) &&& 31).toUInt32).toInt32)), iv (1 : Int32), rv b16] [(.ref b16), (.ref b22), (.ref b22)])) rfl (by rw [hml]; rfl) (Steps.refl _) (a := b22) (argsL := [(.ref b16)]) (rest := [(.ref b22)]) (lenOf pd_2 rfl) rfl (by show 2 * 0 + _ ≤ _; exact Nat.le_of_eq rfl) (hb hby d1_56) (fun _ _ => ⟨rfl, e22, (by decide : 2 + 1 ≤ _), (by decide : 6 + 2 ≤ _)⟩)
    dsimp only [Pt.U, Pt.locs, Pt.cells, Pt.slots] at X26 l26 y26 z26 st26 hQ26
    subst l26 y26 z26
    obtain ⟨rfl, N26q, K26, Ex26, Cd26, t26, kb26, g_t26, sz_t26, ne_t26, Vl26, Va26⟩ := hQ26
    have N26 := Fr.app N20 N26q
    have pre27 : ∀ tg, own_S p e below T26 m 59 #[iv p1, iv (own_ch p1), iv (own_ch ((p1.toUInt32 >>> ((8 : Int32) &&& 31).toUInt32).toInt32)), iv (1 : Int32), rv b16] [(.ref b22)] tg → Steps p.tables e below (s₁.setTop (entryFrame m #[(.int p1)] 5)) tg := fun tg k => pre4 tg (by
      show own_S p e below T2 m 19 #[iv p1, iv (own_ch p1), iv (own_ch ((p1.toUInt32 >>> ((8 : Int32) &&& 31).toUInt32).toInt32)), .unset, .unset] [(.int (((p1.toUInt32 >>> ((16 : Int32) &&& 31).toUInt32).toInt32) &&& (1 : Int32)))] _
      refine XS.ifNo X2.here hx rfl (hb hby d1_19) rfl ((if0 _ _).trans (feq hc19_3).1) ?_
      refine XS.iconst X2.here hx rfl (hb hby d1_22) ?_
      refine XS.goto X2.here hx rfl (pc0 := 23) (pc' := 27) rfl (hb hby d1_23) (by decide) (by decide) ?_
      show own_S p e below T2 m 27 #[iv p1, iv (own_ch p1), iv (own_ch ((p1.toUInt32 >>> ((8 : Int32) &&& 31).toUInt32).toInt32)), .unset, .unset] [(.int (1 : Int32))] _
      refine XS.istoreN X2.here hx rfl (hb hby d1_27) rfl (l' := #[iv p1, iv (own_ch p1), iv (own_ch ((p1.toUInt32 >>> ((8 : Int32) &&& 31).toUInt32).toInt32)), iv (1 : Int32), .unset]) rfl ?_
      refine XS.iloadN X2.here hx rfl (hb hby d1_28) rfl ?_
      refine XS.ifNo X2.here hx rfl (hb hby d1_29) rfl ((if0 _ _).trans (feq (by decide : ¬ ((1 : Int32) = (0 : Int32)))).1) ?_
      show own_S p e below T2 m 32 #[iv p1, iv (own_ch p1), iv (own_ch ((p1.toUInt32 >>> ((8 : Int32) &&& 31).toUInt32).toInt32)), iv (1 : Int32), .unset] [] _
      refine XS.iconst X2.here hx rfl (hb hby d1_32) ?_
      refine st16 _ ?_
      refine XS.astore X16.here hx rfl (hb hby d1_35) rfl rfl (l' := #[iv p1, iv (own_ch p1), iv (own_ch ((p1.toUInt32 >>> ((8 : Int32) &&& 31).toUInt32).toInt32)), iv (1 : Int32), rv b16]) rfl ?_
      show own_S p e below T16 m 37 #[iv p1, iv (own_ch p1), iv (own_ch ((p1.toUInt32 >>> ((8 : Int32) &&& 31).toUInt32).toInt32)), iv (1 : Int32), rv b16] [] _
      refine XS.aload X16.here hx rfl (hb hby d1_37) rfl rfl ?_
      refine XS.iconst X16.here hx rfl (hb hby d1_39) ?_
      refine XS.iloadN X16.here hx rfl (hb hby d1_40) rfl ?_
      show own_S p e below T16 m 41 #[iv p1, iv (own_ch p1), iv (own_ch ((p1.toUInt32 >>> ((8 : Int32) &&& 31).toUInt32).toInt32)), iv (1 : Int32), rv b16] [(.int (own_ch p1)), (.int (0 : Int32)), (.ref b16)] _
      refine st17 _ ?_
      refine XS.aload X17.here hx rfl (hb hby d1_42) rfl rfl ?_
      refine XS.iconst X17.here hx rfl (hb hby d1_44) ?_
      show own_S p e below T17 m 45 #[iv p1, iv (own_ch p1), iv (own_ch ((p1.toUInt32 >>> ((8 : Int32) &&& 31).toUInt32).toInt32)), iv (1 : Int32), rv b16] [(.int (1 : Int32)), (.ref b16)] _
      refine XS.iloadN X17.here hx rfl (hb hby d1_45) rfl ?_
      refine st18 _ ?_
      refine st20 _ ?_
      show own_S p e below T20 m 50 #[iv p1, iv (own_ch p1), iv (own_ch ((p1.toUInt32 >>> ((8 : Int32) &&& 31).toUInt32).toInt32)), iv (1 : Int32), rv b16] [] _
      refine st22 _ ?_
      refine XS.dup X22.here hx rfl (hb hby d1_53) rfl rfl ?_
      refine XS.aload X22.here hx rfl (hb hby d1_54) rfl rfl ?_
      show own_S p e below T22 m 56 #[iv p1, iv (own_ch p1), iv (own_ch ((p1.toUInt32 >>> ((8 : Int32) &&& 31).toUInt32).toInt32)), iv (1 : Int32), rv b16] [(.ref b16), (.ref b22), (.ref b22)] _
      refine st26.trans ?_
      exact k)
    obtain ⟨fs, hr, hrun, hended, hW, hsame⟩ := X26.leave (v := some (.ref b22)) (fun h => by rw [Bd.returns] at h; cases h)
    refine ⟨_, _, pre27 _ ?_, hrun, hended, _, _, rfl, ?_, ⟨_, rfl⟩, hW, hsame.mono (by decide) (by decide)⟩
    · show own_S p e below T26 m 59 #[iv p1, iv (own_ch p1), iv (own_ch ((p1.toUInt32 >>> ((8 : Int32) &&& 31).toUInt32).toInt32)), iv (1 : Int32), rv b16] [(.ref b22)] _
      exact retOut X26 hx (t := (.object "java/lang/String")) Bd.returns rfl (Or.inr (Or.inr (Or.inr (Or.inr ⟨rfl, rfl, rfl⟩)))) (hb hby d1_59) hr
    · show QMk Z p1 zc h0 n0 _ T26.heap _
      have hmk : own_mk p1 = [(own_ch p1), (own_la (own_ch ((p1.toUInt32 >>> ((8 : Int32) &&& 31).toUInt32).toInt32)))] := by unfold own_mk; rw [if_neg hc19_3]
      unfold QMk
      rw [hmk]
      exact ⟨b22, t26, _, rfl, N26, ((((((Keep.refl h0 []).ext E16).wr W17 (Or.inr sz_b16)).wr W20 (Or.inr sz_b16)).ext E22).trans K26 (allS (Or.inr sz_b22) all0)), Ex26, Cd26, Vl26, Va26, g_b22, sz_b22, g_t26, Nat.le_trans (hszk) sz_t26, ne_t26⟩
theorem own_cod1 {a : Int32} (h : own_c a) : StrChars.Road.CodA [a] 0 (1 : Int32) [.int a.toInt8.toInt32] := StrChars.Road.codOf (cs := [a]) (n := 1) rfl (fun z hz => (own_hp1 h z hz).2)
theorem own_cod2 {a b : Int32} (h : own_c a) (g : own_c b) : StrChars.Road.CodA [a, b] 0 (2 : Int32) [.int a.toInt8.toInt32, .int b.toInt8.toInt32] := StrChars.Road.codOf (cs := [a, b]) (n := 2) rfl (fun z hz => (own_hp2 h g z hz).2)
theorem own_c32 : own_c 32 := by unfold own_c; decide
theorem own_cod32 : StrChars.Road.CodA [32] 0 (1 : Int32) [.int (32 : Int32)] := by
  have q := own_cod1 own_c32
  rw [show (32 : Int32).toInt8.toInt32 = 32 from by decide] at q; exact q
theorem own_cod {cs : List Int32} (h : own_ok cs) : StrChars.Road.CodA cs 0 (Int32.ofNat cs.length) (own_bs cs) := by
  rcases own_cs h with ⟨a, rfl, ha, -⟩ | ⟨a, b, rfl, ha, hb, -⟩
  · exact own_cod1 ha
  · exact own_cod2 ha hb
theorem own_hp {cs : List Int32} (h : own_ok cs) : ∀ z ∈ cs, ¬ z < 0 ∧ ¬ (65535 : Int32) < z := by
  rcases own_cs h with ⟨a, rfl, ha, -⟩ | ⟨a, b, rfl, ha, hb, -⟩
  · exact own_up (own_hp1 ha)
  · exact own_up (own_hp2 ha hb)
theorem own_len {cs : List Int32} (h : own_ok cs) : cs.length ≤ 4000 := by
  rcases own_cs h with ⟨a, rfl, ha, -⟩ | ⟨a, b, rfl, ha, hb, -⟩ <;> exact Nat.le_of_ble_eq_true rfl
theorem own_or1 {v : Option Value} {P : Prop} (h : (v = some (.int 1) ∧ P) ∨ (v = some (.int 0) ∧ ¬ P)) (q : P) : v = some (.int 1) := by
  rcases h with ⟨e, -⟩ | ⟨-, n⟩
  · exact e
  · exact absurd q n
theorem own_or0 {v : Option Value} {P : Prop} (h : (v = some (.int 1) ∧ P) ∨ (v = some (.int 0) ∧ ¬ P)) (q : ¬ P) : v = some (.int 0) := by
  rcases h with ⟨-, n⟩ | ⟨e, -⟩
  · exact absurd n q
  · exact e
theorem own_noT {Z : State} {a0 : Array Value} {C S K : String} {n : Nat} (w : (Cond.superclass C S).before a0 Z = true) (w0 : (Cond.noSuperclass S).before a0 Z = true) (wk : (Cond.instantiable K n).before a0 Z = true) (n1 : C ≠ K) (n2 : S ≠ K) : ∃ c t, Z.vm.findClass C = some c ∧ Z.vm.findClass K = some t ∧ Z.vm.assignable c t = false := by
  obtain ⟨t, k', g0, g2, g5, g6, -, -⟩ := Cond.instantiable_spec wk
  have g7 : k'.isInterface = false := (Bool.or_eq_false_iff.mp g6).1
  obtain ⟨c, h0⟩ := found_sup w
  obtain ⟨p, k, kp, h1, h2, h3, h4, h5, -, h7⟩ := Cond.superclass_spec h0 w
  obtain ⟨p', kp', e1, e2, e3, -, -⟩ := Cond.noSuperclass_spec w0
  cases h1.symm.trans e1
  have ne := ids_ne h0 g0 n1
  have ne' := ids_ne h1 g0 n2
  have r : ∀ fuel, Z.vm.isSubclassAux fuel p t = false := fun fuel => by
    cases fuel with
    | zero => rfl
    | succ f => simp [Vm.isSubclassAux, ne', e2, e3]
  have r' : ∀ fuel, Z.vm.isSubclassAux fuel c t = false := fun fuel => by
    cases fuel with
    | zero => rfl
    | succ f => simp [Vm.isSubclassAux, ne, h2, h4, r]
  refine ⟨c, t, h0, g0, ?_⟩
  show Z.vm.assignableAux (255 + 1) c t = false
  simp [Vm.assignableAux, ne, h2, g2, h5, g5, g7, Vm.isSubclass, r']
theorem pn_1 : plainName "java/util/Objects" = true := by first | (simp [plainName, overriddenIn]; done) | decide +kernel
theorem ef_Req (m : MethodId) (x : Addr) (y : Addr) : entryFrame m #[(.ref x), (.ref y)] 2 = mkF m 0 #[rv x, rv y] [] := by first | (simp [entryFrame, mkF, argsToLocals, Value.category]; done) | rfl
def QReq (Z : State) (x y : Addr) (h0 : Heap) (n0 : Nat) (v : Option Value) (h : Heap) (L : List Loc) : Prop := v = some (.ref x) ∧ Fr n0 L ∧ h = h0
theorem d12_0 : decode jdk_31_method_11_code 0 = .ok (.aload_n 0, 1) := by decide +kernel
theorem d12_1 : decode jdk_31_method_11_code 1 = .ok (.ifnonnull 12, 3) := by decide +kernel
theorem d12_13 : decode jdk_31_method_11_code 13 = .ok (.aload_n 0, 1) := by decide +kernel
theorem d12_14 : decode jdk_31_method_11_code 14 = .ok (.areturn, 1) := by decide +kernel
set_option maxRecDepth 65536 in
set_option maxHeartbeats 40000000 in
theorem rmReq (l : Launch) (Z : State) (a0 : Array Value) (hw : ∀ d ∈ tables_1, d.before a0 Z = true) (ws : List Jvm.Cond) (x y : Addr) (h0 : Heap) (n0 : Nat) (Z0 : n0 ≤ h0.size)  :
    MetFree l (⟨"java/util/Objects", "requireNonNull", "(Ljava/lang/Object;Ljava/lang/String;)Ljava/lang/Object;"⟩ : MethodName) (head1 (Jvm.Cond.code (⟨"java/util/Objects", "requireNonNull", "(Ljava/lang/Object;Ljava/lang/String;)Ljava/lang/Object;"⟩ : MethodName) jdk_31_method_11_code 2 (some (.object "java/lang/Object")) :: ws) ({ frames := 0, cells := 0, slots := 0, locals := 0 } : Room)) (fun a U => a = #[(.ref x), (.ref y)] ∧ Z.Warmed39 U.vm ∧ U.heap = h0) (fun _ _ _ _ _ => True) (fun _ U o U' => ∃ v L, o = .returned v ∧ QReq Z x y h0 n0 v U'.heap L ∧ FrameEnd U o U' L ({ frames := 0, cells := 0, slots := 0, locals := 0 } : Room).cells ({ frames := 0, cells := 0, slots := 0, locals := 0 } : Room).slots) := by
  refine MetFree.of_bodySF (plainFor_of_name pn_1) hisR ?_
  intro p e s m args below meth c s₁ Bd hml0 hP hK
  obtain ⟨rfl, hZ, hh⟩ := hP
  have hx := Bd.exec
  have hby := Bd.bytes
  have hml : c.maxLocals = 2 := hml0
  have hown : s.vm.findClass "java/util/Objects" = some m.cls := findClass_of_methodNamed Bd.named
  have hnm := (name_of_methodNamed Bd.named Bd.method).1
  have X0 : Stand p l e ({ frames := 0, cells := 0, slots := 0, locals := 0 } : Room) s m #[(.ref x), (.ref y)] below meth c s₁ [] 0 0 := Stand.of_body Bd
  have e0 : s₁.heap = h0 := by rw [← hh, Bd.state]; rfl
  have N0 := Fr.nil n0
  have pre0 : ∀ tg, Steps p.tables e below (s₁.setTop (mkF m 0 #[rv x, rv y] [])) tg → Steps p.tables e below (s₁.setTop (entryFrame m #[(.ref x), (.ref y)] 2)) tg := fun tg k => castTop (ef_Req m x y) k
  have pre1 : ∀ tg, own_S p e below s₁ m 14 #[rv x, rv y] [(.ref x)] tg → Steps p.tables e below (s₁.setTop (entryFrame m #[(.ref x), (.ref y)] 2)) tg := fun tg k => pre0 tg (by
    show own_S p e below s₁ m 0 #[rv x, rv y] [] _
    refine XS.aloadN X0.here hx rfl (hb hby d12_0) rfl rfl ?_
    refine XS.ifnonnullYes X0.here hx rfl (pc0 := 1) (pc' := 13) rfl (hb hby d12_1) rfl (by decide) (by decide) ?_
    refine XS.aloadN X0.here hx rfl (hb hby d12_13) rfl rfl ?_
    exact k)
  obtain ⟨fs, hr, hrun, hended, hW, hsame⟩ := X0.leave (v := some (.ref x)) (fun h => by rw [Bd.returns] at h; cases h)
  refine ⟨_, _, pre1 _ ?_, hrun, hended, _, _, rfl, ?_, ⟨_, rfl⟩, hW, hsame.mono (by decide) (by decide)⟩
  · show own_S p e below s₁ m 14 #[rv x, rv y] [(.ref x)] _
    exact retOut X0 hx (t := (.object "java/lang/Object")) Bd.returns rfl (Or.inr (Or.inr (Or.inr (Or.inr ⟨rfl, rfl, rfl⟩)))) (hb hby d12_14) hr
  · show QReq Z x y h0 n0 _ s₁.heap _
    rw [e0]
    exact ⟨rfl, N0, rfl⟩
theorem pn_2 : plainName "java/lang/Character" = true := by first | (simp [plainName, overriddenIn]; done) | decide +kernel
theorem ef_Sur (m : MethodId) (p1 : Int32) : entryFrame m #[(.int p1)] 1 = mkF m 0 #[iv p1] [] := by first | (simp [entryFrame, mkF, argsToLocals, Value.category]; done) | rfl
def QSur (Z : State) (p1 : Int32) (h0 : Heap) (n0 : Nat) (v : Option Value) (h : Heap) (L : List Loc) : Prop := v = some (.int 0) ∧ Fr n0 L ∧ h = h0
theorem d24_0 : decode jdk_89_method_16_code 0 = .ok (.iload_n 0, 1) := by decide +kernel
theorem d24_1 : decode jdk_89_method_16_code 1 = .ok (.ldc 75, 2) := by decide +kernel
theorem d24_3 : decode jdk_89_method_16_code 3 = .ok (.if_icmp .lt 13, 3) := by decide +kernel
theorem d24_16 : decode jdk_89_method_16_code 16 = .ok (.iconst 0, 1) := by decide +kernel
theorem d24_17 : decode jdk_89_method_16_code 17 = .ok (.ireturn, 1) := by decide +kernel
set_option maxRecDepth 65536 in
set_option maxHeartbeats 40000000 in
theorem rmSur (l : Launch) (Z : State) (a0 : Array Value) (hw : ∀ d ∈ tables_1, d.before a0 Z = true) (ws : List Jvm.Cond) (p1 : Int32) (h0 : Heap) (n0 : Nat) (Z0 : n0 ≤ h0.size) (hs : p1 < (55296 : Int32)) :
    MetFree l (⟨"java/lang/Character", "isSurrogate", "(C)Z"⟩ : MethodName) (head1 (Jvm.Cond.code (⟨"java/lang/Character", "isSurrogate", "(C)Z"⟩ : MethodName) jdk_89_method_16_code 1 (some .boolean) :: ws) ({ frames := 0, cells := 0, slots := 0, locals := 0 } : Room)) (fun a U => a = #[(.int p1)] ∧ Z.Warmed39 U.vm ∧ U.heap = h0) (fun _ _ _ _ _ => True) (fun _ U o U' => ∃ v L, o = .returned v ∧ QSur Z p1 h0 n0 v U'.heap L ∧ FrameEnd U o U' L ({ frames := 0, cells := 0, slots := 0, locals := 0 } : Room).cells ({ frames := 0, cells := 0, slots := 0, locals := 0 } : Room).slots) := by
  refine MetFree.of_bodySF (plainFor_of_name pn_2) hisR ?_
  intro p e s m args below meth c s₁ Bd hml0 hP hK
  obtain ⟨rfl, hZ, hh⟩ := hP
  have hx := Bd.exec
  have hby := Bd.bytes
  have hml : c.maxLocals = 1 := hml0
  have hown : s.vm.findClass "java/lang/Character" = some m.cls := findClass_of_methodNamed Bd.named
  have hnm := (name_of_methodNamed Bd.named Bd.method).1
  have X0 : Stand p l e ({ frames := 0, cells := 0, slots := 0, locals := 0 } : Room) s m #[(.int p1)] below meth c s₁ [] 0 0 := Stand.of_body Bd
  have e0 : s₁.heap = h0 := by rw [← hh, Bd.state]; rfl
  have N0 := Fr.nil n0
  have pre0 : ∀ tg, Steps p.tables e below (s₁.setTop (mkF m 0 #[iv p1] [])) tg → Steps p.tables e below (s₁.setTop (entryFrame m #[(.int p1)] 1)) tg := fun tg k => castTop (ef_Sur m p1) k
  have pre1 : ∀ tg, own_S p e below s₁ m 17 #[iv p1] [(.int (0 : Int32))] tg → Steps p.tables e below (s₁.setTop (entryFrame m #[(.int p1)] 1)) tg := fun tg k => pre0 tg (by
    show own_S p e below s₁ m 0 #[iv p1] [] _
    refine XS.iloadN X0.here hx rfl (hb hby d24_0) rfl ?_
    refine X0.ldcInt hx hown (mvT hZ (hw _ (List.mem_of_getElem? (i := 114) rfl))) (g := (mkF m 1 #[iv p1] [(.int p1)])) rfl (hb hby d24_1) _ ?_
    refine XS.icmpYes X0.here hx rfl (pc0 := 3) (pc' := 16) rfl (hb hby d24_3) rfl (tlt hs).1 (by decide) (by decide) ?_
    show own_S p e below s₁ m 16 #[iv p1] [] _
    refine XS.iconst X0.here hx rfl (hb hby d24_16) ?_
    exact k)
  obtain ⟨fs, hr, hrun, hended, hW, hsame⟩ := X0.leave (v := some (.int (nar .boolean (0 : Int32)))) (fun h => by rw [Bd.returns] at h; cases h)
  refine ⟨_, _, pre1 _ ?_, hrun, hended, _, _, rfl, ?_, ⟨_, rfl⟩, hW, hsame.mono (by decide) (by decide)⟩
  · show own_S p e below s₁ m 17 #[iv p1] [(.int (0 : Int32))] _
    exact retN X0 hx (t := .boolean) Bd.returns (by simp) (hb hby d24_17) hr
  · show QSur Z p1 h0 n0 _ s₁.heap _
    rw [e0]
    exact ⟨rfl, N0, rfl⟩
theorem pn_3 : plainName "java/lang/String" = true := by first | (simp [plainName, overriddenIn]; done) | decide +kernel
theorem ef_Cod (m : MethodId) (x : Addr) : entryFrame m #[(.ref x)] 1 = mkF m 0 #[rv x] [] := by first | (simp [entryFrame, mkF, argsToLocals, Value.category]; done) | rfl
def QCod (Z : State) (x : Addr) (zc : Int32) (h0 : Heap) (n0 : Nat) (v : Option Value) (h : Heap) (L : List Loc) : Prop := v = some (.int 0) ∧ Fr n0 L ∧ h = h0
theorem d15_0 : decode jdk_42_method_152_code 0 = .ok (.getstatic 38, 3) := by decide +kernel
theorem d15_3 : decode jdk_42_method_152_code 3 = .ok (.ifCond .eq 10, 3) := by decide +kernel
theorem d15_6 : decode jdk_42_method_152_code 6 = .ok (.aload_n 0, 1) := by decide +kernel
theorem d15_7 : decode jdk_42_method_152_code 7 = .ok (.getfield 15, 3) := by decide +kernel
theorem d15_10 : decode jdk_42_method_152_code 10 = .ok (.goto 4, 3) := by decide +kernel
theorem d15_14 : decode jdk_42_method_152_code 14 = .ok (.ireturn, 1) := by decide +kernel
set_option maxRecDepth 65536 in
set_option maxHeartbeats 40000000 in
theorem rmCod (l : Launch) (Z : State) (a0 : Array Value) (hw : ∀ d ∈ tables_1, d.before a0 Z = true) (ws : List Jvm.Cond) (x : Addr) (zc : Int32) (h0 : Heap) (n0 : Nat) (Z0 : n0 ≤ h0.size) (C_x : Fld Z h0 x "java/lang/String" "coder" "B" (.int 0)) (S_c : Sta Z h0 "java/lang/String" "COMPACT_STRINGS" "Z" (.int zc)) (hzc : ¬ zc = 0) :
    MetFree l (⟨"java/lang/String", "coder", "()B"⟩ : MethodName) (head1 (Jvm.Cond.code (⟨"java/lang/String", "coder", "()B"⟩ : MethodName) jdk_42_method_152_code 1 (some .byte) :: ws) ({ frames := 0, cells := 0, slots := 0, locals := 0 } : Room)) (fun a U => a = #[(.ref x)] ∧ Z.Warmed39 U.vm ∧ U.heap = h0) (fun _ _ _ _ _ => True) (fun _ U o U' => ∃ v L, o = .returned v ∧ QCod Z x zc h0 n0 v U'.heap L ∧ FrameEnd U o U' L ({ frames := 0, cells := 0, slots := 0, locals := 0 } : Room).cells ({ frames := 0, cells := 0, slots := 0, locals := 0 } : Room).slots) := by
  refine MetFree.of_bodySF (plainFor_of_name pn_3) hisR ?_
  intro p e s m args below meth c s₁ Bd hml0 hP hK
  obtain ⟨rfl, hZ, hh⟩ := hP
  have hx := Bd.exec
  have hby := Bd.bytes
  have hml : c.maxLocals = 1 := hml0
  have hown : s.vm.findClass "java/lang/String" = some m.cls := findClass_of_methodNamed Bd.named
  have hnm := (name_of_methodNamed Bd.named Bd.method).1
  have X0 : Stand p l e ({ frames := 0, cells := 0, slots := 0, locals := 0 } : Room) s m #[(.ref x)] below meth c s₁ [] 0 0 := Stand.of_body Bd
  have e0 : s₁.heap = h0 := by rw [← hh, Bd.state]; rfl
  have N0 := Fr.nil n0
  have pre0 : ∀ tg, Steps p.tables e below (s₁.setTop (mkF m 0 #[rv x] [])) tg → Steps p.tables e below (s₁.setTop (entryFrame m #[(.ref x)] 1)) tg := fun tg k => castTop (ef_Cod m x) k
  obtain ⟨T1, X1, e1, st1⟩ := getS2 X0 hx hZ hown (host := "") (Or.inl (hw _ (List.mem_of_getElem? (i := 24) rfl))) Via.refl e0 S_c (g := (mkF m 0 #[rv x] [])) rfl (hb hby d15_0)
  obtain ⟨T2, X2, e2, st2⟩ := getF X1 hx hZ hown (host := "") (Or.inl (hw _ (List.mem_of_getElem? (i := 36) rfl))) Via.refl e1 C_x (g := (mkF m 7 #[rv x] [(.ref x)])) rfl rfl (hb hby d15_7)
  have pre3 : ∀ tg, own_S p e below T2 m 14 #[rv x] [(.int (0 : Int32))] tg → Steps p.tables e below (s₁.setTop (entryFrame m #[(.ref x)] 1)) tg := fun tg k => pre0 tg (by
    show own_S p e below s₁ m 0 #[rv x] [] _
    refine st1 _ ?_
    refine XS.ifNo X1.here hx rfl (hb hby d15_3) rfl ((if0 _ _).trans (feq hzc).1) ?_
    refine XS.aloadN X1.here hx rfl (hb hby d15_6) rfl rfl ?_
    show own_S p e below T1 m 7 #[rv x] [(.ref x)] _
    refine st2 _ ?_
    refine XS.goto X2.here hx rfl (pc0 := 10) (pc' := 14) rfl (hb hby d15_10) (by decide) (by decide) ?_
    exact k)
  obtain ⟨fs, hr, hrun, hended, hW, hsame⟩ := X2.leave (v := some (.int (nar .byte (0 : Int32)))) (fun h => by rw [Bd.returns] at h; cases h)
  refine ⟨_, _, pre3 _ ?_, hrun, hended, _, _, rfl, ?_, ⟨_, rfl⟩, hW, hsame.mono (by decide) (by decide)⟩
  · show own_S p e below T2 m 14 #[rv x] [(.int (0 : Int32))] _
    exact retN X2 hx (t := .byte) Bd.returns (by simp) (hb hby d15_14) hr
  · show QCod Z x zc h0 n0 _ T2.heap _
    rw [e2]
    exact ⟨rfl, N0, rfl⟩
theorem pn_4 : plainName "jdk/internal/util/ArraysSupport" = true := by first | (simp [plainName, overriddenIn]; done) | decide +kernel
theorem ef_Mis1 (m : MethodId) (t : Addr) (u : Addr) : entryFrame m #[(.ref t), (.int (0 : Int32)), (.ref u), (.int (0 : Int32)), (.int (1 : Int32))] 8 = mkF m 0 #[rv t, iv (0 : Int32), rv u, iv (0 : Int32), iv (1 : Int32), .unset, .unset, .unset] [] := by first | (simp [entryFrame, mkF, argsToLocals, Value.category]; done) | rfl
def QMis1 (Z : State) (t u : Addr) (k ku : ClassId) (q : Int32) (h0 : Heap) (n0 : Nat) (v : Option Value) (h : Heap) (L : List Loc) : Prop := v = some (.int 0) ∧ Fr n0 L ∧ h = h0
theorem d18_0 : decode jdk_48_method_14_code 0 = .ok (.iconst 0, 1) := by decide +kernel
theorem d18_1 : decode jdk_48_method_14_code 1 = .ok (.istore 5, 2) := by decide +kernel
theorem d18_3 : decode jdk_48_method_14_code 3 = .ok (.iload 4, 2) := by decide +kernel
theorem d18_5 : decode jdk_48_method_14_code 5 = .ok (.bipush 7, 2) := by decide +kernel
theorem d18_7 : decode jdk_48_method_14_code 7 = .ok (.if_icmp .le 63, 3) := by decide +kernel
theorem d18_70 : decode jdk_48_method_14_code 70 = .ok (.iload 5, 2) := by decide +kernel
theorem d18_72 : decode jdk_48_method_14_code 72 = .ok (.iload 4, 2) := by decide +kernel
theorem d18_74 : decode jdk_48_method_14_code 74 = .ok (.if_icmp .ge 27, 3) := by decide +kernel
theorem d18_77 : decode jdk_48_method_14_code 77 = .ok (.aload_n 0, 1) := by decide +kernel
theorem d18_78 : decode jdk_48_method_14_code 78 = .ok (.iload_n 1, 1) := by decide +kernel
theorem d18_79 : decode jdk_48_method_14_code 79 = .ok (.iload 5, 2) := by decide +kernel
theorem d18_81 : decode jdk_48_method_14_code 81 = .ok (.iadd, 1) := by decide +kernel
theorem d18_82 : decode jdk_48_method_14_code 82 = .ok (.baload, 1) := by decide +kernel
theorem d18_83 : decode jdk_48_method_14_code 83 = .ok (.aload_n 2, 1) := by decide +kernel
theorem d18_84 : decode jdk_48_method_14_code 84 = .ok (.iload_n 3, 1) := by decide +kernel
theorem d18_85 : decode jdk_48_method_14_code 85 = .ok (.iload 5, 2) := by decide +kernel
theorem d18_87 : decode jdk_48_method_14_code 87 = .ok (.iadd, 1) := by decide +kernel
theorem d18_88 : decode jdk_48_method_14_code 88 = .ok (.baload, 1) := by decide +kernel
theorem d18_89 : decode jdk_48_method_14_code 89 = .ok (.if_icmp .eq 6, 3) := by decide +kernel
theorem d18_92 : decode jdk_48_method_14_code 92 = .ok (.iload 5, 2) := by decide +kernel
theorem d18_94 : decode jdk_48_method_14_code 94 = .ok (.ireturn, 1) := by decide +kernel
set_option maxRecDepth 65536 in
set_option maxHeartbeats 40000000 in
theorem rmMis1 (l : Launch) (Z : State) (a0 : Array Value) (hw : ∀ d ∈ tables_1, d.before a0 Z = true) (ws : List Jvm.Cond) (t u : Addr) (k ku : ClassId) (q : Int32) (h0 : Heap) (n0 : Nat) (Z0 : n0 ≤ h0.size) (A_t : Arv Z h0 t k .byte (1 : Int32) [(.int q)] (.int 0)) (A_u : Arv Z h0 u ku .byte (1 : Int32) [(.int (32 : Int32))] (.int 0)) (hq : ¬ q = (32 : Int32)) :
    MetFree l (⟨"jdk/internal/util/ArraysSupport", "mismatch", "([BI[BII)I"⟩ : MethodName) (head1 (Jvm.Cond.code (⟨"jdk/internal/util/ArraysSupport", "mismatch", "([BI[BII)I"⟩ : MethodName) jdk_48_method_14_code 8 (some .int) :: ws) ({ frames := 0, cells := 0, slots := 0, locals := 0 } : Room)) (fun a U => a = #[(.ref t), (.int (0 : Int32)), (.ref u), (.int (0 : Int32)), (.int (1 : Int32))] ∧ Z.Warmed39 U.vm ∧ U.heap = h0) (fun _ _ _ _ _ => True) (fun _ U o U' => ∃ v L, o = .returned v ∧ QMis1 Z t u k ku q h0 n0 v U'.heap L ∧ FrameEnd U o U' L ({ frames := 0, cells := 0, slots := 0, locals := 0 } : Room).cells ({ frames := 0, cells := 0, slots := 0, locals := 0 } : Room).slots) := by
  refine MetFree.of_bodySF (plainFor_of_name pn_4) hisR ?_
  intro p e s m args below meth c s₁ Bd hml0 hP hK
  obtain ⟨rfl, hZ, hh⟩ := hP
  have hx := Bd.exec
  have hby := Bd.bytes
  have hml : c.maxLocals = 8 := hml0
  have hown : s.vm.findClass "jdk/internal/util/ArraysSupport" = some m.cls := findClass_of_methodNamed Bd.named
  have hnm := (name_of_methodNamed Bd.named Bd.method).1
  have X0 : Stand p l e ({ frames := 0, cells := 0, slots := 0, locals := 0 } : Room) s m #[(.ref t), (.int (0 : Int32)), (.ref u), (.int (0 : Int32)), (.int (1 : Int32))] below meth c s₁ [] 0 0 := Stand.of_body Bd
  have e0 : s₁.heap = h0 := by rw [← hh, Bd.state]; rfl
  have N0 := Fr.nil n0
  have pre0 : ∀ tg, Steps p.tables e below (s₁.setTop (mkF m 0 #[rv t, iv (0 : Int32), rv u, iv (0 : Int32), iv (1 : Int32), .unset, .unset, .unset] [])) tg → Steps p.tables e below (s₁.setTop (entryFrame m #[(.ref t), (.int (0 : Int32)), (.ref u), (.int (0 : Int32)), (.int (1 : Int32))] 8)) tg := fun tg k => castTop (ef_Mis1 m t u) k
  obtain ⟨cl1, Ar1, q1, S1, M1, H1, G1⟩ := id A_t
  have hin1 : ¬ ((0 : Int32) < 0 ∨ cl1.slots.size ≤ ((0 : Int32)).toNatClampNeg) := inb_of S1 ⟨by decide, by decide⟩
  have hat1 : cl1.slots[((0 : Int32)).toNatClampNeg]? = some (.int q) := H1.at hin1 rfl
  obtain ⟨cl2, Ar2, q2, S2, M2, H2, G2⟩ := id A_u
  have hin2 : ¬ ((0 : Int32) < 0 ∨ cl2.slots.size ≤ ((0 : Int32)).toNatClampNeg) := inb_of S2 ⟨by decide, by decide⟩
  have hat2 : cl2.slots[((0 : Int32)).toNatClampNeg]? = some (.int (32 : Int32)) := H2.at hin2 rfl
  have pre3 : ∀ tg, own_S p e below s₁ m 94 #[rv t, iv (0 : Int32), rv u, iv (0 : Int32), iv (1 : Int32), iv (0 : Int32), .unset, .unset] [(.int (0 : Int32))] tg → Steps p.tables e below (s₁.setTop (entryFrame m #[(.ref t), (.int (0 : Int32)), (.ref u), (.int (0 : Int32)), (.int (1 : Int32))] 8)) tg := fun tg k => pre0 tg (by
    show own_S p e below s₁ m 0 #[rv t, iv (0 : Int32), rv u, iv (0 : Int32), iv (1 : Int32), .unset, .unset, .unset] [] _
    refine XS.iconst X0.here hx rfl (hb hby d18_0) ?_
    refine XS.istore X0.here hx rfl (hb hby d18_1) rfl (l' := #[rv t, iv (0 : Int32), rv u, iv (0 : Int32), iv (1 : Int32), iv (0 : Int32), .unset, .unset]) rfl ?_
    refine XS.iload X0.here hx rfl (hb hby d18_3) rfl ?_
    show own_S p e below s₁ m 5 #[rv t, iv (0 : Int32), rv u, iv (0 : Int32), iv (1 : Int32), iv (0 : Int32), .unset, .unset] [(.int (1 : Int32))] _
    refine XS.bipush X0.here hx rfl (hb hby d18_5) ?_
    refine XS.icmpYes X0.here hx rfl (pc0 := 7) (pc' := 70) rfl (hb hby d18_7) rfl (flt (by decide : ¬ ((7 : Int32) < (1 : Int32)))).2.2.2 (by decide) (by decide) ?_
    refine XS.iload X0.here hx rfl (hb hby d18_70) rfl ?_
    show own_S p e below s₁ m 72 #[rv t, iv (0 : Int32), rv u, iv (0 : Int32), iv (1 : Int32), iv (0 : Int32), .unset, .unset] [(.int (0 : Int32))] _
    refine XS.iload X0.here hx rfl (hb hby d18_72) rfl ?_
    refine XS.icmpNo X0.here hx rfl (hb hby d18_74) rfl (tlt (by decide : (0 : Int32) < (1 : Int32))).2.1 ?_
    refine XS.aloadN X0.here hx rfl (hb hby d18_77) rfl rfl ?_
    show own_S p e below s₁ m 78 #[rv t, iv (0 : Int32), rv u, iv (0 : Int32), iv (1 : Int32), iv (0 : Int32), .unset, .unset] [(.ref t)] _
    refine XS.iloadN X0.here hx rfl (hb hby d18_78) rfl ?_
    refine XS.iload X0.here hx rfl (hb hby d18_79) rfl ?_
    refine XS.iadd X0.here hx rfl (hb hby d18_81) rfl ?_
    show own_S p e below s₁ m 82 #[rv t, iv (0 : Int32), rv u, iv (0 : Int32), iv (1 : Int32), iv (0 : Int32), .unset, .unset] [(.int (0 : Int32)), (.ref t)] _
    refine X0.baloadBytes hx (j := (0 : Int32)) (v := (.int q)) (by rw [e0]; exact Ar1.1) (State.isArrayOf_alike hZ.alike Ar1.2.1) Ar1.2.2 hin1 hat1 (g := (mkF m 82 #[rv t, iv (0 : Int32), rv u, iv (0 : Int32), iv (1 : Int32), iv (0 : Int32), .unset, .unset] [(.int (0 : Int32)), (.ref t)])) rfl rfl (hb hby d18_82) _ ?_
    refine XS.aloadN X0.here hx rfl (hb hby d18_83) rfl rfl ?_
    refine XS.iloadN X0.here hx rfl (hb hby d18_84) rfl ?_
    show own_S p e below s₁ m 85 #[rv t, iv (0 : Int32), rv u, iv (0 : Int32), iv (1 : Int32), iv (0 : Int32), .unset, .unset] [(.int (0 : Int32)), (.ref u), (.int q)] _
    refine XS.iload X0.here hx rfl (hb hby d18_85) rfl ?_
    refine XS.iadd X0.here hx rfl (hb hby d18_87) rfl ?_
    refine X0.baloadBytes hx (j := (0 : Int32)) (v := (.int (32 : Int32))) (by rw [e0]; exact Ar2.1) (State.isArrayOf_alike hZ.alike Ar2.2.1) Ar2.2.2 hin2 hat2 (g := (mkF m 88 #[rv t, iv (0 : Int32), rv u, iv (0 : Int32), iv (1 : Int32), iv (0 : Int32), .unset, .unset] [(.int (0 : Int32)), (.ref u), (.int q)])) rfl rfl (hb hby d18_88) _ ?_
    show own_S p e below s₁ m 89 #[rv t, iv (0 : Int32), rv u, iv (0 : Int32), iv (1 : Int32), iv (0 : Int32), .unset, .unset] [(.int (32 : Int32)), (.int q)] _
    refine XS.icmpNo X0.here hx rfl (hb hby d18_89) rfl (feq hq).1 ?_
    refine XS.iload X0.here hx rfl (hb hby d18_92) rfl ?_
    exact k)
  obtain ⟨fs, hr, hrun, hended, hW, hsame⟩ := X0.leave (v := some (.int (0 : Int32))) (fun h => by rw [Bd.returns] at h; cases h)
  refine ⟨_, _, pre3 _ ?_, hrun, hended, _, _, rfl, ?_, ⟨_, rfl⟩, hW, hsame.mono (by decide) (by decide)⟩
  · show own_S p e below s₁ m 94 #[rv t, iv (0 : Int32), rv u, iv (0 : Int32), iv (1 : Int32), iv (0 : Int32), .unset, .unset] [(.int (0 : Int32))] _
    exact retI X0 hx Bd.returns (hb hby d18_94) hr
  · show QMis1 Z t u k ku q h0 n0 _ s₁.heap _
    rw [e0]
    exact ⟨rfl, N0, rfl⟩
theorem ef_Mis2 (m : MethodId) (t : Addr) (u : Addr) : entryFrame m #[(.ref t), (.int (1 : Int32)), (.ref u), (.int (0 : Int32)), (.int (1 : Int32))] 8 = mkF m 0 #[rv t, iv (1 : Int32), rv u, iv (0 : Int32), iv (1 : Int32), .unset, .unset, .unset] [] := by first | (simp [entryFrame, mkF, argsToLocals, Value.category]; done) | rfl
def QMis2 (Z : State) (t u : Addr) (k ku : ClassId) (q0 q : Int32) (h0 : Heap) (n0 : Nat) (v : Option Value) (h : Heap) (L : List Loc) : Prop := v = some (.int 0) ∧ Fr n0 L ∧ h = h0
set_option maxRecDepth 65536 in
set_option maxHeartbeats 40000000 in
theorem rmMis2 (l : Launch) (Z : State) (a0 : Array Value) (hw : ∀ d ∈ tables_1, d.before a0 Z = true) (ws : List Jvm.Cond) (t u : Addr) (k ku : ClassId) (q0 q : Int32) (h0 : Heap) (n0 : Nat) (Z0 : n0 ≤ h0.size) (A_t : Arv Z h0 t k .byte (2 : Int32) [(.int q0), (.int q)] (.int 0)) (A_u : Arv Z h0 u ku .byte (1 : Int32) [(.int (32 : Int32))] (.int 0)) (hq : ¬ q = (32 : Int32)) :
    MetFree l (⟨"jdk/internal/util/ArraysSupport", "mismatch", "([BI[BII)I"⟩ : MethodName) (head1 (Jvm.Cond.code (⟨"jdk/internal/util/ArraysSupport", "mismatch", "([BI[BII)I"⟩ : MethodName) jdk_48_method_14_code 8 (some .int) :: ws) ({ frames := 0, cells := 0, slots := 0, locals := 0 } : Room)) (fun a U => a = #[(.ref t), (.int (1 : Int32)), (.ref u), (.int (0 : Int32)), (.int (1 : Int32))] ∧ Z.Warmed39 U.vm ∧ U.heap = h0) (fun _ _ _ _ _ => True) (fun _ U o U' => ∃ v L, o = .returned v ∧ QMis2 Z t u k ku q0 q h0 n0 v U'.heap L ∧ FrameEnd U o U' L ({ frames := 0, cells := 0, slots := 0, locals := 0 } : Room).cells ({ frames := 0, cells := 0, slots := 0, locals := 0 } : Room).slots) := by
  refine MetFree.of_bodySF (plainFor_of_name pn_4) hisR ?_
  intro p e s m args below meth c s₁ Bd hml0 hP hK
  obtain ⟨rfl, hZ, hh⟩ := hP
  have hx := Bd.exec
  have hby := Bd.bytes
  have hml : c.maxLocals = 8 := hml0
  have hown : s.vm.findClass "jdk/internal/util/ArraysSupport" = some m.cls := findClass_of_methodNamed Bd.named
  have hnm := (name_of_methodNamed Bd.named Bd.method).1
  have X0 : Stand p l e ({ frames := 0, cells := 0, slots := 0, locals := 0 } : Room) s m #[(.ref t), (.int (1 : Int32)), (.ref u), (.int (0 : Int32)), (.int (1 : Int32))] below meth c s₁ [] 0 0 := Stand.of_body Bd
  have e0 : s₁.heap = h0 := by rw [← hh, Bd.state]; rfl
  have N0 := Fr.nil n0
  have pre0 : ∀ tg, Steps p.tables e below (s₁.setTop (mkF m 0 #[rv t, iv (1 : Int32), rv u, iv (0 : Int32), iv (1 : Int32), .unset, .unset, .unset] [])) tg → Steps p.tables e below (s₁.setTop (entryFrame m #[(.ref t), (.int (1 : Int32)), (.ref u), (.int (0 : Int32)), (.int (1 : Int32))] 8)) tg := fun tg k => castTop (ef_Mis2 m t u) k
  obtain ⟨cl1, Ar1, q1, S1, M1, H1, G1⟩ := id A_t
  have hin1 : ¬ ((1 : Int32) < 0 ∨ cl1.slots.size ≤ ((1 : Int32)).toNatClampNeg) := inb_of S1 ⟨by decide, by decide⟩
  have hat1 : cl1.slots[((1 : Int32)).toNatClampNeg]? = some (.int q) := H1.at hin1 rfl
  obtain ⟨cl2, Ar2, q2, S2, M2, H2, G2⟩ := id A_u
  have hin2 : ¬ ((0 : Int32) < 0 ∨ cl2.slots.size ≤ ((0 : Int32)).toNatClampNeg) := inb_of S2 ⟨by decide, by decide⟩
  have hat2 : cl2.slots[((0 : Int32)).toNatClampNeg]? = some (.int (32 : Int32)) := H2.at hin2 rfl
  have pre3 : ∀ tg, own_S p e below s₁ m 94 #[rv t, iv (1 : Int32), rv u, iv (0 : Int32), iv (1 : Int32), iv (0 : Int32), .unset, .unset] [(.int (0 : Int32))] tg → Steps p.tables e below (s₁.setTop (entryFrame m #[(.ref t), (.int (1 : Int32)), (.ref u), (.int (0 : Int32)), (.int (1 : Int32))] 8)) tg := fun tg k => pre0 tg (by
    show own_S p e below s₁ m 0 #[rv t, iv (1 : Int32), rv u, iv (0 : Int32), iv (1 : Int32), .unset, .unset, .unset] [] _
    refine XS.iconst X0.here hx rfl (hb hby d18_0) ?_
    refine XS.istore X0.here hx rfl (hb hby d18_1) rfl (l' := #[rv t, iv (1 : Int32), rv u, iv (0 : Int32), iv (1 : Int32), iv (0 : Int32), .unset, .unset]) rfl ?_
    refine XS.iload X0.here hx rfl (hb hby d18_3) rfl ?_
    show own_S p e below s₁ m 5 #[rv t, iv (1 : Int32), rv u, iv (0 : Int32), iv (1 : Int32), iv (0 : Int32), .unset, .unset] [(.int (1 : Int32))] _
    refine XS.bipush X0.here hx rfl (hb hby d18_5) ?_
    refine XS.icmpYes X0.here hx rfl (pc0 := 7) (pc' := 70) rfl (hb hby d18_7) rfl (flt (by decide : ¬ ((7 : Int32) < (1 : Int32)))).2.2.2 (by decide) (by decide) ?_
    refine XS.iload X0.here hx rfl (hb hby d18_70) rfl ?_
    show own_S p e below s₁ m 72 #[rv t, iv (1 : Int32), rv u, iv (0 : Int32), iv (1 : Int32), iv (0 : Int32), .unset, .unset] [(.int (0 : Int32))] _
    refine XS.iload X0.here hx rfl (hb hby d18_72) rfl ?_
    refine XS.icmpNo X0.here hx rfl (hb hby d18_74) rfl (tlt (by decide : (0 : Int32) < (1 : Int32))).2.1 ?_
    refine XS.aloadN X0.here hx rfl (hb hby d18_77) rfl rfl ?_
    show own_S p e below s₁ m 78 #[rv t, iv (1 : Int32), rv u, iv (0 : Int32), iv (1 : Int32), iv (0 : Int32), .unset, .unset] [(.ref t)] _
    refine XS.iloadN X0.here hx rfl (hb hby d18_78) rfl ?_
    refine XS.iload X0.here hx rfl (hb hby d18_79) rfl ?_
    refine XS.iadd X0.here hx rfl (hb hby d18_81) rfl ?_
    show own_S p e below s₁ m 82 #[rv t, iv (1 : Int32), rv u, iv (0 : Int32), iv (1 : Int32), iv (0 : Int32), .unset, .unset] [(.int (1 : Int32)), (.ref t)] _
    refine X0.baloadBytes hx (j := (1 : Int32)) (v := (.int q)) (by rw [e0]; exact Ar1.1) (State.isArrayOf_alike hZ.alike Ar1.2.1) Ar1.2.2 hin1 hat1 (g := (mkF m 82 #[rv t, iv (1 : Int32), rv u, iv (0 : Int32), iv (1 : Int32), iv (0 : Int32), .unset, .unset] [(.int (1 : Int32)), (.ref t)])) rfl rfl (hb hby d18_82) _ ?_
    refine XS.aloadN X0.here hx rfl (hb hby d18_83) rfl rfl ?_
    refine XS.iloadN X0.here hx rfl (hb hby d18_84) rfl ?_
    show own_S p e below s₁ m 85 #[rv t, iv (1 : Int32), rv u, iv (0 : Int32), iv (1 : Int32), iv (0 : Int32), .unset, .unset] [(.int (0 : Int32)), (.ref u), (.int q)] _
    refine XS.iload X0.here hx rfl (hb hby d18_85) rfl ?_
    refine XS.iadd X0.here hx rfl (hb hby d18_87) rfl ?_
    refine X0.baloadBytes hx (j := (0 : Int32)) (v := (.int (32 : Int32))) (by rw [e0]; exact Ar2.1) (State.isArrayOf_alike hZ.alike Ar2.2.1) Ar2.2.2 hin2 hat2 (g := (mkF m 88 #[rv t, iv (1 : Int32), rv u, iv (0 : Int32), iv (1 : Int32), iv (0 : Int32), .unset, .unset] [(.int (0 : Int32)), (.ref u), (.int q)])) rfl rfl (hb hby d18_88) _ ?_
    show own_S p e below s₁ m 89 #[rv t, iv (1 : Int32), rv u, iv (0 : Int32), iv (1 : Int32), iv (0 : Int32), .unset, .unset] [(.int (32 : Int32)), (.int q)] _
    refine XS.icmpNo X0.here hx rfl (hb hby d18_89) rfl (feq hq).1 ?_
    refine XS.iload X0.here hx rfl (hb hby d18_92) rfl ?_
    exact k)
  obtain ⟨fs, hr, hrun, hended, hW, hsame⟩ := X0.leave (v := some (.int (0 : Int32))) (fun h => by rw [Bd.returns] at h; cases h)
  refine ⟨_, _, pre3 _ ?_, hrun, hended, _, _, rfl, ?_, ⟨_, rfl⟩, hW, hsame.mono (by decide) (by decide)⟩
  · show own_S p e below s₁ m 94 #[rv t, iv (1 : Int32), rv u, iv (0 : Int32), iv (1 : Int32), iv (0 : Int32), .unset, .unset] [(.int (0 : Int32))] _
    exact retI X0 hx Bd.returns (hb hby d18_94) hr
  · show QMis2 Z t u k ku q0 q h0 n0 _ s₁.heap _
    rw [e0]
    exact ⟨rfl, N0, rfl⟩
theorem ef_Sta1 (m : MethodId) (x : Addr) (y : Addr) : entryFrame m #[(.ref x), (.ref y), (.int (0 : Int32))] 8 = mkF m 0 #[rv x, rv y, iv (0 : Int32), .unset, .unset, .unset, .unset, .unset] [] := by first | (simp [entryFrame, mkF, argsToLocals, Value.category]; done) | rfl
def QSta1 (Z : State) (x t y u : Addr) (k ku : ClassId) (va : Int32) (zc : Int32) (h0 : Heap) (n0 : Nat) (v : Option Value) (h : Heap) (L : List Loc) : Prop := v = some (.int 0) ∧ Fr n0 L ∧ h = h0
theorem d17_0 : decode jdk_42_method_75_code 0 = .ok (.iload_n 2, 1) := by decide +kernel
theorem d17_1 : decode jdk_42_method_75_code 1 = .ok (.ifCond .lt 16, 3) := by decide +kernel
theorem d17_4 : decode jdk_42_method_75_code 4 = .ok (.iload_n 2, 1) := by decide +kernel
theorem d17_5 : decode jdk_42_method_75_code 5 = .ok (.aload_n 0, 1) := by decide +kernel
theorem d17_6 : decode jdk_42_method_75_code 6 = .ok (.invokevirtual 505, 3) := by decide +kernel
theorem pd_3 : parseMethodDescriptor "()I" = some ⟨[], some .int⟩ := by decide +kernel
theorem d17_9 : decode jdk_42_method_75_code 9 = .ok (.aload_n 1, 1) := by decide +kernel
theorem d17_10 : decode jdk_42_method_75_code 10 = .ok (.invokevirtual 505, 3) := by decide +kernel
theorem d17_13 : decode jdk_42_method_75_code 13 = .ok (.isub, 1) := by decide +kernel
theorem d17_14 : decode jdk_42_method_75_code 14 = .ok (.if_icmp .le 5, 3) := by decide +kernel
theorem d17_19 : decode jdk_42_method_75_code 19 = .ok (.aload_n 0, 1) := by decide +kernel
theorem d17_20 : decode jdk_42_method_75_code 20 = .ok (.getfield 9, 3) := by decide +kernel
theorem d17_23 : decode jdk_42_method_75_code 23 = .ok (.astore_n 3, 1) := by decide +kernel
theorem d17_24 : decode jdk_42_method_75_code 24 = .ok (.aload_n 1, 1) := by decide +kernel
theorem d17_25 : decode jdk_42_method_75_code 25 = .ok (.getfield 9, 3) := by decide +kernel
theorem d17_28 : decode jdk_42_method_75_code 28 = .ok (.astore 4, 2) := by decide +kernel
theorem d17_30 : decode jdk_42_method_75_code 30 = .ok (.iconst 0, 1) := by decide +kernel
theorem d17_31 : decode jdk_42_method_75_code 31 = .ok (.istore 5, 2) := by decide +kernel
theorem d17_33 : decode jdk_42_method_75_code 33 = .ok (.aload 4, 2) := by decide +kernel
theorem d17_35 : decode jdk_42_method_75_code 35 = .ok (.arraylength, 1) := by decide +kernel
theorem d17_36 : decode jdk_42_method_75_code 36 = .ok (.istore 6, 2) := by decide +kernel
theorem d17_38 : decode jdk_42_method_75_code 38 = .ok (.aload_n 0, 1) := by decide +kernel
theorem d17_39 : decode jdk_42_method_75_code 39 = .ok (.invokevirtual 335, 3) := by decide +kernel
theorem pd_4 : parseMethodDescriptor "()B" = some ⟨[], some .byte⟩ := by decide +kernel
theorem d17_42 : decode jdk_42_method_75_code 42 = .ok (.istore 7, 2) := by decide +kernel
theorem d17_44 : decode jdk_42_method_75_code 44 = .ok (.iload 7, 2) := by decide +kernel
theorem d17_46 : decode jdk_42_method_75_code 46 = .ok (.aload_n 1, 1) := by decide +kernel
theorem d17_47 : decode jdk_42_method_75_code 47 = .ok (.invokevirtual 335, 3) := by decide +kernel
theorem d17_50 : decode jdk_42_method_75_code 50 = .ok (.if_icmp .ne 32, 3) := by decide +kernel
theorem d17_53 : decode jdk_42_method_75_code 53 = .ok (.iload 7, 2) := by decide +kernel
theorem d17_55 : decode jdk_42_method_75_code 55 = .ok (.iconst 1, 1) := by decide +kernel
theorem d17_56 : decode jdk_42_method_75_code 56 = .ok (.if_icmp .ne 7, 3) := by decide +kernel
theorem d17_63 : decode jdk_42_method_75_code 63 = .ok (.aload_n 3, 1) := by decide +kernel
theorem d17_64 : decode jdk_42_method_75_code 64 = .ok (.iload_n 2, 1) := by decide +kernel
theorem d17_65 : decode jdk_42_method_75_code 65 = .ok (.aload 4, 2) := by decide +kernel
theorem d17_67 : decode jdk_42_method_75_code 67 = .ok (.iconst 0, 1) := by decide +kernel
theorem d17_68 : decode jdk_42_method_75_code 68 = .ok (.iload 6, 2) := by decide +kernel
theorem d17_70 : decode jdk_42_method_75_code 70 = .ok (.invokestatic 607, 3) := by decide +kernel
theorem pd_5 : parseMethodDescriptor "([BI[BII)I" = some ⟨[(.array .byte), .int, (.array .byte), .int, .int], some .int⟩ := by decide +kernel
theorem d17_73 : decode jdk_42_method_75_code 73 = .ok (.ifCond .ge 7, 3) := by decide +kernel
theorem d17_80 : decode jdk_42_method_75_code 80 = .ok (.iconst 0, 1) := by decide +kernel
theorem d17_81 : decode jdk_42_method_75_code 81 = .ok (.ireturn, 1) := by decide +kernel
set_option maxRecDepth 65536 in
set_option maxHeartbeats 40000000 in
theorem rmSta1 (l : Launch) (Z : State) (a0 : Array Value) (hw : ∀ d ∈ tables_1, d.before a0 Z = true) (ws : List Jvm.Cond) (x t y u : Addr) (k ku : ClassId) (va : Int32) (zc : Int32) (h0 : Heap) (n0 : Nat) (Z0 : n0 ≤ h0.size) (E_x : Exa Z h0 x "java/lang/String") (C_x : Fld Z h0 x "java/lang/String" "coder" "B" (.int 0)) (V_x : Fld Z h0 x "java/lang/String" "value" "[B" (.ref t)) (A_x : Arv Z h0 t k .byte (1 : Int32) [(.int va.toInt8.toInt32)] (.int 0)) (E_y : Exa Z h0 y "java/lang/String") (C_y : Fld Z h0 y "java/lang/String" "coder" "B" (.int 0)) (V_y : Fld Z h0 y "java/lang/String" "value" "[B" (.ref u)) (A_y : Arv Z h0 u ku .byte (1 : Int32) [(.int (32 : Int32))] (.int 0)) (S_c : Sta Z h0 "java/lang/String" "COMPACT_STRINGS" "Z" (.int zc)) (hzc : ¬ zc = 0) (ha : own_c va) (hn : ¬ va = 32) :
    MetFree l (⟨"java/lang/String", "startsWith", "(Ljava/lang/String;I)Z"⟩ : MethodName) (head1 (Jvm.Cond.code (⟨"java/lang/String", "startsWith", "(Ljava/lang/String;I)Z"⟩ : MethodName) jdk_42_method_75_code 8 (some .boolean) :: ws) ({ frames := 2, cells := 0, slots := 0, locals := 28 } : Room)) (fun a U => a = #[(.ref x), (.ref y), (.int (0 : Int32))] ∧ Z.Warmed39 U.vm ∧ U.heap = h0) (fun _ _ _ _ _ => True) (fun _ U o U' => ∃ v L, o = .returned v ∧ QSta1 Z x t y u k ku va zc h0 n0 v U'.heap L ∧ FrameEnd U o U' L ({ frames := 2, cells := 0, slots := 0, locals := 28 } : Room).cells ({ frames := 2, cells := 0, slots := 0, locals := 28 } : Room).slots) := by
  refine MetFree.of_bodySF (plainFor_of_name pn_3) hisR ?_
  intro p e s m args below meth c s₁ Bd hml0 hP hK
  obtain ⟨rfl, hZ, hh⟩ := hP
  have hx := Bd.exec
  have hby := Bd.bytes
  have hml : c.maxLocals = 8 := hml0
  have hown : s.vm.findClass "java/lang/String" = some m.cls := findClass_of_methodNamed Bd.named
  have hnm := (name_of_methodNamed Bd.named Bd.method).1
  have X0 : Stand p l e ({ frames := 2, cells := 0, slots := 0, locals := 28 } : Room) s m #[(.ref x), (.ref y), (.int (0 : Int32))] below meth c s₁ [] 0 0 := Stand.of_body Bd
  have e0 : s₁.heap = h0 := by rw [← hh, Bd.state]; rfl
  have N0 := Fr.nil n0
  have pre0 : ∀ tg, Steps p.tables e below (s₁.setTop (mkF m 0 #[rv x, rv y, iv (0 : Int32), .unset, .unset, .unset, .unset, .unset] [])) tg → Steps p.tables e below (s₁.setTop (entryFrame m #[(.ref x), (.ref y), (.int (0 : Int32))] 8)) tg := fun tg k => castTop (ef_Sta1 m x y) k
  obtain ⟨cq1, kq1, q1a, q1b, q1c⟩ := isOf hZ e0 E_x
  obtain ⟨_, _, ⟨T1, L1, k1, n1⟩, -, X1, ⟨Lc1, hQ1, l1, y1, z1⟩, st1⟩ := X0.virtualBack hx (y := (⟨"java/lang/String", "length", "()I"⟩ : MethodName)) (z := (⟨"java/lang/String", "length", "()I"⟩ : MethodName)) hown (mvT hZ (hw _ (List.mem_of_getElem? (i := 78) rfl))) (mvT hZ (hw _ (List.mem_of_getElem? (i := 63) rfl))) (notFace_of_selects (args := #[]) (mvT hZ (hw _ (List.mem_of_getElem? (i := 65) rfl)))) (mvT hZ (hw _ (List.mem_of_getElem? (i := 65) rfl))) (mvT hZ (hw _ (List.mem_of_getElem? (i := 64) rfl))) (by decide) (StrChars.Road.lenW (W := 1) hZ (own_wL hw) (hw _ (List.mem_of_getElem? (i := 12) rfl)) E_x V_x C_x A_x (own_cod1 ha) (own_up (own_hp1 ha)) S_c hzc (Nat.le_of_ble_eq_true rfl) (by decide) (by decide)) q1a q1c (g := (mkF m 6 #[rv x, rv y, iv (0 : Int32), .unset, .unset, .unset, .unset, .unset] [(.ref x), (.int (0 : Int32))])) rfl (by rw [hml]; rfl) (Steps.refl _) (argsL := []) (rest := [(.int (0 : Int32))]) (lenOf pd_3 rfl) rfl (by show 2 * 0 + _ ≤ _; exact Nat.le_of_eq rfl) (hb hby d17_6) (fun _ _ => ⟨rfl, e0, (by decide : 0 + 0 ≤ _), (by decide : 0 + 0 ≤ _)⟩)
  dsimp only [Pt.U, Pt.locs, Pt.cells, Pt.slots] at X1 l1 y1 z1 st1 hQ1
  subst l1 y1 z1
  obtain ⟨hv1, hL1, e1q⟩ := hQ1
  subst hL1
  have N1 := Fr.app N0 (Fr.nil n0)
  rw [show Int32.ofNat [va].length = (1 : Int32) from rfl] at hv1
  subst hv1
  have e1 : T1.heap = h0 := e1q
  obtain ⟨cq2, kq2, q2a, q2b, q2c⟩ := isOf hZ e1 E_y
  obtain ⟨_, _, ⟨T2, L2, k2, n2⟩, -, X2, ⟨Lc2, hQ2, l2, y2, z2⟩, st2⟩ := X1.virtualBack hx (y := (⟨"java/lang/String", "length", "()I"⟩ : MethodName)) (z := (⟨"java/lang/String", "length", "()I"⟩ : MethodName)) hown (mvT hZ (hw _ (List.mem_of_getElem? (i := 78) rfl))) (mvT hZ (hw _ (List.mem_of_getElem? (i := 63) rfl))) (notFace_of_selects (args := #[]) (mvT hZ (hw _ (List.mem_of_getElem? (i := 65) rfl)))) (mvT hZ (hw _ (List.mem_of_getElem? (i := 65) rfl))) (mvT hZ (hw _ (List.mem_of_getElem? (i := 64) rfl))) (by decide) (StrChars.Road.lenW (W := 2) hZ (own_wL hw) (hw _ (List.mem_of_getElem? (i := 12) rfl)) E_y V_y C_y A_y own_cod32 (own_up (own_hp1 own_c32)) S_c hzc (Nat.le_of_ble_eq_true rfl) (by decide) (by decide)) q2a q2c (g := (mkF m 10 #[rv x, rv y, iv (0 : Int32), .unset, .unset, .unset, .unset, .unset] [(.ref y), (.int (1 : Int32)), (.int (0 : Int32))])) rfl (by rw [hml]; rfl) (Steps.refl _) (argsL := []) (rest := [(.int (1 : Int32)), (.int (0 : Int32))]) (lenOf pd_3 rfl) rfl (by show 2 * 0 + _ ≤ _; exact Nat.le_of_eq rfl) (hb hby d17_10) (fun _ _ => ⟨rfl, e1, (by decide : 0 + 0 ≤ _), (by decide : 0 + 0 ≤ _)⟩)
  dsimp only [Pt.U, Pt.locs, Pt.cells, Pt.slots] at X2 l2 y2 z2 st2 hQ2
  subst l2 y2 z2
  obtain ⟨hv2, hL2, e2q⟩ := hQ2
  subst hL2
  have N2 := Fr.app N1 (Fr.nil n0)
  rw [show Int32.ofNat [(32 : Int32)].length = (1 : Int32) from rfl] at hv2
  subst hv2
  have e2 : T2.heap = h0 := e2q
  obtain ⟨T3, X3, e3, st3⟩ := getF X2 hx hZ hown (host := "") (Or.inl (hw _ (List.mem_of_getElem? (i := 38) rfl))) Via.refl e2 V_x (g := (mkF m 20 #[rv x, rv y, iv (0 : Int32), .unset, .unset, .unset, .unset, .unset] [(.ref x)])) rfl rfl (hb hby d17_20)
  obtain ⟨T4, X4, e4, st4⟩ := getF X3 hx hZ hown (host := "") (Or.inl (hw _ (List.mem_of_getElem? (i := 38) rfl))) Via.refl e3 V_y (g := (mkF m 25 #[rv x, rv y, iv (0 : Int32), rv t, .unset, .unset, .unset, .unset] [(.ref y)])) rfl rfl (hb hby d17_25)
  obtain ⟨cl5, Ar5, q5, S5, M5, -, -⟩ := id A_y
  obtain ⟨cq6, kq6, q6a, q6b, q6c⟩ := isOf hZ e4 E_x
  obtain ⟨_, _, ⟨T6, L6, k6, n6⟩, -, X6, ⟨Lc6, hQ6, l6, y6, z6⟩, st6⟩ := X4.virtualBack hx (y := (⟨"java/lang/String", "coder", "()B"⟩ : MethodName)) (z := (⟨"java/lang/String", "coder", "()B"⟩ : MethodName)) hown (mvT hZ (hw _ (List.mem_of_getElem? (i := 67) rfl))) (mvT hZ (hw _ (List.mem_of_getElem? (i := 68) rfl))) (notFace_of_selects (args := #[]) (mvT hZ (hw _ (List.mem_of_getElem? (i := 70) rfl)))) (mvT hZ (hw _ (List.mem_of_getElem? (i := 70) rfl))) (mvT hZ (hw _ (List.mem_of_getElem? (i := 69) rfl))) (by decide) (backOf (W := 0) (rmCod l Z a0 hw [] x zc h0 n0 Z0 C_x S_c hzc) hZ (hw _ (List.mem_of_getElem? (i := 71) rfl)) (hw _ (List.mem_of_getElem? (i := 13) rfl)) (by decide) (by decide)) q6a q6c (g := (mkF m 39 #[rv x, rv y, iv (0 : Int32), rv t, rv u, iv (0 : Int32), iv (1 : Int32), .unset] [(.ref x)])) rfl (by rw [hml]; rfl) (Steps.refl _) (argsL := []) (rest := []) (lenOf pd_4 rfl) rfl (by show 2 * 0 + _ ≤ _; exact Nat.le_of_eq rfl) (hb hby d17_39) (fun _ _ => ⟨rfl, e4, (by decide : 0 + 0 ≤ _), (by decide : 0 + 0 ≤ _)⟩)
  dsimp only [Pt.U, Pt.locs, Pt.cells, Pt.slots] at X6 l6 y6 z6 st6 hQ6
  subst l6 y6 z6
  obtain ⟨rfl, N6q, e6q⟩ := hQ6
  have N6 := Fr.app N2 N6q
  have e6 : T6.heap = h0 := e6q
  obtain ⟨cq7, kq7, q7a, q7b, q7c⟩ := isOf hZ e6 E_y
  obtain ⟨_, _, ⟨T7, L7, k7, n7⟩, -, X7, ⟨Lc7, hQ7, l7, y7, z7⟩, st7⟩ := X6.virtualBack hx (y := (⟨"java/lang/String", "coder", "()B"⟩ : MethodName)) (z := (⟨"java/lang/String", "coder", "()B"⟩ : MethodName)) hown (mvT hZ (hw _ (List.mem_of_getElem? (i := 67) rfl))) (mvT hZ (hw _ (List.mem_of_getElem? (i := 68) rfl))) (notFace_of_selects (args := #[]) (mvT hZ (hw _ (List.mem_of_getElem? (i := 70) rfl)))) (mvT hZ (hw _ (List.mem_of_getElem? (i := 70) rfl))) (mvT hZ (hw _ (List.mem_of_getElem? (i := 69) rfl))) (by decide) (backOf (W := 1) (rmCod l Z a0 hw [] y zc h0 n0 Z0 C_y S_c hzc) hZ (hw _ (List.mem_of_getElem? (i := 71) rfl)) (hw _ (List.mem_of_getElem? (i := 13) rfl)) (by decide) (by decide)) q7a q7c (g := (mkF m 47 #[rv x, rv y, iv (0 : Int32), rv t, rv u, iv (0 : Int32), iv (1 : Int32), iv (0 : Int32)] [(.ref y), (.int (0 : Int32))])) rfl (by rw [hml]; rfl) (Steps.refl _) (argsL := []) (rest := [(.int (0 : Int32))]) (lenOf pd_4 rfl) rfl (by show 2 * 0 + _ ≤ _; exact Nat.le_of_eq rfl) (hb hby d17_47) (fun _ _ => ⟨rfl, e6, (by decide : 0 + 0 ≤ _), (by decide : 0 + 0 ≤ _)⟩)
  dsimp only [Pt.U, Pt.locs, Pt.cells, Pt.slots] at X7 l7 y7 z7 st7 hQ7
  subst l7 y7 z7
  obtain ⟨rfl, N7q, e7q⟩ := hQ7
  have N7 := Fr.app N6 N7q
  have e7 : T7.heap = h0 := e7q
  obtain ⟨_, _, ⟨T8, L8, k8, n8⟩, -, X8, ⟨Lc8, hQ8, l8, y8, z8⟩, st8⟩ := Jvm.LawKit.callS X7 hx (y := (⟨"jdk/internal/util/ArraysSupport", "mismatch", "([BI[BII)I"⟩ : MethodName)) hown (mvT hZ (hw _ (List.mem_of_getElem? (i := 84) rfl))) (mvT hZ (hw _ (List.mem_of_getElem? (i := 85) rfl))) (mvT hZ (hw _ (List.mem_of_getElem? (i := 86) rfl))) (mvT hZ (hw _ (List.mem_of_getElem? (i := 87) rfl))) (by decide) (backOf (W := 0) (rmMis1 l Z a0 hw [] t u k ku (va.toInt8.toInt32) h0 n0 Z0 A_x A_y (own_b32 ha hn)) hZ (hw _ (List.mem_of_getElem? (i := 87) rfl)) (hw _ (List.mem_of_getElem? (i := 86) rfl)) (by decide) (by decide)) (g := (mkF m 70 #[rv x, rv y, iv (0 : Int32), rv t, rv u, iv (0 : Int32), iv (1 : Int32), iv (0 : Int32)] [(.int (1 : Int32)), (.int (0 : Int32)), (.ref u), (.int (0 : Int32)), (.ref t)])) rfl (by rw [hml]; rfl) (argsL := [(.ref t), (.int (0 : Int32)), (.ref u), (.int (0 : Int32)), (.int (1 : Int32))]) (rest := []) (lenOf pd_5 rfl) rfl (by show 2 * 0 + _ ≤ _; exact Nat.le_of_eq rfl) (hb hby d17_70) (fun _ _ => ⟨rfl, e7, (by decide : 0 + 0 ≤ _), (by decide : 0 + 0 ≤ _)⟩)
  dsimp only [Pt.U, Pt.locs, Pt.cells, Pt.slots] at X8 l8 y8 z8 st8 hQ8
  subst l8 y8 z8
  obtain ⟨rfl, N8q, e8q⟩ := hQ8
  have N8 := Fr.app N7 N8q
  have e8 : T8.heap = h0 := e8q
  have pre9 : ∀ tg, own_S p e below T8 m 81 #[rv x, rv y, iv (0 : Int32), rv t, rv u, iv (0 : Int32), iv (1 : Int32), iv (0 : Int32)] [(.int (0 : Int32))] tg → Steps p.tables e below (s₁.setTop (entryFrame m #[(.ref x), (.ref y), (.int (0 : Int32))] 8)) tg := fun tg k => pre0 tg (by
    show own_S p e below s₁ m 0 #[rv x, rv y, iv (0 : Int32), .unset, .unset, .unset, .unset, .unset] [] _
    refine XS.iloadN X0.here hx rfl (hb hby d17_0) rfl ?_
    refine XS.ifNo X0.here hx rfl (hb hby d17_1) rfl ((if0 _ _).trans (flt (by decide : ¬ ((0 : Int32) < (0 : Int32)))).1) ?_
    refine XS.iloadN X0.here hx rfl (hb hby d17_4) rfl ?_
    show own_S p e below s₁ m 5 #[rv x, rv y, iv (0 : Int32), .unset, .unset, .unset, .unset, .unset] [(.int (0 : Int32))] _
    refine XS.aloadN X0.here hx rfl (hb hby d17_5) rfl rfl ?_
    refine st1.trans ?_
    refine XS.aloadN X1.here hx rfl (hb hby d17_9) rfl rfl ?_
    show own_S p e below T1 m 10 #[rv x, rv y, iv (0 : Int32), .unset, .unset, .unset, .unset, .unset] [(.ref y), (.int (1 : Int32)), (.int (0 : Int32))] _
    refine st2.trans ?_
    refine XS.isub X2.here hx rfl (hb hby d17_13) rfl ?_
    refine XS.icmpYes X2.here hx rfl (pc0 := 14) (pc' := 19) rfl (hb hby d17_14) rfl (flt (by decide : ¬ ((0 : Int32) < (0 : Int32)))).2.2.2 (by decide) (by decide) ?_
    show own_S p e below T2 m 19 #[rv x, rv y, iv (0 : Int32), .unset, .unset, .unset, .unset, .unset] [] _
    refine XS.aloadN X2.here hx rfl (hb hby d17_19) rfl rfl ?_
    refine st3 _ ?_
    refine XS.astoreN X3.here hx rfl (hb hby d17_23) rfl rfl (l' := #[rv x, rv y, iv (0 : Int32), rv t, .unset, .unset, .unset, .unset]) rfl ?_
    show own_S p e below T3 m 24 #[rv x, rv y, iv (0 : Int32), rv t, .unset, .unset, .unset, .unset] [] _
    refine XS.aloadN X3.here hx rfl (hb hby d17_24) rfl rfl ?_
    refine st4 _ ?_
    refine XS.astore X4.here hx rfl (hb hby d17_28) rfl rfl (l' := #[rv x, rv y, iv (0 : Int32), rv t, rv u, .unset, .unset, .unset]) rfl ?_
    show own_S p e below T4 m 30 #[rv x, rv y, iv (0 : Int32), rv t, rv u, .unset, .unset, .unset] [] _
    refine XS.iconst X4.here hx rfl (hb hby d17_30) ?_
    refine XS.istore X4.here hx rfl (hb hby d17_31) rfl (l' := #[rv x, rv y, iv (0 : Int32), rv t, rv u, iv (0 : Int32), .unset, .unset]) rfl ?_
    refine XS.aload X4.here hx rfl (hb hby d17_33) rfl rfl ?_
    show own_S p e below T4 m 35 #[rv x, rv y, iv (0 : Int32), rv t, rv u, iv (0 : Int32), .unset, .unset] [(.ref u)] _
    refine X4.arraylength hx (by rw [e4]; exact Ar5.1) (State.isArrayOf_alike hZ.alike Ar5.2.1) (g := (mkF m 35 #[rv x, rv y, iv (0 : Int32), rv t, rv u, iv (0 : Int32), .unset, .unset] [(.ref u)])) rfl rfl (hb hby d17_35) _ ?_
    rw [len_of S5 M5]
    refine XS.istore X4.here hx rfl (hb hby d17_36) rfl (l' := #[rv x, rv y, iv (0 : Int32), rv t, rv u, iv (0 : Int32), iv (1 : Int32), .unset]) rfl ?_
    refine XS.aloadN X4.here hx rfl (hb hby d17_38) rfl rfl ?_
    show own_S p e below T4 m 39 #[rv x, rv y, iv (0 : Int32), rv t, rv u, iv (0 : Int32), iv (1 : Int32), .unset] [(.ref x)] _
    refine st6.trans ?_
    refine XS.istore X6.here hx rfl (hb hby d17_42) rfl (l' := #[rv x, rv y, iv (0 : Int32), rv t, rv u, iv (0 : Int32), iv (1 : Int32), iv (0 : Int32)]) rfl ?_
    refine XS.iload X6.here hx rfl (hb hby d17_44) rfl ?_
    show own_S p e below T6 m 46 #[rv x, rv y, iv (0 : Int32), rv t, rv u, iv (0 : Int32), iv (1 : Int32), iv (0 : Int32)] [(.int (0 : Int32))] _
    refine XS.aloadN X6.here hx rfl (hb hby d17_46) rfl rfl ?_
    refine st7.trans ?_
    refine XS.icmpNo X7.here hx rfl (hb hby d17_50) rfl (teq (by decide : (0 : Int32) = (0 : Int32))).2 ?_
    show own_S p e below T7 m 53 #[rv x, rv y, iv (0 : Int32), rv t, rv u, iv (0 : Int32), iv (1 : Int32), iv (0 : Int32)] [] _
    refine XS.iload X7.here hx rfl (hb hby d17_53) rfl ?_
    refine XS.iconst X7.here hx rfl (hb hby d17_55) ?_
    refine XS.icmpYes X7.here hx rfl (pc0 := 56) (pc' := 63) rfl (hb hby d17_56) rfl (feq (by decide : ¬ ((0 : Int32) = (1 : Int32)))).2 (by decide) (by decide) ?_
    show own_S p e below T7 m 63 #[rv x, rv y, iv (0 : Int32), rv t, rv u, iv (0 : Int32), iv (1 : Int32), iv (0 : Int32)] [] _
    refine XS.aloadN X7.here hx rfl (hb hby d17_63) rfl rfl ?_
    refine XS.iloadN X7.here hx rfl (hb hby d17_64) rfl ?_
    refine XS.aload X7.here hx rfl (hb hby d17_65) rfl rfl ?_
    show own_S p e below T7 m 67 #[rv x, rv y, iv (0 : Int32), rv t, rv u, iv (0 : Int32), iv (1 : Int32), iv (0 : Int32)] [(.ref u), (.int (0 : Int32)), (.ref t)] _
    refine XS.iconst X7.here hx rfl (hb hby d17_67) ?_
    refine XS.iload X7.here hx rfl (hb hby d17_68) rfl ?_
    refine st8 _ ?_
    show own_S p e below T8 m 73 #[rv x, rv y, iv (0 : Int32), rv t, rv u, iv (0 : Int32), iv (1 : Int32), iv (0 : Int32)] [(.int (0 : Int32))] _
    refine XS.ifYes X8.here hx rfl (pc0 := 73) (pc' := 80) rfl (hb hby d17_73) rfl ((if0 _ _).trans (flt (by decide : ¬ ((0 : Int32) < (0 : Int32)))).2.1) (by decide) (by decide) ?_
    refine XS.iconst X8.here hx rfl (hb hby d17_80) ?_
    exact k)
  obtain ⟨fs, hr, hrun, hended, hW, hsame⟩ := X8.leave (v := some (.int (nar .boolean (0 : Int32)))) (fun h => by rw [Bd.returns] at h; cases h)
  refine ⟨_, _, pre9 _ ?_, hrun, hended, _, _, rfl, ?_, ⟨_, rfl⟩, hW, hsame.mono (by decide) (by decide)⟩
  · show own_S p e below T8 m 81 #[rv x, rv y, iv (0 : Int32), rv t, rv u, iv (0 : Int32), iv (1 : Int32), iv (0 : Int32)] [(.int (0 : Int32))] _
    exact retN X8 hx (t := .boolean) Bd.returns (by simp) (hb hby d17_81) hr
  · show QSta1 Z x t y u k ku va zc h0 n0 _ T8.heap _
    rw [e8]
    exact ⟨rfl, N8, rfl⟩
theorem ef_End1 (m : MethodId) (x : Addr) (y : Addr) : entryFrame m #[(.ref x), (.ref y)] 2 = mkF m 0 #[rv x, rv y] [] := by first | (simp [entryFrame, mkF, argsToLocals, Value.category]; done) | rfl
def QEnd1 (Z : State) (x t y u : Addr) (k ku : ClassId) (va : Int32) (zc : Int32) (h0 : Heap) (n0 : Nat) (v : Option Value) (h : Heap) (L : List Loc) : Prop := v = some (.int 0) ∧ Fr n0 L ∧ h = h0
theorem d16_0 : decode jdk_42_method_77_code 0 = .ok (.aload_n 0, 1) := by decide +kernel
theorem d16_1 : decode jdk_42_method_77_code 1 = .ok (.aload_n 1, 1) := by decide +kernel
theorem d16_2 : decode jdk_42_method_77_code 2 = .ok (.aload_n 0, 1) := by decide +kernel
theorem d16_3 : decode jdk_42_method_77_code 3 = .ok (.invokevirtual 505, 3) := by decide +kernel
theorem d16_6 : decode jdk_42_method_77_code 6 = .ok (.aload_n 1, 1) := by decide +kernel
theorem d16_7 : decode jdk_42_method_77_code 7 = .ok (.invokevirtual 505, 3) := by decide +kernel
theorem d16_10 : decode jdk_42_method_77_code 10 = .ok (.isub, 1) := by decide +kernel
theorem d16_11 : decode jdk_42_method_77_code 11 = .ok (.invokevirtual 624, 3) := by decide +kernel
theorem pd_6 : parseMethodDescriptor "(Ljava/lang/String;I)Z" = some ⟨[(.object "java/lang/String"), .int], some .boolean⟩ := by decide +kernel
theorem d16_14 : decode jdk_42_method_77_code 14 = .ok (.ireturn, 1) := by decide +kernel
set_option maxRecDepth 65536 in
set_option maxHeartbeats 40000000 in
theorem rmEnd1 (l : Launch) (Z : State) (a0 : Array Value) (hw : ∀ d ∈ tables_1, d.before a0 Z = true) (ws : List Jvm.Cond) (x t y u : Addr) (k ku : ClassId) (va : Int32) (zc : Int32) (h0 : Heap) (n0 : Nat) (Z0 : n0 ≤ h0.size) (E_x : Exa Z h0 x "java/lang/String") (C_x : Fld Z h0 x "java/lang/String" "coder" "B" (.int 0)) (V_x : Fld Z h0 x "java/lang/String" "value" "[B" (.ref t)) (A_x : Arv Z h0 t k .byte (1 : Int32) [(.int va.toInt8.toInt32)] (.int 0)) (E_y : Exa Z h0 y "java/lang/String") (C_y : Fld Z h0 y "java/lang/String" "coder" "B" (.int 0)) (V_y : Fld Z h0 y "java/lang/String" "value" "[B" (.ref u)) (A_y : Arv Z h0 u ku .byte (1 : Int32) [(.int (32 : Int32))] (.int 0)) (S_c : Sta Z h0 "java/lang/String" "COMPACT_STRINGS" "Z" (.int zc)) (hzc : ¬ zc = 0) (ha : own_c va) (hn : ¬ va = 32) :
    MetFree l (⟨"java/lang/String", "endsWith", "(Ljava/lang/String;)Z"⟩ : MethodName) (head1 (Jvm.Cond.code (⟨"java/lang/String", "endsWith", "(Ljava/lang/String;)Z"⟩ : MethodName) jdk_42_method_77_code 2 (some .boolean) :: ws) ({ frames := 3, cells := 0, slots := 0, locals := 48 } : Room)) (fun a U => a = #[(.ref x), (.ref y)] ∧ Z.Warmed39 U.vm ∧ U.heap = h0) (fun _ _ _ _ _ => True) (fun _ U o U' => ∃ v L, o = .returned v ∧ QEnd1 Z x t y u k ku va zc h0 n0 v U'.heap L ∧ FrameEnd U o U' L ({ frames := 3, cells := 0, slots := 0, locals := 48 } : Room).cells ({ frames := 3, cells := 0, slots := 0, locals := 48 } : Room).slots) := by
  refine MetFree.of_bodySF (plainFor_of_name pn_3) hisR ?_
  intro p e s m args below meth c s₁ Bd hml0 hP hK
  obtain ⟨rfl, hZ, hh⟩ := hP
  have hx := Bd.exec
  have hby := Bd.bytes
  have hml : c.maxLocals = 2 := hml0
  have hown : s.vm.findClass "java/lang/String" = some m.cls := findClass_of_methodNamed Bd.named
  have hnm := (name_of_methodNamed Bd.named Bd.method).1
  have X0 : Stand p l e ({ frames := 3, cells := 0, slots := 0, locals := 48 } : Room) s m #[(.ref x), (.ref y)] below meth c s₁ [] 0 0 := Stand.of_body Bd
  have e0 : s₁.heap = h0 := by rw [← hh, Bd.state]; rfl
  have N0 := Fr.nil n0
  have pre0 : ∀ tg, Steps p.tables e below (s₁.setTop (mkF m 0 #[rv x, rv y] [])) tg → Steps p.tables e below (s₁.setTop (entryFrame m #[(.ref x), (.ref y)] 2)) tg := fun tg k => castTop (ef_End1 m x y) k
  obtain ⟨cq1, kq1, q1a, q1b, q1c⟩ := isOf hZ e0 E_x
  obtain ⟨_, _, ⟨T1, L1, k1, n1⟩, -, X1, ⟨Lc1, hQ1, l1, y1, z1⟩, st1⟩ := X0.virtualBack hx (y := (⟨"java/lang/String", "length", "()I"⟩ : MethodName)) (z := (⟨"java/lang/String", "length", "()I"⟩ : MethodName)) hown (mvT hZ (hw _ (List.mem_of_getElem? (i := 78) rfl))) (mvT hZ (hw _ (List.mem_of_getElem? (i := 63) rfl))) (notFace_of_selects (args := #[]) (mvT hZ (hw _ (List.mem_of_getElem? (i := 65) rfl)))) (mvT hZ (hw _ (List.mem_of_getElem? (i := 65) rfl))) (mvT hZ (hw _ (List.mem_of_getElem? (i := 64) rfl))) (by decide) (StrChars.Road.lenW (W := 2) hZ (own_wL hw) (hw _ (List.mem_of_getElem? (i := 12) rfl)) E_x V_x C_x A_x (own_cod1 ha) (own_up (own_hp1 ha)) S_c hzc (Nat.le_of_ble_eq_true rfl) (by decide) (by decide)) q1a q1c (g := (mkF m 3 #[rv x, rv y] [(.ref x), (.ref y), (.ref x)])) rfl (by rw [hml]; rfl) (Steps.refl _) (argsL := []) (rest := [(.ref y), (.ref x)]) (lenOf pd_3 rfl) rfl (by show 2 * 0 + _ ≤ _; exact Nat.le_of_eq rfl) (hb hby d16_3) (fun _ _ => ⟨rfl, e0, (by decide : 0 + 0 ≤ _), (by decide : 0 + 0 ≤ _)⟩)
  dsimp only [Pt.U, Pt.locs, Pt.cells, Pt.slots] at X1 l1 y1 z1 st1 hQ1
  subst l1 y1 z1
  obtain ⟨hv1, hL1, e1q⟩ := hQ1
  subst hL1
  have N1 := Fr.app N0 (Fr.nil n0)
  rw [show Int32.ofNat [va].length = (1 : Int32) from rfl] at hv1
  subst hv1
  have e1 : T1.heap = h0 := e1q
  obtain ⟨cq2, kq2, q2a, q2b, q2c⟩ := isOf hZ e1 E_y
  obtain ⟨_, _, ⟨T2, L2, k2, n2⟩, -, X2, ⟨Lc2, hQ2, l2, y2, z2⟩, st2⟩ := X1.virtualBack hx (y := (⟨"java/lang/String", "length", "()I"⟩ : MethodName)) (z := (⟨"java/lang/String", "length", "()I"⟩ : MethodName)) hown (mvT hZ (hw _ (List.mem_of_getElem? (i := 78) rfl))) (mvT hZ (hw _ (List.mem_of_getElem? (i := 63) rfl))) (notFace_of_selects (args := #[]) (mvT hZ (hw _ (List.mem_of_getElem? (i := 65) rfl)))) (mvT hZ (hw _ (List.mem_of_getElem? (i := 65) rfl))) (mvT hZ (hw _ (List.mem_of_getElem? (i := 64) rfl))) (by decide) (StrChars.Road.lenW (W := 3) hZ (own_wL hw) (hw _ (List.mem_of_getElem? (i := 12) rfl)) E_y V_y C_y A_y own_cod32 (own_up (own_hp1 own_c32)) S_c hzc (Nat.le_of_ble_eq_true rfl) (by decide) (by decide)) q2a q2c (g := (mkF m 7 #[rv x, rv y] [(.ref y), (.int (1 : Int32)), (.ref y), (.ref x)])) rfl (by rw [hml]; rfl) (Steps.refl _) (argsL := []) (rest := [(.int (1 : Int32)), (.ref y), (.ref x)]) (lenOf pd_3 rfl) rfl (by show 2 * 0 + _ ≤ _; exact Nat.le_of_eq rfl) (hb hby d16_7) (fun _ _ => ⟨rfl, e1, (by decide : 0 + 0 ≤ _), (by decide : 0 + 0 ≤ _)⟩)
  dsimp only [Pt.U, Pt.locs, Pt.cells, Pt.slots] at X2 l2 y2 z2 st2 hQ2
  subst l2 y2 z2
  obtain ⟨hv2, hL2, e2q⟩ := hQ2
  subst hL2
  have N2 := Fr.app N1 (Fr.nil n0)
  rw [show Int32.ofNat [(32 : Int32)].length = (1 : Int32) from rfl] at hv2
  subst hv2
  have e2 : T2.heap = h0 := e2q
  obtain ⟨cq3, kq3, q3a, q3b, q3c⟩ := isOf hZ e2 E_x
  obtain ⟨_, _, ⟨T3, L3, k3, n3⟩, -, X3, ⟨Lc3, hQ3, l3, y3, z3⟩, st3⟩ := X2.virtualBack hx (y := (⟨"java/lang/String", "startsWith", "(Ljava/lang/String;I)Z"⟩ : MethodName)) (z := (⟨"java/lang/String", "startsWith", "(Ljava/lang/String;I)Z"⟩ : MethodName)) hown (mvT hZ (hw _ (List.mem_of_getElem? (i := 79) rfl))) (mvT hZ (hw _ (List.mem_of_getElem? (i := 80) rfl))) (notFace_of_selects (args := #[]) (mvT hZ (hw _ (List.mem_of_getElem? (i := 82) rfl)))) (mvT hZ (hw _ (List.mem_of_getElem? (i := 82) rfl))) (mvT hZ (hw _ (List.mem_of_getElem? (i := 81) rfl))) (by decide) (backOf (W := 0) (rmSta1 l Z a0 hw [] x t y u k ku va zc h0 n0 Z0 E_x C_x V_x A_x E_y C_y V_y A_y S_c hzc ha hn) hZ (hw _ (List.mem_of_getElem? (i := 83) rfl)) (hw _ (List.mem_of_getElem? (i := 13) rfl)) (by decide) (by decide)) q3a q3c (g := (mkF m 11 #[rv x, rv y] [(.int (0 : Int32)), (.ref y), (.ref x)])) rfl (by rw [hml]; rfl) (Steps.refl _) (argsL := [(.ref y), (.int (0 : Int32))]) (rest := []) (lenOf pd_6 rfl) rfl (by show 2 * 0 + _ ≤ _; exact Nat.le_of_eq rfl) (hb hby d16_11) (fun _ _ => ⟨rfl, e2, (by decide : 0 + 0 ≤ _), (by decide : 0 + 0 ≤ _)⟩)
  dsimp only [Pt.U, Pt.locs, Pt.cells, Pt.slots] at X3 l3 y3 z3 st3 hQ3
  subst l3 y3 z3
  obtain ⟨rfl, N3q, e3q⟩ := hQ3
  have N3 := Fr.app N2 N3q
  have e3 : T3.heap = h0 := e3q
  have pre4 : ∀ tg, own_S p e below T3 m 14 #[rv x, rv y] [(.int (0 : Int32))] tg → Steps p.tables e below (s₁.setTop (entryFrame m #[(.ref x), (.ref y)] 2)) tg := fun tg k => pre0 tg (by
    show own_S p e below s₁ m 0 #[rv x, rv y] [] _
    refine XS.aloadN X0.here hx rfl (hb hby d16_0) rfl rfl ?_
    refine XS.aloadN X0.here hx rfl (hb hby d16_1) rfl rfl ?_
    refine XS.aloadN X0.here hx rfl (hb hby d16_2) rfl rfl ?_
    show own_S p e below s₁ m 3 #[rv x, rv y] [(.ref x), (.ref y), (.ref x)] _
    refine st1.trans ?_
    refine XS.aloadN X1.here hx rfl (hb hby d16_6) rfl rfl ?_
    refine st2.trans ?_
    show own_S p e below T2 m 10 #[rv x, rv y] [(.int (1 : Int32)), (.int (1 : Int32)), (.ref y), (.ref x)] _
    refine XS.isub X2.here hx rfl (hb hby d16_10) rfl ?_
    refine st3.trans ?_
    exact k)
  obtain ⟨fs, hr, hrun, hended, hW, hsame⟩ := X3.leave (v := some (.int (nar .boolean (0 : Int32)))) (fun h => by rw [Bd.returns] at h; cases h)
  refine ⟨_, _, pre4 _ ?_, hrun, hended, _, _, rfl, ?_, ⟨_, rfl⟩, hW, hsame.mono (by decide) (by decide)⟩
  · show own_S p e below T3 m 14 #[rv x, rv y] [(.int (0 : Int32))] _
    exact retN X3 hx (t := .boolean) Bd.returns (by simp) (hb hby d16_14) hr
  · show QEnd1 Z x t y u k ku va zc h0 n0 _ T3.heap _
    rw [e3]
    exact ⟨rfl, N3, rfl⟩
theorem ef_Sta2 (m : MethodId) (x : Addr) (y : Addr) : entryFrame m #[(.ref x), (.ref y), (.int (1 : Int32))] 8 = mkF m 0 #[rv x, rv y, iv (1 : Int32), .unset, .unset, .unset, .unset, .unset] [] := by first | (simp [entryFrame, mkF, argsToLocals, Value.category]; done) | rfl
def QSta2 (Z : State) (x t y u : Addr) (k ku : ClassId) (va vb : Int32) (zc : Int32) (h0 : Heap) (n0 : Nat) (v : Option Value) (h : Heap) (L : List Loc) : Prop := v = some (.int 0) ∧ Fr n0 L ∧ h = h0
set_option maxRecDepth 65536 in
set_option maxHeartbeats 40000000 in
theorem rmSta2 (l : Launch) (Z : State) (a0 : Array Value) (hw : ∀ d ∈ tables_1, d.before a0 Z = true) (ws : List Jvm.Cond) (x t y u : Addr) (k ku : ClassId) (va vb : Int32) (zc : Int32) (h0 : Heap) (n0 : Nat) (Z0 : n0 ≤ h0.size) (E_x : Exa Z h0 x "java/lang/String") (C_x : Fld Z h0 x "java/lang/String" "coder" "B" (.int 0)) (V_x : Fld Z h0 x "java/lang/String" "value" "[B" (.ref t)) (A_x : Arv Z h0 t k .byte (2 : Int32) [(.int va.toInt8.toInt32), (.int vb.toInt8.toInt32)] (.int 0)) (E_y : Exa Z h0 y "java/lang/String") (C_y : Fld Z h0 y "java/lang/String" "coder" "B" (.int 0)) (V_y : Fld Z h0 y "java/lang/String" "value" "[B" (.ref u)) (A_y : Arv Z h0 u ku .byte (1 : Int32) [(.int (32 : Int32))] (.int 0)) (S_c : Sta Z h0 "java/lang/String" "COMPACT_STRINGS" "Z" (.int zc)) (hzc : ¬ zc = 0) (ha : own_c va) (hvb : own_c vb) (hn : ¬ vb = 32) :
    MetFree l (⟨"java/lang/String", "startsWith", "(Ljava/lang/String;I)Z"⟩ : MethodName) (head1 (Jvm.Cond.code (⟨"java/lang/String", "startsWith", "(Ljava/lang/String;I)Z"⟩ : MethodName) jdk_42_method_75_code 8 (some .boolean) :: ws) ({ frames := 2, cells := 0, slots := 0, locals := 28 } : Room)) (fun a U => a = #[(.ref x), (.ref y), (.int (1 : Int32))] ∧ Z.Warmed39 U.vm ∧ U.heap = h0) (fun _ _ _ _ _ => True) (fun _ U o U' => ∃ v L, o = .returned v ∧ QSta2 Z x t y u k ku va vb zc h0 n0 v U'.heap L ∧ FrameEnd U o U' L ({ frames := 2, cells := 0, slots := 0, locals := 28 } : Room).cells ({ frames := 2, cells := 0, slots := 0, locals := 28 } : Room).slots) := by
  refine MetFree.of_bodySF (plainFor_of_name pn_3) hisR ?_
  intro p e s m args below meth c s₁ Bd hml0 hP hK
  obtain ⟨rfl, hZ, hh⟩ := hP
  have hx := Bd.exec
  have hby := Bd.bytes
  have hml : c.maxLocals = 8 := hml0
  have hown : s.vm.findClass "java/lang/String" = some m.cls := findClass_of_methodNamed Bd.named
  have hnm := (name_of_methodNamed Bd.named Bd.method).1
  have X0 : Stand p l e ({ frames := 2, cells := 0, slots := 0, locals := 28 } : Room) s m #[(.ref x), (.ref y), (.int (1 : Int32))] below meth c s₁ [] 0 0 := Stand.of_body Bd
  have e0 : s₁.heap = h0 := by rw [← hh, Bd.state]; rfl
  have N0 := Fr.nil n0
  have pre0 : ∀ tg, Steps p.tables e below (s₁.setTop (mkF m 0 #[rv x, rv y, iv (1 : Int32), .unset, .unset, .unset, .unset, .unset] [])) tg → Steps p.tables e below (s₁.setTop (entryFrame m #[(.ref x), (.ref y), (.int (1 : Int32))] 8)) tg := fun tg k => castTop (ef_Sta2 m x y) k
  obtain ⟨cq1, kq1, q1a, q1b, q1c⟩ := isOf hZ e0 E_x
  obtain ⟨_, _, ⟨T1, L1, k1, n1⟩, -, X1, ⟨Lc1, hQ1, l1, y1, z1⟩, st1⟩ := X0.virtualBack hx (y := (⟨"java/lang/String", "length", "()I"⟩ : MethodName)) (z := (⟨"java/lang/String", "length", "()I"⟩ : MethodName)) hown (mvT hZ (hw _ (List.mem_of_getElem? (i := 78) rfl))) (mvT hZ (hw _ (List.mem_of_getElem? (i := 63) rfl))) (notFace_of_selects (args := #[]) (mvT hZ (hw _ (List.mem_of_getElem? (i := 65) rfl)))) (mvT hZ (hw _ (List.mem_of_getElem? (i := 65) rfl))) (mvT hZ (hw _ (List.mem_of_getElem? (i := 64) rfl))) (by decide) (StrChars.Road.lenW (W := 1) hZ (own_wL hw) (hw _ (List.mem_of_getElem? (i := 12) rfl)) E_x V_x C_x A_x (own_cod2 ha hvb) (own_up (own_hp2 ha hvb)) S_c hzc (Nat.le_of_ble_eq_true rfl) (by decide) (by decide)) q1a q1c (g := (mkF m 6 #[rv x, rv y, iv (1 : Int32), .unset, .unset, .unset, .unset, .unset] [(.ref x), (.int (1 : Int32))])) rfl (by rw [hml]; rfl) (Steps.refl _) (argsL := []) (rest := [(.int (1 : Int32))]) (lenOf pd_3 rfl) rfl (by show 2 * 0 + _ ≤ _; exact Nat.le_of_eq rfl) (hb hby d17_6) (fun _ _ => ⟨rfl, e0, (by decide : 0 + 0 ≤ _), (by decide : 0 + 0 ≤ _)⟩)
  dsimp only [Pt.U, Pt.locs, Pt.cells, Pt.slots] at X1 l1 y1 z1 st1 hQ1
  subst l1 y1 z1
  obtain ⟨hv1, hL1, e1q⟩ := hQ1
  subst hL1
  have N1 := Fr.app N0 (Fr.nil n0)
  rw [show Int32.ofNat [va, vb].length = (2 : Int32) from rfl] at hv1
  subst hv1
  have e1 : T1.heap = h0 := e1q
  obtain ⟨cq2, kq2, q2a, q2b, q2c⟩ := isOf hZ e1 E_y
  obtain ⟨_, _, ⟨T2, L2, k2, n2⟩, -, X2, ⟨Lc2, hQ2, l2, y2, z2⟩, st2⟩ := X1.virtualBack hx (y := (⟨"java/lang/String", "length", "()I"⟩ : MethodName)) (z := (⟨"java/lang/String", "length", "()I"⟩ : MethodName)) hown (mvT hZ (hw _ (List.mem_of_getElem? (i := 78) rfl))) (mvT hZ (hw _ (List.mem_of_getElem? (i := 63) rfl))) (notFace_of_selects (args := #[]) (mvT hZ (hw _ (List.mem_of_getElem? (i := 65) rfl)))) (mvT hZ (hw _ (List.mem_of_getElem? (i := 65) rfl))) (mvT hZ (hw _ (List.mem_of_getElem? (i := 64) rfl))) (by decide) (StrChars.Road.lenW (W := 2) hZ (own_wL hw) (hw _ (List.mem_of_getElem? (i := 12) rfl)) E_y V_y C_y A_y own_cod32 (own_up (own_hp1 own_c32)) S_c hzc (Nat.le_of_ble_eq_true rfl) (by decide) (by decide)) q2a q2c (g := (mkF m 10 #[rv x, rv y, iv (1 : Int32), .unset, .unset, .unset, .unset, .unset] [(.ref y), (.int (2 : Int32)), (.int (1 : Int32))])) rfl (by rw [hml]; rfl) (Steps.refl _) (argsL := []) (rest := [(.int (2 : Int32)), (.int (1 : Int32))]) (lenOf pd_3 rfl) rfl (by show 2 * 0 + _ ≤ _; exact Nat.le_of_eq rfl) (hb hby d17_10) (fun _ _ => ⟨rfl, e1, (by decide : 0 + 0 ≤ _), (by decide : 0 + 0 ≤ _)⟩)
  dsimp only [Pt.U, Pt.locs, Pt.cells, Pt.slots] at X2 l2 y2 z2 st2 hQ2
  subst l2 y2 z2
  obtain ⟨hv2, hL2, e2q⟩ := hQ2
  subst hL2
  have N2 := Fr.app N1 (Fr.nil n0)
  rw [show Int32.ofNat [(32 : Int32)].length = (1 : Int32) from rfl] at hv2
  subst hv2
  have e2 : T2.heap = h0 := e2q
  obtain ⟨T3, X3, e3, st3⟩ := getF X2 hx hZ hown (host := "") (Or.inl (hw _ (List.mem_of_getElem? (i := 38) rfl))) Via.refl e2 V_x (g := (mkF m 20 #[rv x, rv y, iv (1 : Int32), .unset, .unset, .unset, .unset, .unset] [(.ref x)])) rfl rfl (hb hby d17_20)
  obtain ⟨T4, X4, e4, st4⟩ := getF X3 hx hZ hown (host := "") (Or.inl (hw _ (List.mem_of_getElem? (i := 38) rfl))) Via.refl e3 V_y (g := (mkF m 25 #[rv x, rv y, iv (1 : Int32), rv t, .unset, .unset, .unset, .unset] [(.ref y)])) rfl rfl (hb hby d17_25)
  obtain ⟨cl5, Ar5, q5, S5, M5, -, -⟩ := id A_y
  obtain ⟨cq6, kq6, q6a, q6b, q6c⟩ := isOf hZ e4 E_x
  obtain ⟨_, _, ⟨T6, L6, k6, n6⟩, -, X6, ⟨Lc6, hQ6, l6, y6, z6⟩, st6⟩ := X4.virtualBack hx (y := (⟨"java/lang/String", "coder", "()B"⟩ : MethodName)) (z := (⟨"java/lang/String", "coder", "()B"⟩ : MethodName)) hown (mvT hZ (hw _ (List.mem_of_getElem? (i := 67) rfl))) (mvT hZ (hw _ (List.mem_of_getElem? (i := 68) rfl))) (notFace_of_selects (args := #[]) (mvT hZ (hw _ (List.mem_of_getElem? (i := 70) rfl)))) (mvT hZ (hw _ (List.mem_of_getElem? (i := 70) rfl))) (mvT hZ (hw _ (List.mem_of_getElem? (i := 69) rfl))) (by decide) (backOf (W := 0) (rmCod l Z a0 hw [] x zc h0 n0 Z0 C_x S_c hzc) hZ (hw _ (List.mem_of_getElem? (i := 71) rfl)) (hw _ (List.mem_of_getElem? (i := 13) rfl)) (by decide) (by decide)) q6a q6c (g := (mkF m 39 #[rv x, rv y, iv (1 : Int32), rv t, rv u, iv (0 : Int32), iv (1 : Int32), .unset] [(.ref x)])) rfl (by rw [hml]; rfl) (Steps.refl _) (argsL := []) (rest := []) (lenOf pd_4 rfl) rfl (by show 2 * 0 + _ ≤ _; exact Nat.le_of_eq rfl) (hb hby d17_39) (fun _ _ => ⟨rfl, e4, (by decide : 0 + 0 ≤ _), (by decide : 0 + 0 ≤ _)⟩)
  dsimp only [Pt.U, Pt.locs, Pt.cells, Pt.slots] at X6 l6 y6 z6 st6 hQ6
  subst l6 y6 z6
  obtain ⟨rfl, N6q, e6q⟩ := hQ6
  have N6 := Fr.app N2 N6q
  have e6 : T6.heap = h0 := e6q
  obtain ⟨cq7, kq7, q7a, q7b, q7c⟩ := isOf hZ e6 E_y
  obtain ⟨_, _, ⟨T7, L7, k7, n7⟩, -, X7, ⟨Lc7, hQ7, l7, y7, z7⟩, st7⟩ := X6.virtualBack hx (y := (⟨"java/lang/String", "coder", "()B"⟩ : MethodName)) (z := (⟨"java/lang/String", "coder", "()B"⟩ : MethodName)) hown (mvT hZ (hw _ (List.mem_of_getElem? (i := 67) rfl))) (mvT hZ (hw _ (List.mem_of_getElem? (i := 68) rfl))) (notFace_of_selects (args := #[]) (mvT hZ (hw _ (List.mem_of_getElem? (i := 70) rfl)))) (mvT hZ (hw _ (List.mem_of_getElem? (i := 70) rfl))) (mvT hZ (hw _ (List.mem_of_getElem? (i := 69) rfl))) (by decide) (backOf (W := 1) (rmCod l Z a0 hw [] y zc h0 n0 Z0 C_y S_c hzc) hZ (hw _ (List.mem_of_getElem? (i := 71) rfl)) (hw _ (List.mem_of_getElem? (i := 13) rfl)) (by decide) (by decide)) q7a q7c (g := (mkF m 47 #[rv x, rv y, iv (1 : Int32), rv t, rv u, iv (0 : Int32), iv (1 : Int32), iv (0 : Int32)] [(.ref y), (.int (0 : Int32))])) rfl (by rw [hml]; rfl) (Steps.refl _) (argsL := []) (rest := [(.int (0 : Int32))]) (lenOf pd_4 rfl) rfl (by show 2 * 0 + _ ≤ _; exact Nat.le_of_eq rfl) (hb hby d17_47) (fun _ _ => ⟨rfl, e6, (by decide : 0 + 0 ≤ _), (by decide : 0 + 0 ≤ _)⟩)
  dsimp only [Pt.U, Pt.locs, Pt.cells, Pt.slots] at X7 l7 y7 z7 st7 hQ7
  subst l7 y7 z7
  obtain ⟨rfl, N7q, e7q⟩ := hQ7
  have N7 := Fr.app N6 N7q
  have e7 : T7.heap = h0 := e7q
  obtain ⟨_, _, ⟨T8, L8, k8, n8⟩, -, X8, ⟨Lc8, hQ8, l8, y8, z8⟩, st8⟩ := Jvm.LawKit.callS X7 hx (y := (⟨"jdk/internal/util/ArraysSupport", "mismatch", "([BI[BII)I"⟩ : MethodName)) hown (mvT hZ (hw _ (List.mem_of_getElem? (i := 84) rfl))) (mvT hZ (hw _ (List.mem_of_getElem? (i := 85) rfl))) (mvT hZ (hw _ (List.mem_of_getElem? (i := 86) rfl))) (mvT hZ (hw _ (List.mem_of_getElem? (i := 87) rfl))) (by decide) (backOf (W := 0) (rmMis2 l Z a0 hw [] t u k ku (va.toInt8.toInt32) (vb.toInt8.toInt32) h0 n0 Z0 A_x A_y (own_b32 hvb hn)) hZ (hw _ (List.mem_of_getElem? (i := 87) rfl)) (hw _ (List.mem_of_getElem? (i := 86) rfl)) (by decide) (by decide)) (g := (mkF m 70 #[rv x, rv y, iv (1 : Int32), rv t, rv u, iv (0 : Int32), iv (1 : Int32), iv (0 : Int32)] [(.int (1 : Int32)), (.int (0 : Int32)), (.ref u), (.int (1 : Int32)), (.ref t)])) rfl (by rw [hml]; rfl) (argsL := [(.ref t), (.int (1 : Int32)), (.ref u), (.int (0 : Int32)), (.int (1 : Int32))]) (rest := []) (lenOf pd_5 rfl) rfl (by show 2 * 0 + _ ≤ _; exact Nat.le_of_eq rfl) (hb hby d17_70) (fun _ _ => ⟨rfl, e7, (by decide : 0 + 0 ≤ _), (by decide : 0 + 0 ≤ _)⟩)
  dsimp only [Pt.U, Pt.locs, Pt.cells, Pt.slots] at X8 l8 y8 z8 st8 hQ8
  subst l8 y8 z8
  obtain ⟨rfl, N8q, e8q⟩ := hQ8
  have N8 := Fr.app N7 N8q
  have e8 : T8.heap = h0 := e8q
  have pre9 : ∀ tg, own_S p e below T8 m 81 #[rv x, rv y, iv (1 : Int32), rv t, rv u, iv (0 : Int32), iv (1 : Int32), iv (0 : Int32)] [(.int (0 : Int32))] tg → Steps p.tables e below (s₁.setTop (entryFrame m #[(.ref x), (.ref y), (.int (1 : Int32))] 8)) tg := fun tg k => pre0 tg (by
    show own_S p e below s₁ m 0 #[rv x, rv y, iv (1 : Int32), .unset, .unset, .unset, .unset, .unset] [] _
    refine XS.iloadN X0.here hx rfl (hb hby d17_0) rfl ?_
    refine XS.ifNo X0.here hx rfl (hb hby d17_1) rfl ((if0 _ _).trans (flt (by decide : ¬ ((1 : Int32) < (0 : Int32)))).1) ?_
    refine XS.iloadN X0.here hx rfl (hb hby d17_4) rfl ?_
    show own_S p e below s₁ m 5 #[rv x, rv y, iv (1 : Int32), .unset, .unset, .unset, .unset, .unset] [(.int (1 : Int32))] _
    refine XS.aloadN X0.here hx rfl (hb hby d17_5) rfl rfl ?_
    refine st1.trans ?_
    refine XS.aloadN X1.here hx rfl (hb hby d17_9) rfl rfl ?_
    show own_S p e below T1 m 10 #[rv x, rv y, iv (1 : Int32), .unset, .unset, .unset, .unset, .unset] [(.ref y), (.int (2 : Int32)), (.int (1 : Int32))] _
    refine st2.trans ?_
    refine XS.isub X2.here hx rfl (hb hby d17_13) rfl ?_
    refine XS.icmpYes X2.here hx rfl (pc0 := 14) (pc' := 19) rfl (hb hby d17_14) rfl (flt (by decide : ¬ ((1 : Int32) < (1 : Int32)))).2.2.2 (by decide) (by decide) ?_
    show own_S p e below T2 m 19 #[rv x, rv y, iv (1 : Int32), .unset, .unset, .unset, .unset, .unset] [] _
    refine XS.aloadN X2.here hx rfl (hb hby d17_19) rfl rfl ?_
    refine st3 _ ?_
    refine XS.astoreN X3.here hx rfl (hb hby d17_23) rfl rfl (l' := #[rv x, rv y, iv (1 : Int32), rv t, .unset, .unset, .unset, .unset]) rfl ?_
    show own_S p e below T3 m 24 #[rv x, rv y, iv (1 : Int32), rv t, .unset, .unset, .unset, .unset] [] _
    refine XS.aloadN X3.here hx rfl (hb hby d17_24) rfl rfl ?_
    refine st4 _ ?_
    refine XS.astore X4.here hx rfl (hb hby d17_28) rfl rfl (l' := #[rv x, rv y, iv (1 : Int32), rv t, rv u, .unset, .unset, .unset]) rfl ?_
    show own_S p e below T4 m 30 #[rv x, rv y, iv (1 : Int32), rv t, rv u, .unset, .unset, .unset] [] _
    refine XS.iconst X4.here hx rfl (hb hby d17_30) ?_
    refine XS.istore X4.here hx rfl (hb hby d17_31) rfl (l' := #[rv x, rv y, iv (1 : Int32), rv t, rv u, iv (0 : Int32), .unset, .unset]) rfl ?_
    refine XS.aload X4.here hx rfl (hb hby d17_33) rfl rfl ?_
    show own_S p e below T4 m 35 #[rv x, rv y, iv (1 : Int32), rv t, rv u, iv (0 : Int32), .unset, .unset] [(.ref u)] _
    refine X4.arraylength hx (by rw [e4]; exact Ar5.1) (State.isArrayOf_alike hZ.alike Ar5.2.1) (g := (mkF m 35 #[rv x, rv y, iv (1 : Int32), rv t, rv u, iv (0 : Int32), .unset, .unset] [(.ref u)])) rfl rfl (hb hby d17_35) _ ?_
    rw [len_of S5 M5]
    refine XS.istore X4.here hx rfl (hb hby d17_36) rfl (l' := #[rv x, rv y, iv (1 : Int32), rv t, rv u, iv (0 : Int32), iv (1 : Int32), .unset]) rfl ?_
    refine XS.aloadN X4.here hx rfl (hb hby d17_38) rfl rfl ?_
    show own_S p e below T4 m 39 #[rv x, rv y, iv (1 : Int32), rv t, rv u, iv (0 : Int32), iv (1 : Int32), .unset] [(.ref x)] _
    refine st6.trans ?_
    refine XS.istore X6.here hx rfl (hb hby d17_42) rfl (l' := #[rv x, rv y, iv (1 : Int32), rv t, rv u, iv (0 : Int32), iv (1 : Int32), iv (0 : Int32)]) rfl ?_
    refine XS.iload X6.here hx rfl (hb hby d17_44) rfl ?_
    show own_S p e below T6 m 46 #[rv x, rv y, iv (1 : Int32), rv t, rv u, iv (0 : Int32), iv (1 : Int32), iv (0 : Int32)] [(.int (0 : Int32))] _
    refine XS.aloadN X6.here hx rfl (hb hby d17_46) rfl rfl ?_
    refine st7.trans ?_
    refine XS.icmpNo X7.here hx rfl (hb hby d17_50) rfl (teq (by decide : (0 : Int32) = (0 : Int32))).2 ?_
    show own_S p e below T7 m 53 #[rv x, rv y, iv (1 : Int32), rv t, rv u, iv (0 : Int32), iv (1 : Int32), iv (0 : Int32)] [] _
    refine XS.iload X7.here hx rfl (hb hby d17_53) rfl ?_
    refine XS.iconst X7.here hx rfl (hb hby d17_55) ?_
    refine XS.icmpYes X7.here hx rfl (pc0 := 56) (pc' := 63) rfl (hb hby d17_56) rfl (feq (by decide : ¬ ((0 : Int32) = (1 : Int32)))).2 (by decide) (by decide) ?_
    show own_S p e below T7 m 63 #[rv x, rv y, iv (1 : Int32), rv t, rv u, iv (0 : Int32), iv (1 : Int32), iv (0 : Int32)] [] _
    refine XS.aloadN X7.here hx rfl (hb hby d17_63) rfl rfl ?_
    refine XS.iloadN X7.here hx rfl (hb hby d17_64) rfl ?_
    refine XS.aload X7.here hx rfl (hb hby d17_65) rfl rfl ?_
    show own_S p e below T7 m 67 #[rv x, rv y, iv (1 : Int32), rv t, rv u, iv (0 : Int32), iv (1 : Int32), iv (0 : Int32)] [(.ref u), (.int (1 : Int32)), (.ref t)] _
    refine XS.iconst X7.here hx rfl (hb hby d17_67) ?_
    refine XS.iload X7.here hx rfl (hb hby d17_68) rfl ?_
    refine st8 _ ?_
    show own_S p e below T8 m 73 #[rv x, rv y, iv (1 : Int32), rv t, rv u, iv (0 : Int32), iv (1 : Int32), iv (0 : Int32)] [(.int (0 : Int32))] _
    refine XS.ifYes X8.here hx rfl (pc0 := 73) (pc' := 80) rfl (hb hby d17_73) rfl ((if0 _ _).trans (flt (by decide : ¬ ((0 : Int32) < (0 : Int32)))).2.1) (by decide) (by decide) ?_
    refine XS.iconst X8.here hx rfl (hb hby d17_80) ?_
    exact k)
  obtain ⟨fs, hr, hrun, hended, hW, hsame⟩ := X8.leave (v := some (.int (nar .boolean (0 : Int32)))) (fun h => by rw [Bd.returns] at h; cases h)
  refine ⟨_, _, pre9 _ ?_, hrun, hended, _, _, rfl, ?_, ⟨_, rfl⟩, hW, hsame.mono (by decide) (by decide)⟩
  · show own_S p e below T8 m 81 #[rv x, rv y, iv (1 : Int32), rv t, rv u, iv (0 : Int32), iv (1 : Int32), iv (0 : Int32)] [(.int (0 : Int32))] _
    exact retN X8 hx (t := .boolean) Bd.returns (by simp) (hb hby d17_81) hr
  · show QSta2 Z x t y u k ku va vb zc h0 n0 _ T8.heap _
    rw [e8]
    exact ⟨rfl, N8, rfl⟩
theorem ef_End2 (m : MethodId) (x : Addr) (y : Addr) : entryFrame m #[(.ref x), (.ref y)] 2 = mkF m 0 #[rv x, rv y] [] := by first | (simp [entryFrame, mkF, argsToLocals, Value.category]; done) | rfl
def QEnd2 (Z : State) (x t y u : Addr) (k ku : ClassId) (va vb : Int32) (zc : Int32) (h0 : Heap) (n0 : Nat) (v : Option Value) (h : Heap) (L : List Loc) : Prop := v = some (.int 0) ∧ Fr n0 L ∧ h = h0
set_option maxRecDepth 65536 in
set_option maxHeartbeats 40000000 in
theorem rmEnd2 (l : Launch) (Z : State) (a0 : Array Value) (hw : ∀ d ∈ tables_1, d.before a0 Z = true) (ws : List Jvm.Cond) (x t y u : Addr) (k ku : ClassId) (va vb : Int32) (zc : Int32) (h0 : Heap) (n0 : Nat) (Z0 : n0 ≤ h0.size) (E_x : Exa Z h0 x "java/lang/String") (C_x : Fld Z h0 x "java/lang/String" "coder" "B" (.int 0)) (V_x : Fld Z h0 x "java/lang/String" "value" "[B" (.ref t)) (A_x : Arv Z h0 t k .byte (2 : Int32) [(.int va.toInt8.toInt32), (.int vb.toInt8.toInt32)] (.int 0)) (E_y : Exa Z h0 y "java/lang/String") (C_y : Fld Z h0 y "java/lang/String" "coder" "B" (.int 0)) (V_y : Fld Z h0 y "java/lang/String" "value" "[B" (.ref u)) (A_y : Arv Z h0 u ku .byte (1 : Int32) [(.int (32 : Int32))] (.int 0)) (S_c : Sta Z h0 "java/lang/String" "COMPACT_STRINGS" "Z" (.int zc)) (hzc : ¬ zc = 0) (ha : own_c va) (hvb : own_c vb) (hn : ¬ vb = 32) :
    MetFree l (⟨"java/lang/String", "endsWith", "(Ljava/lang/String;)Z"⟩ : MethodName) (head1 (Jvm.Cond.code (⟨"java/lang/String", "endsWith", "(Ljava/lang/String;)Z"⟩ : MethodName) jdk_42_method_77_code 2 (some .boolean) :: ws) ({ frames := 3, cells := 0, slots := 0, locals := 48 } : Room)) (fun a U => a = #[(.ref x), (.ref y)] ∧ Z.Warmed39 U.vm ∧ U.heap = h0) (fun _ _ _ _ _ => True) (fun _ U o U' => ∃ v L, o = .returned v ∧ QEnd2 Z x t y u k ku va vb zc h0 n0 v U'.heap L ∧ FrameEnd U o U' L ({ frames := 3, cells := 0, slots := 0, locals := 48 } : Room).cells ({ frames := 3, cells := 0, slots := 0, locals := 48 } : Room).slots) := by
  refine MetFree.of_bodySF (plainFor_of_name pn_3) hisR ?_
  intro p e s m args below meth c s₁ Bd hml0 hP hK
  obtain ⟨rfl, hZ, hh⟩ := hP
  have hx := Bd.exec
  have hby := Bd.bytes
  have hml : c.maxLocals = 2 := hml0
  have hown : s.vm.findClass "java/lang/String" = some m.cls := findClass_of_methodNamed Bd.named
  have hnm := (name_of_methodNamed Bd.named Bd.method).1
  have X0 : Stand p l e ({ frames := 3, cells := 0, slots := 0, locals := 48 } : Room) s m #[(.ref x), (.ref y)] below meth c s₁ [] 0 0 := Stand.of_body Bd
  have e0 : s₁.heap = h0 := by rw [← hh, Bd.state]; rfl
  have N0 := Fr.nil n0
  have pre0 : ∀ tg, Steps p.tables e below (s₁.setTop (mkF m 0 #[rv x, rv y] [])) tg → Steps p.tables e below (s₁.setTop (entryFrame m #[(.ref x), (.ref y)] 2)) tg := fun tg k => castTop (ef_End2 m x y) k
  obtain ⟨cq1, kq1, q1a, q1b, q1c⟩ := isOf hZ e0 E_x
  obtain ⟨_, _, ⟨T1, L1, k1, n1⟩, -, X1, ⟨Lc1, hQ1, l1, y1, z1⟩, st1⟩ := X0.virtualBack hx (y := (⟨"java/lang/String", "length", "()I"⟩ : MethodName)) (z := (⟨"java/lang/String", "length", "()I"⟩ : MethodName)) hown (mvT hZ (hw _ (List.mem_of_getElem? (i := 78) rfl))) (mvT hZ (hw _ (List.mem_of_getElem? (i := 63) rfl))) (notFace_of_selects (args := #[]) (mvT hZ (hw _ (List.mem_of_getElem? (i := 65) rfl)))) (mvT hZ (hw _ (List.mem_of_getElem? (i := 65) rfl))) (mvT hZ (hw _ (List.mem_of_getElem? (i := 64) rfl))) (by decide) (StrChars.Road.lenW (W := 2) hZ (own_wL hw) (hw _ (List.mem_of_getElem? (i := 12) rfl)) E_x V_x C_x A_x (own_cod2 ha hvb) (own_up (own_hp2 ha hvb)) S_c hzc (Nat.le_of_ble_eq_true rfl) (by decide) (by decide)) q1a q1c (g := (mkF m 3 #[rv x, rv y] [(.ref x), (.ref y), (.ref x)])) rfl (by rw [hml]; rfl) (Steps.refl _) (argsL := []) (rest := [(.ref y), (.ref x)]) (lenOf pd_3 rfl) rfl (by show 2 * 0 + _ ≤ _; exact Nat.le_of_eq rfl) (hb hby d16_3) (fun _ _ => ⟨rfl, e0, (by decide : 0 + 0 ≤ _), (by decide : 0 + 0 ≤ _)⟩)
  dsimp only [Pt.U, Pt.locs, Pt.cells, Pt.slots] at X1 l1 y1 z1 st1 hQ1
  subst l1 y1 z1
  obtain ⟨hv1, hL1, e1q⟩ := hQ1
  subst hL1
  have N1 := Fr.app N0 (Fr.nil n0)
  rw [show Int32.ofNat [va, vb].length = (2 : Int32) from rfl] at hv1
  subst hv1
  have e1 : T1.heap = h0 := e1q
  obtain ⟨cq2, kq2, q2a, q2b, q2c⟩ := isOf hZ e1 E_y
  obtain ⟨_, _, ⟨T2, L2, k2, n2⟩, -, X2, ⟨Lc2, hQ2, l2, y2, z2⟩, st2⟩ := X1.virtualBack hx (y := (⟨"java/lang/String", "length", "()I"⟩ : MethodName)) (z := (⟨"java/lang/String", "length", "()I"⟩ : MethodName)) hown (mvT hZ (hw _ (List.mem_of_getElem? (i := 78) rfl))) (mvT hZ (hw _ (List.mem_of_getElem? (i := 63) rfl))) (notFace_of_selects (args := #[]) (mvT hZ (hw _ (List.mem_of_getElem? (i := 65) rfl)))) (mvT hZ (hw _ (List.mem_of_getElem? (i := 65) rfl))) (mvT hZ (hw _ (List.mem_of_getElem? (i := 64) rfl))) (by decide) (StrChars.Road.lenW (W := 3) hZ (own_wL hw) (hw _ (List.mem_of_getElem? (i := 12) rfl)) E_y V_y C_y A_y own_cod32 (own_up (own_hp1 own_c32)) S_c hzc (Nat.le_of_ble_eq_true rfl) (by decide) (by decide)) q2a q2c (g := (mkF m 7 #[rv x, rv y] [(.ref y), (.int (2 : Int32)), (.ref y), (.ref x)])) rfl (by rw [hml]; rfl) (Steps.refl _) (argsL := []) (rest := [(.int (2 : Int32)), (.ref y), (.ref x)]) (lenOf pd_3 rfl) rfl (by show 2 * 0 + _ ≤ _; exact Nat.le_of_eq rfl) (hb hby d16_7) (fun _ _ => ⟨rfl, e1, (by decide : 0 + 0 ≤ _), (by decide : 0 + 0 ≤ _)⟩)
  dsimp only [Pt.U, Pt.locs, Pt.cells, Pt.slots] at X2 l2 y2 z2 st2 hQ2
  subst l2 y2 z2
  obtain ⟨hv2, hL2, e2q⟩ := hQ2
  subst hL2
  have N2 := Fr.app N1 (Fr.nil n0)
  rw [show Int32.ofNat [(32 : Int32)].length = (1 : Int32) from rfl] at hv2
  subst hv2
  have e2 : T2.heap = h0 := e2q
  obtain ⟨cq3, kq3, q3a, q3b, q3c⟩ := isOf hZ e2 E_x
  obtain ⟨_, _, ⟨T3, L3, k3, n3⟩, -, X3, ⟨Lc3, hQ3, l3, y3, z3⟩, st3⟩ := X2.virtualBack hx (y := (⟨"java/lang/String", "startsWith", "(Ljava/lang/String;I)Z"⟩ : MethodName)) (z := (⟨"java/lang/String", "startsWith", "(Ljava/lang/String;I)Z"⟩ : MethodName)) hown (mvT hZ (hw _ (List.mem_of_getElem? (i := 79) rfl))) (mvT hZ (hw _ (List.mem_of_getElem? (i := 80) rfl))) (notFace_of_selects (args := #[]) (mvT hZ (hw _ (List.mem_of_getElem? (i := 82) rfl)))) (mvT hZ (hw _ (List.mem_of_getElem? (i := 82) rfl))) (mvT hZ (hw _ (List.mem_of_getElem? (i := 81) rfl))) (by decide) (backOf (W := 0) (rmSta2 l Z a0 hw [] x t y u k ku va vb zc h0 n0 Z0 E_x C_x V_x A_x E_y C_y V_y A_y S_c hzc ha hvb hn) hZ (hw _ (List.mem_of_getElem? (i := 83) rfl)) (hw _ (List.mem_of_getElem? (i := 13) rfl)) (by decide) (by decide)) q3a q3c (g := (mkF m 11 #[rv x, rv y] [(.int (1 : Int32)), (.ref y), (.ref x)])) rfl (by rw [hml]; rfl) (Steps.refl _) (argsL := [(.ref y), (.int (1 : Int32))]) (rest := []) (lenOf pd_6 rfl) rfl (by show 2 * 0 + _ ≤ _; exact Nat.le_of_eq rfl) (hb hby d16_11) (fun _ _ => ⟨rfl, e2, (by decide : 0 + 0 ≤ _), (by decide : 0 + 0 ≤ _)⟩)
  dsimp only [Pt.U, Pt.locs, Pt.cells, Pt.slots] at X3 l3 y3 z3 st3 hQ3
  subst l3 y3 z3
  obtain ⟨rfl, N3q, e3q⟩ := hQ3
  have N3 := Fr.app N2 N3q
  have e3 : T3.heap = h0 := e3q
  have pre4 : ∀ tg, own_S p e below T3 m 14 #[rv x, rv y] [(.int (0 : Int32))] tg → Steps p.tables e below (s₁.setTop (entryFrame m #[(.ref x), (.ref y)] 2)) tg := fun tg k => pre0 tg (by
    show own_S p e below s₁ m 0 #[rv x, rv y] [] _
    refine XS.aloadN X0.here hx rfl (hb hby d16_0) rfl rfl ?_
    refine XS.aloadN X0.here hx rfl (hb hby d16_1) rfl rfl ?_
    refine XS.aloadN X0.here hx rfl (hb hby d16_2) rfl rfl ?_
    show own_S p e below s₁ m 3 #[rv x, rv y] [(.ref x), (.ref y), (.ref x)] _
    refine st1.trans ?_
    refine XS.aloadN X1.here hx rfl (hb hby d16_6) rfl rfl ?_
    refine st2.trans ?_
    show own_S p e below T2 m 10 #[rv x, rv y] [(.int (1 : Int32)), (.int (2 : Int32)), (.ref y), (.ref x)] _
    refine XS.isub X2.here hx rfl (hb hby d16_10) rfl ?_
    refine st3.trans ?_
    exact k)
  obtain ⟨fs, hr, hrun, hended, hW, hsame⟩ := X3.leave (v := some (.int (nar .boolean (0 : Int32)))) (fun h => by rw [Bd.returns] at h; cases h)
  refine ⟨_, _, pre4 _ ?_, hrun, hended, _, _, rfl, ?_, ⟨_, rfl⟩, hW, hsame.mono (by decide) (by decide)⟩
  · show own_S p e below T3 m 14 #[rv x, rv y] [(.int (0 : Int32))] _
    exact retN X3 hx (t := .boolean) Bd.returns (by simp) (hb hby d16_14) hr
  · show QEnd2 Z x t y u k ku va vb zc h0 n0 _ T3.heap _
    rw [e3]
    exact ⟨rfl, N3, rfl⟩
theorem pn_5 : plainName "com/example/garter/garter/schema/TableName" = true := by first | (simp [plainName, overriddenIn]; done) | decide +kernel
theorem ef_Chk (m : MethodId) (a1 : Addr) (x : Addr) : entryFrame m #[(.ref a1), (.ref x)] 4 = mkF m 0 #[rv a1, rv x, .unset, .unset] [] := by first | (simp [entryFrame, mkF, argsToLocals, Value.category]; done) | rfl
def QChk (Z : State) (a1 x t : Addr) (k : ClassId) (cz : List Int32) (zc : Int32) (fm : Value) (h0 : Heap) (n0 : Nat) (v : Option Value) (h : Heap) (L : List Loc) : Prop := v = some (.ref x) ∧ Fr n0 L ∧ Keep h0 h []
theorem d11_0 : decode prog_117_method_11_code 0 = .ok (.aload_n 1, 1) := by decide +kernel
theorem d11_1 : decode prog_117_method_11_code 1 = .ok (.aload_n 0, 1) := by decide +kernel
theorem d11_2 : decode prog_117_method_11_code 2 = .ok (.invokestatic 24, 3) := by decide +kernel
theorem pd_7 : parseMethodDescriptor "(Ljava/lang/Object;Ljava/lang/String;)Ljava/lang/Object;" = some ⟨[(.object "java/lang/Object"), (.object "java/lang/String")], some (.object "java/lang/Object")⟩ := by decide +kernel
theorem d11_5 : decode prog_117_method_11_code 5 = .ok (.pop, 1) := by decide +kernel
theorem d11_6 : decode prog_117_method_11_code 6 = .ok (.aload_n 1, 1) := by decide +kernel
theorem d11_7 : decode prog_117_method_11_code 7 = .ok (.invokevirtual 116, 3) := by decide +kernel
theorem pd_8 : parseMethodDescriptor "()Z" = some ⟨[], some .boolean⟩ := by decide +kernel
theorem d11_10 : decode prog_117_method_11_code 10 = .ok (.ifCond .eq 17, 3) := by decide +kernel
theorem d11_27 : decode prog_117_method_11_code 27 = .ok (.aload_n 1, 1) := by decide +kernel
theorem d11_28 : decode prog_117_method_11_code 28 = .ok (.invokevirtual 36, 3) := by decide +kernel
theorem d11_31 : decode prog_117_method_11_code 31 = .ok (.bipush 64, 2) := by decide +kernel
theorem d11_33 : decode prog_117_method_11_code 33 = .ok (.if_icmp .le 25, 3) := by decide +kernel
theorem d11_58 : decode prog_117_method_11_code 58 = .ok (.aload_n 1, 1) := by decide +kernel
theorem d11_59 : decode prog_117_method_11_code 59 = .ok (.ldc 127, 2) := by decide +kernel
theorem d11_61 : decode prog_117_method_11_code 61 = .ok (.invokevirtual 129, 3) := by decide +kernel
theorem pd_9 : parseMethodDescriptor "(Ljava/lang/String;)Z" = some ⟨[(.object "java/lang/String")], some .boolean⟩ := by decide +kernel
theorem d11_64 : decode prog_117_method_11_code 64 = .ok (.ifCond .eq 21, 3) := by decide +kernel
theorem d11_85 : decode prog_117_method_11_code 85 = .ok (.iconst 0, 1) := by decide +kernel
theorem d11_86 : decode prog_117_method_11_code 86 = .ok (.istore_n 2, 1) := by decide +kernel
theorem d11_87 : decode prog_117_method_11_code 87 = .ok (.iload_n 2, 1) := by decide +kernel
theorem d11_88 : decode prog_117_method_11_code 88 = .ok (.aload_n 1, 1) := by decide +kernel
theorem d11_89 : decode prog_117_method_11_code 89 = .ok (.invokevirtual 36, 3) := by decide +kernel
theorem d11_92 : decode prog_117_method_11_code 92 = .ok (.if_icmp .ge 58, 3) := by decide +kernel
theorem d11_95 : decode prog_117_method_11_code 95 = .ok (.aload_n 1, 1) := by decide +kernel
theorem d11_96 : decode prog_117_method_11_code 96 = .ok (.iload_n 2, 1) := by decide +kernel
theorem d11_97 : decode prog_117_method_11_code 97 = .ok (.invokevirtual 42, 3) := by decide +kernel
theorem d11_100 : decode prog_117_method_11_code 100 = .ok (.istore_n 3, 1) := by decide +kernel
theorem d11_101 : decode prog_117_method_11_code 101 = .ok (.iload_n 3, 1) := by decide +kernel
theorem d11_102 : decode prog_117_method_11_code 102 = .ok (.ifCond .ne 17, 3) := by decide +kernel
theorem d11_119 : decode prog_117_method_11_code 119 = .ok (.iload_n 3, 1) := by decide +kernel
theorem d11_120 : decode prog_117_method_11_code 120 = .ok (.invokestatic 135, 3) := by decide +kernel
theorem pd_10 : parseMethodDescriptor "(C)Z" = some ⟨[.char], some .boolean⟩ := by decide +kernel
theorem d11_123 : decode prog_117_method_11_code 123 = .ok (.ifCond .eq 21, 3) := by decide +kernel
theorem d11_144 : decode prog_117_method_11_code 144 = .ok (.iinc 2 1, 3) := by decide +kernel
theorem d11_147 : decode prog_117_method_11_code 147 = .ok (.goto (-60), 3) := by decide +kernel
theorem d11_150 : decode prog_117_method_11_code 150 = .ok (.aload_n 1, 1) := by decide +kernel
theorem d11_151 : decode prog_117_method_11_code 151 = .ok (.areturn, 1) := by decide +kernel
set_option maxRecDepth 65536 in
set_option maxHeartbeats 40000000 in
theorem rmChk (l : Launch) (Z : State) (a0 : Array Value) (hw : ∀ d ∈ tables_1, d.before a0 Z = true) (ws : List Jvm.Cond) (a1 x t : Addr) (k : ClassId) (cz : List Int32) (zc : Int32) (fm : Value) (h0 : Heap) (n0 : Nat) (Z0 : n0 ≤ h0.size) (E_x : Exa Z h0 x "java/lang/String") (C_x : Fld Z h0 x "java/lang/String" "coder" "B" (.int 0)) (V_x : Fld Z h0 x "java/lang/String" "value" "[B" (.ref t)) (A_x : Arv Z h0 t k .byte (Int32.ofNat cz.length) (own_bs cz) (.int 0)) (S_c : Sta Z h0 "java/lang/String" "COMPACT_STRINGS" "Z" (.int zc)) (hzc : ¬ zc = 0) (S_f : Sta Z h0 "jdk/internal/util/Preconditions" "SIOOBE_FORMATTER" "Ljava/util/function/BiFunction;" fm) (hfm : fm.isRef = true) (hcs : own_ok cz) :
    MetFree l (⟨"com/example/garter/garter/schema/TableName", "checkIdentifier", "(Ljava/lang/String;Ljava/lang/String;)Ljava/lang/String;"⟩ : MethodName) (head1 (Jvm.Cond.code (⟨"com/example/garter/garter/schema/TableName", "checkIdentifier", "(Ljava/lang/String;Ljava/lang/String;)Ljava/lang/String;"⟩ : MethodName) prog_117_method_11_code 4 (some (.object "java/lang/String")) :: ws) ({ frames := 4, cells := 2, slots := 8, locals := 62 } : Room)) (fun a U => a = #[(.ref a1), (.ref x)] ∧ Z.Warmed39 U.vm ∧ U.heap = h0 ∧ CHv Z consts_1 U.vm h0) (fun _ _ _ _ _ => True) (fun _ U o U' => ∃ v L, o = .returned v ∧ QChk Z a1 x t k cz zc fm h0 n0 v U'.heap L ∧ CHr Z consts_1 U.vm U.heap U'.vm U'.heap ∧ ReturnedEndW U o U' L ({ frames := 4, cells := 2, slots := 8, locals := 62 } : Room).cells ({ frames := 4, cells := 2, slots := 8, locals := 62 } : Room).slots) := by
  refine MetFree.of_bodySF (plainFor_of_name pn_5) hisR ?_
  intro p e s m args below meth c s₁ Bd hml0 hP hK
  obtain ⟨rfl, hZ, hh, hH⟩ := hP
  have hx := Bd.exec
  have hby := Bd.bytes
  have hml : c.maxLocals = 4 := hml0
  have hown : s.vm.findClass "com/example/garter/garter/schema/TableName" = some m.cls := findClass_of_methodNamed Bd.named
  have hnm := (name_of_methodNamed Bd.named Bd.method).1
  have X0 : Stand p l e ({ frames := 4, cells := 2, slots := 8, locals := 62 } : Room) s m #[(.ref a1), (.ref x)] below meth c s₁ [] 0 0 := Stand.of_body Bd
  have e0 : s₁.heap = h0 := by rw [← hh, Bd.state]; rfl
  have N0 := Fr.nil n0
  have pre0 : ∀ tg, Steps p.tables e below (s₁.setTop (mkF m 0 #[rv a1, rv x, .unset, .unset] [])) tg → Steps p.tables e below (s₁.setTop (entryFrame m #[(.ref a1), (.ref x)] 4)) tg := fun tg k => castTop (ef_Chk m a1 x) k
  have hS0 : s.Since s.vm 0 := (State.WarmedH.refl s).since 0
  have R0 : CHr Z consts_1 s.vm h0 s.vm h0 := CHr.refl hH
  rcases own_cs hcs with ⟨va, rfl, ha, hn⟩ | ⟨va, vb, rfl, ha, hvb, hn⟩
  ·  -- case
    have A_x' : Arv Z h0 t k .byte (1 : Int32) [(.int va.toInt8.toInt32)] (.int 0) := A_x
    obtain ⟨_, _, ⟨T1, L1, k1, n1⟩, -, X1, ⟨Lc1, hQ1, l1, y1, z1⟩, st1⟩ := Jvm.LawKit.callS X0 hx (y := (⟨"java/util/Objects", "requireNonNull", "(Ljava/lang/Object;Ljava/lang/String;)Ljava/lang/Object;"⟩ : MethodName)) hown (mvT hZ (hw _ (List.mem_of_getElem? (i := 53) rfl))) (mvT hZ (hw _ (List.mem_of_getElem? (i := 54) rfl))) (mvT hZ (hw _ (List.mem_of_getElem? (i := 55) rfl))) (mvT hZ (hw _ (List.mem_of_getElem? (i := 56) rfl))) (by decide) (backOf (W := 0) (rmReq l Z a0 hw [] x a1 h0 n0 Z0 ) hZ (hw _ (List.mem_of_getElem? (i := 56) rfl)) (hw _ (List.mem_of_getElem? (i := 55) rfl)) (by decide) (by decide)) (g := (mkF m 2 #[rv a1, rv x, .unset, .unset] [(.ref a1), (.ref x)])) rfl (by rw [hml]; rfl) (argsL := [(.ref x), (.ref a1)]) (rest := []) (lenOf pd_7 rfl) rfl (by show 2 * 0 + _ ≤ _; exact Nat.le_of_eq rfl) (hb hby d11_2) (fun _ _ => ⟨rfl, e0, (by decide : 0 + 0 ≤ _), (by decide : 0 + 0 ≤ _)⟩)
    dsimp only [Pt.U, Pt.locs, Pt.cells, Pt.slots] at X1 l1 y1 z1 st1 hQ1
    subst l1 y1 z1
    obtain ⟨rfl, N1q, e1q⟩ := hQ1
    have N1 := Fr.app N0 N1q
    have e1 : T1.heap = h0 := e1q
    obtain ⟨cq2, kq2, q2a, q2b, q2c⟩ := isOf hZ e1 E_x
    obtain ⟨_, _, ⟨T2, L2, k2, n2⟩, -, X2, ⟨Lc2, hQ2, l2, y2, z2⟩, st2⟩ := X1.virtualBack hx (y := (⟨"java/lang/String", "isEmpty", "()Z"⟩ : MethodName)) (z := (⟨"java/lang/String", "isEmpty", "()Z"⟩ : MethodName)) hown (mvT hZ (hw _ (List.mem_of_getElem? (i := 57) rfl))) (mvT hZ (hw _ (List.mem_of_getElem? (i := 58) rfl))) (notFace_of_selects (args := #[]) (mvT hZ (hw _ (List.mem_of_getElem? (i := 60) rfl)))) (mvT hZ (hw _ (List.mem_of_getElem? (i := 60) rfl))) (mvT hZ (hw _ (List.mem_of_getElem? (i := 59) rfl))) (by decide) (StrChars.Road.empW (W := 0) hZ (own_wE hw) (hw _ (List.mem_of_getElem? (i := 12) rfl)) (cs := [va]) E_x V_x C_x A_x' (own_cod1 ha) (own_up (own_hp1 ha)) (Nat.le_of_ble_eq_true rfl) (by decide) (by decide)) q2a q2c (g := (mkF m 7 #[rv a1, rv x, .unset, .unset] [(.ref x)])) rfl (by rw [hml]; rfl) (Steps.refl _) (argsL := []) (rest := []) (lenOf pd_8 rfl) rfl (by show 2 * 0 + _ ≤ _; exact Nat.le_of_eq rfl) (hb hby d11_7) (fun _ _ => ⟨rfl, e1, (by decide : 0 + 0 ≤ _), (by decide : 0 + 0 ≤ _)⟩)
    dsimp only [Pt.U, Pt.locs, Pt.cells, Pt.slots] at X2 l2 y2 z2 st2 hQ2
    subst l2 y2 z2
    obtain ⟨hv2, hL2, e2q⟩ := hQ2
    subst hL2
    have N2 := Fr.app N1 (Fr.nil n0)
    rw [if_neg (show ¬ ([va] : List Int32).length = 0 from nofun)] at hv2
    subst hv2
    have e2 : T2.heap = h0 := e2q
    obtain ⟨cq3, kq3, q3a, q3b, q3c⟩ := isOf hZ e2 E_x
    obtain ⟨_, _, ⟨T3, L3, k3, n3⟩, -, X3, ⟨Lc3, hQ3, l3, y3, z3⟩, st3⟩ := X2.virtualBack hx (y := (⟨"java/lang/String", "length", "()I"⟩ : MethodName)) (z := (⟨"java/lang/String", "length", "()I"⟩ : MethodName)) hown (mvT hZ (hw _ (List.mem_of_getElem? (i := 62) rfl))) (mvT hZ (hw _ (List.mem_of_getElem? (i := 63) rfl))) (notFace_of_selects (args := #[]) (mvT hZ (hw _ (List.mem_of_getElem? (i := 65) rfl)))) (mvT hZ (hw _ (List.mem_of_getElem? (i := 65) rfl))) (mvT hZ (hw _ (List.mem_of_getElem? (i := 64) rfl))) (by decide) (StrChars.Road.lenW (W := 0) hZ (own_wL hw) (hw _ (List.mem_of_getElem? (i := 12) rfl)) E_x V_x C_x A_x' (own_cod1 ha) (own_up (own_hp1 ha)) S_c hzc (Nat.le_of_ble_eq_true rfl) (by decide) (by decide)) q3a q3c (g := (mkF m 28 #[rv a1, rv x, .unset, .unset] [(.ref x)])) rfl (by rw [hml]; rfl) (Steps.refl _) (argsL := []) (rest := []) (lenOf pd_3 rfl) rfl (by show 2 * 0 + _ ≤ _; exact Nat.le_of_eq rfl) (hb hby d11_28) (fun _ _ => ⟨rfl, e2, (by decide : 0 + 0 ≤ _), (by decide : 0 + 0 ≤ _)⟩)
    dsimp only [Pt.U, Pt.locs, Pt.cells, Pt.slots] at X3 l3 y3 z3 st3 hQ3
    subst l3 y3 z3
    obtain ⟨hv3, hL3, e3q⟩ := hQ3
    subst hL3
    have N3 := Fr.app N2 (Fr.nil n0)
    rw [show Int32.ofNat [va].length = (1 : Int32) from rfl] at hv3
    subst hv3
    have e3 : T3.heap = h0 := e3q
    have pre4 : ∀ tg, own_S p e below T3 m 59 #[rv a1, rv x, .unset, .unset] [(.ref x)] tg → Steps p.tables e below (s₁.setTop (entryFrame m #[(.ref a1), (.ref x)] 4)) tg := fun tg k => pre0 tg (by
      show own_S p e below s₁ m 0 #[rv a1, rv x, .unset, .unset] [] _
      refine XS.aloadN X0.here hx rfl (hb hby d11_0) rfl rfl ?_
      refine XS.aloadN X0.here hx rfl (hb hby d11_1) rfl rfl ?_
      refine st1 _ ?_
      show own_S p e below T1 m 5 #[rv a1, rv x, .unset, .unset] [(.ref x)] _
      refine XS.pop X1.here hx rfl (hb hby d11_5) rfl rfl ?_
      refine XS.aloadN X1.here hx rfl (hb hby d11_6) rfl rfl ?_
      refine st2.trans ?_
      show own_S p e below T2 m 10 #[rv a1, rv x, .unset, .unset] [(.int (0 : Int32))] _
      refine XS.ifYes X2.here hx rfl (pc0 := 10) (pc' := 27) rfl (hb hby d11_10) rfl ((if0 _ _).trans (teq (by decide : (0 : Int32) = (0 : Int32))).1) (by decide) (by decide) ?_
      refine XS.aloadN X2.here hx rfl (hb hby d11_27) rfl rfl ?_
      refine st3.trans ?_
      show own_S p e below T3 m 31 #[rv a1, rv x, .unset, .unset] [(.int (1 : Int32))] _
      refine XS.bipush X3.here hx rfl (hb hby d11_31) ?_
      refine XS.icmpYes X3.here hx rfl (pc0 := 33) (pc' := 58) rfl (hb hby d11_33) rfl (flt (by decide : ¬ ((64 : Int32) < (1 : Int32)))).2.2.2 (by decide) (by decide) ?_
      refine XS.aloadN X3.here hx rfl (hb hby d11_58) rfl rfl ?_
      exact k)
    obtain ⟨a5, T5, h5, kn5, t5, kb5, X5, e5, E5, hS5, hk5, hZ5, hown5, Ex5, Cd5, Vl5, Va5, -, -, C5, -, Sf5, st5⟩ := ldcCH (s := s) (vm0 := s.vm) X3 hx hZ hown (hw _ (List.mem_of_getElem? (i := 72) rfl)) (own_wS hw) e3 hS0 (Nat.zero_le _) (own_EL hw) (List.mem_of_getElem? (i := 2) rfl) R0.1 (vs := [(.int (32 : Int32))]) (z := (1 : Int32)) ⟨by decide +kernel, by decide +kernel⟩ (by decide) rfl (g := (mkF m 59 #[rv a1, rv x, .unset, .unset] [(.ref x)])) rfl (hb hby d11_59) (n := 4) (by decide) (by decide) (by decide) (by decide)
    have R6 := R0.trans C5
    have En_7 := (E_x.ext E5)
    have Fn_8 := (C_x.ext E5)
    have Fn_9 := (V_x.ext E5)
    have Vn_10 := (A_x'.ext E5)
    have Sn_11 := (S_c.ext E5)
    have Zs13 : n0 ≤ h5.size := (Nat.le_trans Z0 E5.1)
    obtain ⟨cq12, kq12, q12a, q12b, q12c⟩ := isOf hZ5 e5 En_7
    obtain ⟨_, _, ⟨T12, L12, k12, n12⟩, -, X12, ⟨Lc12, hQ12, l12, y12, z12⟩, st12⟩ := X5.virtualBack hx (y := (⟨"java/lang/String", "endsWith", "(Ljava/lang/String;)Z"⟩ : MethodName)) (z := (⟨"java/lang/String", "endsWith", "(Ljava/lang/String;)Z"⟩ : MethodName)) hown5 (mvT hZ5 (hw _ (List.mem_of_getElem? (i := 73) rfl))) (mvT hZ5 (hw _ (List.mem_of_getElem? (i := 74) rfl))) (notFace_of_selects (args := #[]) (mvT hZ5 (hw _ (List.mem_of_getElem? (i := 76) rfl)))) (mvT hZ5 (hw _ (List.mem_of_getElem? (i := 76) rfl))) (mvT hZ5 (hw _ (List.mem_of_getElem? (i := 75) rfl))) (by decide) (backOf (W := 0) (rmEnd1 l Z a0 hw [] x t a5 t5 k kb5 va zc h5 n0 Zs13 En_7 Fn_8 Fn_9 Vn_10 Ex5 Cd5 Vl5 Va5 Sn_11 hzc ha hn) hZ5 (hw _ (List.mem_of_getElem? (i := 77) rfl)) (hw _ (List.mem_of_getElem? (i := 13) rfl)) (by decide) (by decide)) q12a q12c (g := (mkF m 61 #[rv a1, rv x, .unset, .unset] [(.ref a5), (.ref x)])) rfl (by rw [hml]; rfl) (Steps.refl _) (argsL := [(.ref a5)]) (rest := []) (lenOf pd_9 rfl) rfl (by show 2 * 0 + _ ≤ _; exact Nat.le_of_eq rfl) (hb hby d11_61) (fun _ _ => ⟨rfl, e5, (by decide : 2 + 0 ≤ _), (by decide : 8 + 0 ≤ _)⟩)
    dsimp only [Pt.U, Pt.locs, Pt.cells, Pt.slots] at X12 l12 y12 z12 st12 hQ12
    subst l12 y12 z12
    obtain ⟨rfl, N12q, e12q⟩ := hQ12
    have N12 := Fr.app N3 N12q
    have e12 : T12.heap = h5 := e12q
    obtain ⟨cq14, kq14, q14a, q14b, q14c⟩ := isOf hZ5 e12 En_7
    obtain ⟨_, _, ⟨T14, L14, k14, n14⟩, -, X14, ⟨Lc14, hQ14, l14, y14, z14⟩, st14⟩ := X12.virtualBack hx (y := (⟨"java/lang/String", "length", "()I"⟩ : MethodName)) (z := (⟨"java/lang/String", "length", "()I"⟩ : MethodName)) hown5 (mvT hZ5 (hw _ (List.mem_of_getElem? (i := 62) rfl))) (mvT hZ5 (hw _ (List.mem_of_getElem? (i := 63) rfl))) (notFace_of_selects (args := #[]) (mvT hZ5 (hw _ (List.mem_of_getElem? (i := 65) rfl)))) (mvT hZ5 (hw _ (List.mem_of_getElem? (i := 65) rfl))) (mvT hZ5 (hw _ (List.mem_of_getElem? (i := 64) rfl))) (by decide) (StrChars.Road.lenW (W := 1) hZ5 (own_wL hw) (hw _ (List.mem_of_getElem? (i := 12) rfl)) En_7 Fn_9 Fn_8 Vn_10 (own_cod1 ha) (own_up (own_hp1 ha)) Sn_11 hzc (Nat.le_of_ble_eq_true rfl) (by decide) (by decide)) q14a q14c (g := (mkF m 89 #[rv a1, rv x, iv (0 : Int32), .unset] [(.ref x), (.int (0 : Int32))])) rfl (by rw [hml]; rfl) (Steps.refl _) (argsL := []) (rest := [(.int (0 : Int32))]) (lenOf pd_3 rfl) rfl (by show 2 * 0 + _ ≤ _; exact Nat.le_of_eq rfl) (hb hby d11_89) (fun _ _ => ⟨rfl, e12, (by decide : 2 + 0 ≤ _), (by decide : 8 + 0 ≤ _)⟩)
    dsimp only [Pt.U, Pt.locs, Pt.cells, Pt.slots] at X14 l14 y14 z14 st14 hQ14
    subst l14 y14 z14
    obtain ⟨hv14, hL14, e14q⟩ := hQ14
    subst hL14
    have N14 := Fr.app N12 (Fr.nil n0)
    rw [show Int32.ofNat [va].length = (1 : Int32) from rfl] at hv14
    subst hv14
    have e14 : T14.heap = h5 := e14q
    have Sn_15 := (S_f.ext E5)
    obtain ⟨cq16, kq16, q16a, q16b, q16c⟩ := isOf hZ5 e14 En_7
    obtain ⟨_, _, ⟨T16, L16, k16, n16⟩, -, X16, ⟨Lc16, hQ16, l16, y16, z16⟩, st16⟩ := X14.virtualBack hx (y := (⟨"java/lang/String", "charAt", "(I)C"⟩ : MethodName)) (z := (⟨"java/lang/String", "charAt", "(I)C"⟩ : MethodName)) hown5 (mvT hZ5 (hw _ (List.mem_of_getElem? (i := 88) rfl))) (mvT hZ5 (hw _ (List.mem_of_getElem? (i := 89) rfl))) (notFace_of_selects (args := #[]) (mvT hZ5 (hw _ (List.mem_of_getElem? (i := 91) rfl)))) (mvT hZ5 (hw _ (List.mem_of_getElem? (i := 91) rfl))) (mvT hZ5 (hw _ (List.mem_of_getElem? (i := 90) rfl))) (by decide) (StrChars.Road.chN (W := 0) hZ5 (own_wC hw) (hw _ (List.mem_of_getElem? (i := 12) rfl)) (cs := [va]) (i := 0) (j := (0 : Int32)) En_7 Fn_9 Fn_8 Vn_10 (own_cod1 ha) (own_up (own_hp1 ha)) Sn_11 hzc Sn_15 hfm (Nat.le_of_ble_eq_true rfl) (Nat.le_of_ble_eq_true rfl) rfl (by decide) (by decide)) q16a q16c (g := (mkF m 97 #[rv a1, rv x, iv (0 : Int32), .unset] [(.int (0 : Int32)), (.ref x)])) rfl (by rw [hml]; rfl) (Steps.refl _) (argsL := [(.int (0 : Int32))]) (rest := []) (lenOf pd_0 rfl) rfl (by show 2 * 0 + _ ≤ _; exact Nat.le_of_eq rfl) (hb hby d11_97) (fun _ _ => ⟨rfl, e14, (by decide : 2 + 0 ≤ _), (by decide : 8 + 0 ≤ _)⟩)
    dsimp only [Pt.U, Pt.locs, Pt.cells, Pt.slots] at X16 l16 y16 z16 st16 hQ16
    subst l16 y16 z16
    obtain ⟨hv16, hL16, e16q⟩ := hQ16
    subst hL16
    have N16 := Fr.app N14 (Fr.nil n0)
    rw [show ([va] : List Int32).getD 0 0 = va from rfl] at hv16
    subst hv16
    have e16 : T16.heap = h5 := e16q
    obtain ⟨_, _, ⟨T17, L17, k17, n17⟩, -, X17, ⟨Lc17, hQ17, l17, y17, z17⟩, st17⟩ := Jvm.LawKit.callS X16 hx (y := (⟨"java/lang/Character", "isSurrogate", "(C)Z"⟩ : MethodName)) hown5 (mvT hZ5 (hw _ (List.mem_of_getElem? (i := 110) rfl))) (mvT hZ5 (hw _ (List.mem_of_getElem? (i := 111) rfl))) (mvT hZ5 (hw _ (List.mem_of_getElem? (i := 112) rfl))) (mvT hZ5 (hw _ (List.mem_of_getElem? (i := 113) rfl))) (by decide) (backOf (W := 0) (rmSur l Z a0 hw [] va h5 n0 Zs13 (own_sur ha)) hZ5 (hw _ (List.mem_of_getElem? (i := 113) rfl)) (hw _ (List.mem_of_getElem? (i := 112) rfl)) (by decide) (by decide)) (g := (mkF m 120 #[rv a1, rv x, iv (0 : Int32), iv va] [(.int va)])) rfl (by rw [hml]; rfl) (argsL := [(.int va)]) (rest := []) (lenOf pd_10 rfl) rfl (by show 2 * 0 + _ ≤ _; exact Nat.le_of_eq rfl) (hb hby d11_120) (fun _ _ => ⟨rfl, e16, (by decide : 2 + 0 ≤ _), (by decide : 8 + 0 ≤ _)⟩)
    dsimp only [Pt.U, Pt.locs, Pt.cells, Pt.slots] at X17 l17 y17 z17 st17 hQ17
    subst l17 y17 z17
    obtain ⟨rfl, N17q, e17q⟩ := hQ17
    have N17 := Fr.app N16 N17q
    have e17 : T17.heap = h5 := e17q
    obtain ⟨cq18, kq18, q18a, q18b, q18c⟩ := isOf hZ5 e17 En_7
    obtain ⟨_, _, ⟨T18, L18, k18, n18⟩, -, X18, ⟨Lc18, hQ18, l18, y18, z18⟩, st18⟩ := X17.virtualBack hx (y := (⟨"java/lang/String", "length", "()I"⟩ : MethodName)) (z := (⟨"java/lang/String", "length", "()I"⟩ : MethodName)) hown5 (mvT hZ5 (hw _ (List.mem_of_getElem? (i := 62) rfl))) (mvT hZ5 (hw _ (List.mem_of_getElem? (i := 63) rfl))) (notFace_of_selects (args := #[]) (mvT hZ5 (hw _ (List.mem_of_getElem? (i := 65) rfl)))) (mvT hZ5 (hw _ (List.mem_of_getElem? (i := 65) rfl))) (mvT hZ5 (hw _ (List.mem_of_getElem? (i := 64) rfl))) (by decide) (StrChars.Road.lenW (W := 1) hZ5 (own_wL hw) (hw _ (List.mem_of_getElem? (i := 12) rfl)) En_7 Fn_9 Fn_8 Vn_10 (own_cod1 ha) (own_up (own_hp1 ha)) Sn_11 hzc (Nat.le_of_ble_eq_true rfl) (by decide) (by decide)) q18a q18c (g := (mkF m 89 #[rv a1, rv x, iv (1 : Int32), iv va] [(.ref x), (.int (1 : Int32))])) rfl (by rw [hml]; rfl) (Steps.refl _) (argsL := []) (rest := [(.int (1 : Int32))]) (lenOf pd_3 rfl) rfl (by show 2 * 0 + _ ≤ _; exact Nat.le_of_eq rfl) (hb hby d11_89) (fun _ _ => ⟨rfl, e17, (by decide : 2 + 0 ≤ _), (by decide : 8 + 0 ≤ _)⟩)
    dsimp only [Pt.U, Pt.locs, Pt.cells, Pt.slots] at X18 l18 y18 z18 st18 hQ18
    subst l18 y18 z18
    obtain ⟨hv18, hL18, e18q⟩ := hQ18
    subst hL18
    have N18 := Fr.app N17 (Fr.nil n0)
    rw [show Int32.ofNat [va].length = (1 : Int32) from rfl] at hv18
    subst hv18
    have e18 : T18.heap = h5 := e18q
    have pre19 : ∀ tg, own_S p e below T18 m 151 #[rv a1, rv x, iv (1 : Int32), iv va] [(.ref x)] tg → Steps p.tables e below (s₁.setTop (entryFrame m #[(.ref a1), (.ref x)] 4)) tg := fun tg k => pre4 tg (by
      show own_S p e below T3 m 59 #[rv a1, rv x, .unset, .unset] [(.ref x)] _
      refine st5 _ ?_
      refine st12.trans ?_
      refine XS.ifYes X12.here hx rfl (pc0 := 64) (pc' := 85) rfl (hb hby d11_64) rfl ((if0 _ _).trans (teq (by decide : (0 : Int32) = (0 : Int32))).1) (by decide) (by decide) ?_
      show own_S p e below T12 m 85 #[rv a1, rv x, .unset, .unset] [] _
      refine XS.iconst X12.here hx rfl (hb hby d11_85) ?_
      refine XS.istoreN X12.here hx rfl (hb hby d11_86) rfl (l' := #[rv a1, rv x, iv (0 : Int32), .unset]) rfl ?_
      refine XS.iloadN X12.here hx rfl (hb hby d11_87) rfl ?_
      show own_S p e below T12 m 88 #[rv a1, rv x, iv (0 : Int32), .unset] [(.int (0 : Int32))] _
      refine XS.aloadN X12.here hx rfl (hb hby d11_88) rfl rfl ?_
      refine st14.trans ?_
      refine XS.icmpNo X14.here hx rfl (hb hby d11_92) rfl (tlt (by decide : (0 : Int32) < (1 : Int32))).2.1 ?_
      show own_S p e below T14 m 95 #[rv a1, rv x, iv (0 : Int32), .unset] [] _
      refine XS.aloadN X14.here hx rfl (hb hby d11_95) rfl rfl ?_
      refine XS.iloadN X14.here hx rfl (hb hby d11_96) rfl ?_
      refine st16.trans ?_
      show own_S p e below T16 m 100 #[rv a1, rv x, iv (0 : Int32), .unset] [(.int va)] _
      refine XS.istoreN X16.here hx rfl (hb hby d11_100) rfl (l' := #[rv a1, rv x, iv (0 : Int32), iv va]) rfl ?_
      refine XS.iloadN X16.here hx rfl (hb hby d11_101) rfl ?_
      refine XS.ifYes X16.here hx rfl (pc0 := 102) (pc' := 119) rfl (hb hby d11_102) rfl ((if0 _ _).trans (feq (own_ne0 ha)).2) (by decide) (by decide) ?_
      show own_S p e below T16 m 119 #[rv a1, rv x, iv (0 : Int32), iv va] [] _
      refine XS.iloadN X16.here hx rfl (hb hby d11_119) rfl ?_
      refine st17 _ ?_
      refine XS.ifYes X17.here hx rfl (pc0 := 123) (pc' := 144) rfl (hb hby d11_123) rfl ((if0 _ _).trans (teq (by decide : (0 : Int32) = (0 : Int32))).1) (by decide) (by decide) ?_
      show own_S p e below T17 m 144 #[rv a1, rv x, iv (0 : Int32), iv va] [] _
      refine XS.iinc X17.here hx rfl (hb hby d11_144) rfl (l' := #[rv a1, rv x, iv (1 : Int32), iv va]) rfl ?_
      refine XS.goto X17.here hx rfl (pc0 := 147) (pc' := 87) rfl (hb hby d11_147) (by decide) (by decide) ?_
      refine XS.iloadN X17.here hx rfl (hb hby d11_87) rfl ?_
      show own_S p e below T17 m 88 #[rv a1, rv x, iv (1 : Int32), iv va] [(.int (1 : Int32))] _
      refine XS.aloadN X17.here hx rfl (hb hby d11_88) rfl rfl ?_
      refine st18.trans ?_
      refine XS.icmpYes X18.here hx rfl (pc0 := 92) (pc' := 150) rfl (hb hby d11_92) rfl (flt (by decide : ¬ ((1 : Int32) < (1 : Int32)))).2.1 (by decide) (by decide) ?_
      show own_S p e below T18 m 150 #[rv a1, rv x, iv (1 : Int32), iv va] [] _
      refine XS.aloadN X18.here hx rfl (hb hby d11_150) rfl rfl ?_
      exact k)
    obtain ⟨fs, hr, hrun, hended, hEnd⟩ := Stand.leaveW (s := s) (vm₁ := T5.vm) X18 hS5 (show _ ≤ T18.heap.size by rw [e18]; exact hk5) (v := some (.ref x)) (fun h => by rw [Bd.returns] at h; cases h)
    refine ⟨_, _, pre19 _ ?_, hrun, hended, _, _, rfl, ?_, ?_, hEnd.1, hEnd.2.1, hEnd.2.2.1, hEnd.2.2.2.mono (by decide) (by decide)⟩
    · show own_S p e below T18 m 151 #[rv a1, rv x, iv (1 : Int32), iv va] [(.ref x)] _
      exact retOut X18 hx (t := (.object "java/lang/String")) Bd.returns rfl (Or.inr (Or.inr (Or.inr (Or.inr ⟨rfl, rfl, rfl⟩)))) (hb hby d11_151) hr
    · show QChk Z a1 x t k [va] zc fm h0 n0 _ T18.heap _
      rw [e18]
      exact ⟨rfl, N18, ((Keep.refl h0 []).ext E5)⟩
    · show CHr Z consts_1 s.vm s.heap T18.vm T18.heap
      rw [hh]
      rw [e18]
      exact R6.trans (CHv.at (s := s) (vm0 := T5.vm) X18 hZ5 (own_EL hw) R6.1)
  ·  -- case
    have A_x' : Arv Z h0 t k .byte (2 : Int32) [(.int va.toInt8.toInt32), (.int vb.toInt8.toInt32)] (.int 0) := A_x
    obtain ⟨_, _, ⟨T20, L20, k20, n20⟩, -, X20, ⟨Lc20, hQ20, l20, y20, z20⟩, st20⟩ := Jvm.LawKit.callS X0 hx (y := (⟨"java/util/Objects", "requireNonNull", "(Ljava/lang/Object;Ljava/lang/String;)Ljava/lang/Object;"⟩ : MethodName)) hown (mvT hZ (hw _ (List.mem_of_getElem? (i := 53) rfl))) (mvT hZ (hw _ (List.mem_of_getElem? (i := 54) rfl))) (mvT hZ (hw _ (List.mem_of_getElem? (i := 55) rfl))) (mvT hZ (hw _ (List.mem_of_getElem? (i := 56) rfl))) (by decide) (backOf (W := 0) (rmReq l Z a0 hw [] x a1 h0 n0 Z0 ) hZ (hw _ (List.mem_of_getElem? (i := 56) rfl)) (hw _ (List.mem_of_getElem? (i := 55) rfl)) (by decide) (by decide)) (g := (mkF m 2 #[rv a1, rv x, .unset, .unset] [(.ref a1), (.ref x)])) rfl (by rw [hml]; rfl) (argsL := [(.ref x), (.ref a1)]) (rest := []) (lenOf pd_7 rfl) rfl (by show 2 * 0 + _ ≤ _; exact Nat.le_of_eq rfl) (hb hby d11_2) (fun _ _ => ⟨rfl, e0, (by decide : 0 + 0 ≤ _), (by decide : 0 + 0 ≤ _)⟩)
    dsimp only [Pt.U, Pt.locs, Pt.cells, Pt.slots] at X20 l20 y20 z20 st20 hQ20
    subst l20 y20 z20
    obtain ⟨rfl, N20q, e20q⟩ := hQ20
    have N20 := Fr.app N0 N20q
    have e20 : T20.heap = h0 := e20q
    obtain ⟨cq21, kq21, q21a, q21b, q21c⟩ := isOf hZ e20 E_x
    obtain ⟨_, _, ⟨T21, L21, k21, n21⟩, -, X21, ⟨Lc21, hQ21, l21, y21, z21⟩, st21⟩ := X20.virtualBack hx (y := (⟨"java/lang/String", "isEmpty", "()Z"⟩ : MethodName)) (z := (⟨"java/lang/String", "isEmpty", "()Z"⟩ : MethodName)) hown (mvT hZ (hw _ (List.mem_of_getElem? (i := 57) rfl))) (mvT hZ (hw _ (List.mem_of_getElem? (i := 58) rfl))) (notFace_of_selects (args := #[]) (mvT hZ (hw _ (List.mem_of_getElem? (i := 60) rfl)))) (mvT hZ (hw _ (List.mem_of_getElem? (i := 60) rfl))) (mvT hZ (hw _ (List.mem_of_getElem? (i := 59) rfl))) (by decide) (StrChars.Road.empW (W := 0) hZ (own_wE hw) (hw _ (List.mem_of_getElem? (i := 12) rfl)) (cs := [va, vb]) E_x V_x C_x A_x' (own_cod2 ha hvb) (own_up (own_hp2 ha hvb)) (Nat.le_of_ble_eq_true rfl) (by decide) (by decide)) q21a q21c (g := (mkF m 7 #[rv a1, rv x, .unset, .unset] [(.ref x)])) rfl (by rw [hml]; rfl) (Steps.refl _) (argsL := []) (rest := []) (lenOf pd_8 rfl) rfl (by show 2 * 0 + _ ≤ _; exact Nat.le_of_eq rfl) (hb hby d11_7) (fun _ _ => ⟨rfl, e20, (by decide : 0 + 0 ≤ _), (by decide : 0 + 0 ≤ _)⟩)
    dsimp only [Pt.U, Pt.locs, Pt.cells, Pt.slots] at X21 l21 y21 z21 st21 hQ21
    subst l21 y21 z21
    obtain ⟨hv21, hL21, e21q⟩ := hQ21
    subst hL21
    have N21 := Fr.app N20 (Fr.nil n0)
    rw [if_neg (show ¬ ([va, vb] : List Int32).length = 0 from nofun)] at hv21
    subst hv21
    have e21 : T21.heap = h0 := e21q
    obtain ⟨cq22, kq22, q22a, q22b, q22c⟩ := isOf hZ e21 E_x
    obtain ⟨_, _, ⟨T22, L22, k22, n22⟩, -, X22, ⟨Lc22, hQ22, l22, y22, z22⟩, st22⟩ := X21.virtualBack hx (y := (⟨"java/lang/String", "length", "()I"⟩ : MethodName)) (z := (⟨"java/lang/String", "length", "()I"⟩ : MethodName)) hown (mvT hZ (hw _ (List.mem_of_getElem? (i := 62) rfl))) (mvT hZ (hw _ (List.mem_of_getElem? (i := 63) rfl))) (notFace_of_selects (args := #[]) (mvT hZ (hw _ (List.mem_of_getElem? (i := 65) rfl)))) (mvT hZ (hw _ (List.mem_of_getElem? (i := 65) rfl))) (mvT hZ (hw _ (List.mem_of_getElem? (i := 64) rfl))) (by decide) (StrChars.Road.lenW (W := 0) hZ (own_wL hw) (hw _ (List.mem_of_getElem? (i := 12) rfl)) E_x V_x C_x A_x' (own_cod2 ha hvb) (own_up (own_hp2 ha hvb)) S_c hzc (Nat.le_of_ble_eq_true rfl) (by decide) (by decide)) q22a q22c (g := (mkF m 28 #[rv a1, rv x, .unset, .unset] [(.ref x)])) rfl (by rw [hml]; rfl) (Steps.refl _) (argsL := []) (rest := []) (lenOf pd_3 rfl) rfl (by show 2 * 0 + _ ≤ _; exact Nat.le_of_eq rfl) (hb hby d11_28) (fun _ _ => ⟨rfl, e21, (by decide : 0 + 0 ≤ _), (by decide : 0 + 0 ≤ _)⟩)
    dsimp only [Pt.U, Pt.locs, Pt.cells, Pt.slots] at X22 l22 y22 z22 st22 hQ22
    subst l22 y22 z22
    obtain ⟨hv22, hL22, e22q⟩ := hQ22
    subst hL22
    have N22 := Fr.app N21 (Fr.nil n0)
    rw [show Int32.ofNat [va, vb].length = (2 : Int32) from rfl] at hv22
    subst hv22
    have e22 : T22.heap = h0 := e22q
    have pre23 : ∀ tg, own_S p e below T22 m 59 #[rv a1, rv x, .unset, .unset] [(.ref x)] tg → Steps p.tables e below (s₁.setTop (entryFrame m #[(.ref a1), (.ref x)] 4)) tg := fun tg k => pre0 tg (by
      show own_S p e below s₁ m 0 #[rv a1, rv x, .unset, .unset] [] _
      refine XS.aloadN X0.here hx rfl (hb hby d11_0) rfl rfl ?_
      refine XS.aloadN X0.here hx rfl (hb hby d11_1) rfl rfl ?_
      refine st20 _ ?_
      show own_S p e below T20 m 5 #[rv a1, rv x, .unset, .unset] [(.ref x)] _
      refine XS.pop X20.here hx rfl (hb hby d11_5) rfl rfl ?_
      refine XS.aloadN X20.here hx rfl (hb hby d11_6) rfl rfl ?_
      refine st21.trans ?_
      show own_S p e below T21 m 10 #[rv a1, rv x, .unset, .unset] [(.int (0 : Int32))] _
      refine XS.ifYes X21.here hx rfl (pc0 := 10) (pc' := 27) rfl (hb hby d11_10) rfl ((if0 _ _).trans (teq (by decide : (0 : Int32) = (0 : Int32))).1) (by decide) (by decide) ?_
      refine XS.aloadN X21.here hx rfl (hb hby d11_27) rfl rfl ?_
      refine st22.trans ?_
      show own_S p e below T22 m 31 #[rv a1, rv x, .unset, .unset] [(.int (2 : Int32))] _
      refine XS.bipush X22.here hx rfl (hb hby d11_31) ?_
      refine XS.icmpYes X22.here hx rfl (pc0 := 33) (pc' := 58) rfl (hb hby d11_33) rfl (flt (by decide : ¬ ((64 : Int32) < (2 : Int32)))).2.2.2 (by decide) (by decide) ?_
      refine XS.aloadN X22.here hx rfl (hb hby d11_58) rfl rfl ?_
      exact k)
    obtain ⟨a24, T24, h24, kn24, t24, kb24, X24, e24, E24, hS24, hk24, hZ24, hown24, Ex24, Cd24, Vl24, Va24, -, -, C24, -, Sf24, st24⟩ := ldcCH (s := s) (vm0 := s.vm) X22 hx hZ hown (hw _ (List.mem_of_getElem? (i := 72) rfl)) (own_wS hw) e22 hS0 (Nat.zero_le _) (own_EL hw) (List.mem_of_getElem? (i := 2) rfl) R0.1 (vs := [(.int (32 : Int32))]) (z := (1 : Int32)) ⟨by decide +kernel, by decide +kernel⟩ (by decide) rfl (g := (mkF m 59 #[rv a1, rv x, .unset, .unset] [(.ref x)])) rfl (hb hby d11_59) (n := 4) (by decide) (by decide) (by decide) (by decide)
    have R25 := R0.trans C24
    have En_26 := (E_x.ext E24)
    have Fn_27 := (C_x.ext E24)
    have Fn_28 := (V_x.ext E24)
    have Vn_29 := (A_x'.ext E24)
    have Sn_30 := (S_c.ext E24)
    have Zs32 : n0 ≤ h24.size := (Nat.le_trans Z0 E24.1)
    obtain ⟨cq31, kq31, q31a, q31b, q31c⟩ := isOf hZ24 e24 En_26
    obtain ⟨_, _, ⟨T31, L31, k31, n31⟩, -, X31, ⟨Lc31, hQ31, l31, y31, z31⟩, st31⟩ := X24.virtualBack hx (y := (⟨"java/lang/String", "endsWith", "(Ljava/lang/String;)Z"⟩ : MethodName)) (z := (⟨"java/lang/String", "endsWith", "(Ljava/lang/String;)Z"⟩ : MethodName)) hown24 (mvT hZ24 (hw _ (List.mem_of_getElem? (i := 73) rfl))) (mvT hZ24 (hw _ (List.mem_of_getElem? (i := 74) rfl))) (notFace_of_selects (args := #[]) (mvT hZ24 (hw _ (List.mem_of_getElem? (i := 76) rfl)))) (mvT hZ24 (hw _ (List.mem_of_getElem? (i := 76) rfl))) (mvT hZ24 (hw _ (List.mem_of_getElem? (i := 75) rfl))) (by decide) (backOf (W := 0) (rmEnd2 l Z a0 hw [] x t a24 t24 k kb24 va vb zc h24 n0 Zs32 En_26 Fn_27 Fn_28 Vn_29 Ex24 Cd24 Vl24 Va24 Sn_30 hzc ha hvb hn) hZ24 (hw _ (List.mem_of_getElem? (i := 77) rfl)) (hw _ (List.mem_of_getElem? (i := 13) rfl)) (by decide) (by decide)) q31a q31c (g := (mkF m 61 #[rv a1, rv x, .unset, .unset] [(.ref a24), (.ref x)])) rfl (by rw [hml]; rfl) (Steps.refl _) (argsL := [(.ref a24)]) (rest := []) (lenOf pd_9 rfl) rfl (by show 2 * 0 + _ ≤ _; exact Nat.le_of_eq rfl) (hb hby d11_61) (fun _ _ => ⟨rfl, e24, (by decide : 2 + 0 ≤ _), (by decide : 8 + 0 ≤ _)⟩)
    dsimp only [Pt.U, Pt.locs, Pt.cells, Pt.slots] at X31 l31 y31 z31 st31 hQ31
    subst l31 y31 z31
    obtain ⟨rfl, N31q, e31q⟩ := hQ31
    have N31 := Fr.app N22 N31q
    have e31 : T31.heap = h24 := e31q
    obtain ⟨cq33, kq33, q33a, q33b, q33c⟩ := isOf hZ24 e31 En_26
    obtain ⟨_, _, ⟨T33, L33, k33, n33⟩, -, X33, ⟨Lc33, hQ33, l33, y33, z33⟩, st33⟩ := X31.virtualBack hx (y := (⟨"java/lang/String", "length", "()I"⟩ : MethodName)) (z := (⟨"java/lang/String", "length", "()I"⟩ : MethodName)) hown24 (mvT hZ24 (hw _ (List.mem_of_getElem? (i := 62) rfl))) (mvT hZ24 (hw _ (List.mem_of_getElem? (i := 63) rfl))) (notFace_of_selects (args := #[]) (mvT hZ24 (hw _ (List.mem_of_getElem? (i := 65) rfl)))) (mvT hZ24 (hw _ (List.mem_of_getElem? (i := 65) rfl))) (mvT hZ24 (hw _ (List.mem_of_getElem? (i := 64) rfl))) (by decide) (StrChars.Road.lenW (W := 1) hZ24 (own_wL hw) (hw _ (List.mem_of_getElem? (i := 12) rfl)) En_26 Fn_28 Fn_27 Vn_29 (own_cod2 ha hvb) (own_up (own_hp2 ha hvb)) Sn_30 hzc (Nat.le_of_ble_eq_true rfl) (by decide) (by decide)) q33a q33c (g := (mkF m 89 #[rv a1, rv x, iv (0 : Int32), .unset] [(.ref x), (.int (0 : Int32))])) rfl (by rw [hml]; rfl) (Steps.refl _) (argsL := []) (rest := [(.int (0 : Int32))]) (lenOf pd_3 rfl) rfl (by show 2 * 0 + _ ≤ _; exact Nat.le_of_eq rfl) (hb hby d11_89) (fun _ _ => ⟨rfl, e31, (by decide : 2 + 0 ≤ _), (by decide : 8 + 0 ≤ _)⟩)
    dsimp only [Pt.U, Pt.locs, Pt.cells, Pt.slots] at X33 l33 y33 z33 st33 hQ33
    subst l33 y33 z33
    obtain ⟨hv33, hL33, e33q⟩ := hQ33
    subst hL33
    have N33 := Fr.app N31 (Fr.nil n0)
    rw [show Int32.ofNat [va, vb].length = (2 : Int32) from rfl] at hv33
    subst hv33
    have e33 : T33.heap = h24 := e33q
    have Sn_34 := (S_f.ext E24)
    obtain ⟨cq35, kq35, q35a, q35b, q35c⟩ := isOf hZ24 e33 En_26
    obtain ⟨_, _, ⟨T35, L35, k35, n35⟩, -, X35, ⟨Lc35, hQ35, l35, y35, z35⟩, st35⟩ := X33.virtualBack hx (y := (⟨"java/lang/String", "charAt", "(I)C"⟩ : MethodName)) (z := (⟨"java/lang/String", "charAt", "(I)C"⟩ : MethodName)) hown24 (mvT hZ24 (hw _ (List.mem_of_getElem? (i := 88) rfl))) (mvT hZ24 (hw _ (List.mem_of_getElem? (i := 89) rfl))) (notFace_of_selects (args := #[]) (mvT hZ24 (hw _ (List.mem_of_getElem? (i := 91) rfl)))) (mvT hZ24 (hw _ (List.mem_of_getElem? (i := 91) rfl))) (mvT hZ24 (hw _ (List.mem_of_getElem? (i := 90) rfl))) (by decide) (StrChars.Road.chN (W := 0) hZ24 (own_wC hw) (hw _ (List.mem_of_getElem? (i := 12) rfl)) (cs := [va, vb]) (i := 0) (j := (0 : Int32)) En_26 Fn_28 Fn_27 Vn_29 (own_cod2 ha hvb) (own_up (own_hp2 ha hvb)) Sn_30 hzc Sn_34 hfm (Nat.le_of_ble_eq_true rfl) (Nat.le_of_ble_eq_true rfl) rfl (by decide) (by decide)) q35a q35c (g := (mkF m 97 #[rv a1, rv x, iv (0 : Int32), .unset] [(.int (0 : Int32)), (.ref x)])) rfl (by rw [hml]; rfl) (Steps.refl _) (argsL := [(.int (0 : Int32))]) (rest := []) (lenOf pd_0 rfl) rfl (by show 2 * 0 + _ ≤ _; exact Nat.le_of_eq rfl) (hb hby d11_97) (fun _ _ => ⟨rfl, e33, (by decide : 2 + 0 ≤ _), (by decide : 8 + 0 ≤ _)⟩)
    dsimp only [Pt.U, Pt.locs, Pt.cells, Pt.slots] at X35 l35 y35 z35 st35 hQ35
    subst l35 y35 z35
    obtain ⟨hv35, hL35, e35q⟩ := hQ35
    subst hL35
    have N35 := Fr.app N33 (Fr.nil n0)
    rw [show ([va, vb] : List Int32).getD 0 0 = va from rfl] at hv35
    subst hv35
    have e35 : T35.heap = h24 := e35q
    obtain ⟨_, _, ⟨T36, L36, k36, n36⟩, -, X36, ⟨Lc36, hQ36, l36, y36, z36⟩, st36⟩ := Jvm.LawKit.callS X35 hx (y := (⟨"java/lang/Character", "isSurrogate", "(C)Z"⟩ : MethodName)) hown24 (mvT hZ24 (hw _ (List.mem_of_getElem? (i := 110) rfl))) (mvT hZ24 (hw _ (List.mem_of_getElem? (i := 111) rfl))) (mvT hZ24 (hw _ (List.mem_of_getElem? (i := 112) rfl))) (mvT hZ24 (hw _ (List.mem_of_getElem? (i := 113) rfl))) (by decide) (backOf (W := 0) (rmSur l Z a0 hw [] va h24 n0 Zs32 (own_sur ha)) hZ24 (hw _ (List.mem_of_getElem? (i := 113) rfl)) (hw _ (List.mem_of_getElem? (i := 112) rfl)) (by decide) (by decide)) (g := (mkF m 120 #[rv a1, rv x, iv (0 : Int32), iv va] [(.int va)])) rfl (by rw [hml]; rfl) (argsL := [(.int va)]) (rest := []) (lenOf pd_10 rfl) rfl (by show 2 * 0 + _ ≤ _; exact Nat.le_of_eq rfl) (hb hby d11_120) (fun _ _ => ⟨rfl, e35, (by decide : 2 + 0 ≤ _), (by decide : 8 + 0 ≤ _)⟩)
    dsimp only [Pt.U, Pt.locs, Pt.cells, Pt.slots] at X36 l36 y36 z36 st36 hQ36
    subst l36 y36 z36
    obtain ⟨rfl, N36q, e36q⟩ := hQ36
    have N36 := Fr.app N35 N36q
    have e36 : T36.heap = h24 := e36q
    obtain ⟨cq37, kq37, q37a, q37b, q37c⟩ := isOf hZ24 e36 En_26
    obtain ⟨_, _, ⟨T37, L37, k37, n37⟩, -, X37, ⟨Lc37, hQ37, l37, y37, z37⟩, st37⟩ := X36.virtualBack hx (y := (⟨"java/lang/String", "length", "()I"⟩ : MethodName)) (z := (⟨"java/lang/String", "length", "()I"⟩ : MethodName)) hown24 (mvT hZ24 (hw _ (List.mem_of_getElem? (i := 62) rfl))) (mvT hZ24 (hw _ (List.mem_of_getElem? (i := 63) rfl))) (notFace_of_selects (args := #[]) (mvT hZ24 (hw _ (List.mem_of_getElem? (i := 65) rfl)))) (mvT hZ24 (hw _ (List.mem_of_getElem? (i := 65) rfl))) (mvT hZ24 (hw _ (List.mem_of_getElem? (i := 64) rfl))) (by decide) (StrChars.Road.lenW (W := 1) hZ24 (own_wL hw) (hw _ (List.mem_of_getElem? (i := 12) rfl)) En_26 Fn_28 Fn_27 Vn_29 (own_cod2 ha hvb) (own_up (own_hp2 ha hvb)) Sn_30 hzc (Nat.le_of_ble_eq_true rfl) (by decide) (by decide)) q37a q37c (g := (mkF m 89 #[rv a1, rv x, iv (1 : Int32), iv va] [(.ref x), (.int (1 : Int32))])) rfl (by rw [hml]; rfl) (Steps.refl _) (argsL := []) (rest := [(.int (1 : Int32))]) (lenOf pd_3 rfl) rfl (by show 2 * 0 + _ ≤ _; exact Nat.le_of_eq rfl) (hb hby d11_89) (fun _ _ => ⟨rfl, e36, (by decide : 2 + 0 ≤ _), (by decide : 8 + 0 ≤ _)⟩)
    dsimp only [Pt.U, Pt.locs, Pt.cells, Pt.slots] at X37 l37 y37 z37 st37 hQ37
    subst l37 y37 z37
    obtain ⟨hv37, hL37, e37q⟩ := hQ37
    subst hL37
    have N37 := Fr.app N36 (Fr.nil n0)
    rw [show Int32.ofNat [va, vb].length = (2 : Int32) from rfl] at hv37
    subst hv37
    have e37 : T37.heap = h24 := e37q
    obtain ⟨cq38, kq38, q38a, q38b, q38c⟩ := isOf hZ24 e37 En_26
    obtain ⟨_, _, ⟨T38, L38, k38, n38⟩, -, X38, ⟨Lc38, hQ38, l38, y38, z38⟩, st38⟩ := X37.virtualBack hx (y := (⟨"java/lang/String", "charAt", "(I)C"⟩ : MethodName)) (z := (⟨"java/lang/String", "charAt", "(I)C"⟩ : MethodName)) hown24 (mvT hZ24 (hw _ (List.mem_of_getElem? (i := 88) rfl))) (mvT hZ24 (hw _ (List.mem_of_getElem? (i := 89) rfl))) (notFace_of_selects (args := #[]) (mvT hZ24 (hw _ (List.mem_of_getElem? (i := 91) rfl)))) (mvT hZ24 (hw _ (List.mem_of_getElem? (i := 91) rfl))) (mvT hZ24 (hw _ (List.mem_of_getElem? (i := 90) rfl))) (by decide) (StrChars.Road.chN (W := 0) hZ24 (own_wC hw) (hw _ (List.mem_of_getElem? (i := 12) rfl)) (cs := [va, vb]) (i := 1) (j := (1 : Int32)) En_26 Fn_28 Fn_27 Vn_29 (own_cod2 ha hvb) (own_up (own_hp2 ha hvb)) Sn_30 hzc Sn_34 hfm (Nat.le_of_ble_eq_true rfl) (Nat.le_of_ble_eq_true rfl) rfl (by decide) (by decide)) q38a q38c (g := (mkF m 97 #[rv a1, rv x, iv (1 : Int32), iv va] [(.int (1 : Int32)), (.ref x)])) rfl (by rw [hml]; rfl) (Steps.refl _) (argsL := [(.int (1 : Int32))]) (rest := []) (lenOf pd_0 rfl) rfl (by show 2 * 0 + _ ≤ _; exact Nat.le_of_eq rfl) (hb hby d11_97) (fun _ _ => ⟨rfl, e37, (by decide : 2 + 0 ≤ _), (by decide : 8 + 0 ≤ _)⟩)
    dsimp only [Pt.U, Pt.locs, Pt.cells, Pt.slots] at X38 l38 y38 z38 st38 hQ38
    subst l38 y38 z38
    obtain ⟨hv38, hL38, e38q⟩ := hQ38
    subst hL38
    have N38 := Fr.app N37 (Fr.nil n0)
    rw [show ([va, vb] : List Int32).getD 1 0 = vb from rfl] at hv38
    subst hv38
    have e38 : T38.heap = h24 := e38q
    obtain ⟨_, _, ⟨T39, L39, k39, n39⟩, -, X39, ⟨Lc39, hQ39, l39, y39, z39⟩, st39⟩ := Jvm.LawKit.callS X38 hx (y := (⟨"java/lang/Character", "isSurrogate", "(C)Z"⟩ : MethodName)) hown24 (mvT hZ24 (hw _ (List.mem_of_getElem? (i := 110) rfl))) (mvT hZ24 (hw _ (List.mem_of_getElem? (i := 111) rfl))) (mvT hZ24 (hw _ (List.mem_of_getElem? (i := 112) rfl))) (mvT hZ24 (hw _ (List.mem_of_getElem? (i := 113) rfl))) (by decide) (backOf (W := 0) (rmSur l Z a0 hw [] vb h24 n0 Zs32 (own_sur hvb)) hZ24 (hw _ (List.mem_of_getElem? (i := 113) rfl)) (hw _ (List.mem_of_getElem? (i := 112) rfl)) (by decide) (by decide)) (g := (mkF m 120 #[rv a1, rv x, iv (1 : Int32), iv vb] [(.int vb)])) rfl (by rw [hml]; rfl) (argsL := [(.int vb)]) (rest := []) (lenOf pd_10 rfl) rfl (by show 2 * 0 + _ ≤ _; exact Nat.le_of_eq rfl) (hb hby d11_120) (fun _ _ => ⟨rfl, e38, (by decide : 2 + 0 ≤ _), (by decide : 8 + 0 ≤ _)⟩)
    dsimp only [Pt.U, Pt.locs, Pt.cells, Pt.slots] at X39 l39 y39 z39 st39 hQ39
    subst l39 y39 z39
    obtain ⟨rfl, N39q, e39q⟩ := hQ39
    have N39 := Fr.app N38 N39q
    have e39 : T39.heap = h24 := e39q
    obtain ⟨cq40, kq40, q40a, q40b, q40c⟩ := isOf hZ24 e39 En_26
    obtain ⟨_, _, ⟨T40, L40, k40, n40⟩, -, X40, ⟨Lc40, hQ40, l40, y40, z40⟩, st40⟩ := X39.virtualBack hx (y := (⟨"java/lang/String", "length", "()I"⟩ : MethodName)) (z := (⟨"java/lang/String", "length", "()I"⟩ : MethodName)) hown24 (mvT hZ24 (hw _ (List.mem_of_getElem? (i := 62) rfl))) (mvT hZ24 (hw _ (List.mem_of_getElem? (i := 63) rfl))) (notFace_of_selects (args := #[]) (mvT hZ24 (hw _ (List.mem_of_getElem? (i := 65) rfl)))) (mvT hZ24 (hw _ (List.mem_of_getElem? (i := 65) rfl))) (mvT hZ24 (hw _ (List.mem_of_getElem? (i := 64) rfl))) (by decide) (StrChars.Road.lenW (W := 1) hZ24 (own_wL hw) (hw _ (List.mem_of_getElem? (i := 12) rfl)) En_26 Fn_28 Fn_27 Vn_29 (own_cod2 ha hvb) (own_up (own_hp2 ha hvb)) Sn_30 hzc (Nat.le_of_ble_eq_true rfl) (by decide) (by decide)) q40a q40c (g := (mkF m 89 #[rv a1, rv x, iv (2 : Int32), iv vb] [(.ref x), (.int (2 : Int32))])) rfl (by rw [hml]; rfl) (Steps.refl _) (argsL := []) (rest := [(.int (2 : Int32))]) (lenOf pd_3 rfl) rfl (by show 2 * 0 + _ ≤ _; exact Nat.le_of_eq rfl) (hb hby d11_89) (fun _ _ => ⟨rfl, e39, (by decide : 2 + 0 ≤ _), (by decide : 8 + 0 ≤ _)⟩)
    dsimp only [Pt.U, Pt.locs, Pt.cells, Pt.slots] at X40 l40 y40 z40 st40 hQ40
    subst l40 y40 z40
    obtain ⟨hv40, hL40, e40q⟩ := hQ40
    subst hL40
    have N40 := Fr.app N39 (Fr.nil n0)
    rw [show Int32.ofNat [va, vb].length = (2 : Int32) from rfl] at hv40
    subst hv40
    have e40 : T40.heap = h24 := e40q
    have pre41 : ∀ tg, own_S p e below T40 m 151 #[rv a1, rv x, iv (2 : Int32), iv vb] [(.ref x)] tg → Steps p.tables e below (s₁.setTop (entryFrame m #[(.ref a1), (.ref x)] 4)) tg := fun tg k => pre23 tg (by
      show own_S p e below T22 m 59 #[rv a1, rv x, .unset, .unset] [(.ref x)] _
      refine st24 _ ?_
      refine st31.trans ?_
      refine XS.ifYes X31.here hx rfl (pc0 := 64) (pc' := 85) rfl (hb hby d11_64) rfl ((if0 _ _).trans (teq (by decide : (0 : Int32) = (0 : Int32))).1) (by decide) (by decide) ?_
      show own_S p e below T31 m 85 #[rv a1, rv x, .unset, .unset] [] _
      refine XS.iconst X31.here hx rfl (hb hby d11_85) ?_
      refine XS.istoreN X31.here hx rfl (hb hby d11_86) rfl (l' := #[rv a1, rv x, iv (0 : Int32), .unset]) rfl ?_
      refine XS.iloadN X31.here hx rfl (hb hby d11_87) rfl ?_
      show own_S p e below T31 m 88 #[rv a1, rv x, iv (0 : Int32), .unset] [(.int (0 : Int32))] _
      refine XS.aloadN X31.here hx rfl (hb hby d11_88) rfl rfl ?_
      refine st33.trans ?_
      refine XS.icmpNo X33.here hx rfl (hb hby d11_92) rfl (tlt (by decide : (0 : Int32) < (2 : Int32))).2.1 ?_
      show own_S p e below T33 m 95 #[rv a1, rv x, iv (0 : Int32), .unset] [] _
      refine XS.aloadN X33.here hx rfl (hb hby d11_95) rfl rfl ?_
      refine XS.iloadN X33.here hx rfl (hb hby d11_96) rfl ?_
      refine st35.trans ?_
      show own_S p e below T35 m 100 #[rv a1, rv x, iv (0 : Int32), .unset] [(.int va)] _
      refine XS.istoreN X35.here hx rfl (hb hby d11_100) rfl (l' := #[rv a1, rv x, iv (0 : Int32), iv va]) rfl ?_
      refine XS.iloadN X35.here hx rfl (hb hby d11_101) rfl ?_
      refine XS.ifYes X35.here hx rfl (pc0 := 102) (pc' := 119) rfl (hb hby d11_102) rfl ((if0 _ _).trans (feq (own_ne0 ha)).2) (by decide) (by decide) ?_
      show own_S p e below T35 m 119 #[rv a1, rv x, iv (0 : Int32), iv va] [] _
      refine XS.iloadN X35.here hx rfl (hb hby d11_119) rfl ?_
      refine st36 _ ?_
      refine XS.ifYes X36.here hx rfl (pc0 := 123) (pc' := 144) rfl (hb hby d11_123) rfl ((if0 _ _).trans (teq (by decide : (0 : Int32) = (0 : Int32))).1) (by decide) (by decide) ?_
      show own_S p e below T36 m 144 #[rv a1, rv x, iv (0 : Int32), iv va] [] _
      refine XS.iinc X36.here hx rfl (hb hby d11_144) rfl (l' := #[rv a1, rv x, iv (1 : Int32), iv va]) rfl ?_
      refine XS.goto X36.here hx rfl (pc0 := 147) (pc' := 87) rfl (hb hby d11_147) (by decide) (by decide) ?_
      refine XS.iloadN X36.here hx rfl (hb hby d11_87) rfl ?_
      show own_S p e below T36 m 88 #[rv a1, rv x, iv (1 : Int32), iv va] [(.int (1 : Int32))] _
      refine XS.aloadN X36.here hx rfl (hb hby d11_88) rfl rfl ?_
      refine st37.trans ?_
      refine XS.icmpNo X37.here hx rfl (hb hby d11_92) rfl (tlt (by decide : (1 : Int32) < (2 : Int32))).2.1 ?_
      show own_S p e below T37 m 95 #[rv a1, rv x, iv (1 : Int32), iv va] [] _
      refine XS.aloadN X37.here hx rfl (hb hby d11_95) rfl rfl ?_
      refine XS.iloadN X37.here hx rfl (hb hby d11_96) rfl ?_
      refine st38.trans ?_
      show own_S p e below T38 m 100 #[rv a1, rv x, iv (1 : Int32), iv va] [(.int vb)] _
      refine XS.istoreN X38.here hx rfl (hb hby d11_100) rfl (l' := #[rv a1, rv x, iv (1 : Int32), iv vb]) rfl ?_
      refine XS.iloadN X38.here hx rfl (hb hby d11_101) rfl ?_
      refine XS.ifYes X38.here hx rfl (pc0 := 102) (pc' := 119) rfl (hb hby d11_102) rfl ((if0 _ _).trans (feq (own_ne0 hvb)).2) (by decide) (by decide) ?_
      show own_S p e below T38 m 119 #[rv a1, rv x, iv (1 : Int32), iv vb] [] _
      refine XS.iloadN X38.here hx rfl (hb hby d11_119) rfl ?_
      refine st39 _ ?_
      refine XS.ifYes X39.here hx rfl (pc0 := 123) (pc' := 144) rfl (hb hby d11_123) rfl ((if0 _ _).trans (teq (by decide : (0 : Int32) = (0 : Int32))).1) (by decide) (by decide) ?_
      show own_S p e below T39 m 144 #[rv a1, rv x, iv (1 : Int32), iv vb] [] _
      refine XS.iinc X39.here hx rfl (hb hby d11_144) rfl (l' := #[rv a1, rv x, iv (2 : Int32), iv vb]) rfl ?_
      refine XS.goto X39.here hx rfl (pc0 := 147) (pc' := 87) rfl (hb hby d11_147) (by decide) (by decide) ?_
      refine XS.iloadN X39.here hx rfl (hb hby d11_87) rfl ?_
      show own_S p e below T39 m 88 #[rv a1, rv x, iv (2 : Int32), iv vb] [(.int (2 : Int32))] _
      refine XS.aloadN X39.here hx rfl (hb hby d11_88) rfl rfl ?_
      refine st40.trans ?_
      refine XS.icmpYes X40.here hx rfl (pc0 := 92) (pc' := 150) rfl (hb hby d11_92) rfl (flt (by decide : ¬ ((2 : Int32) < (2 : Int32)))).2.1 (by decide) (by decide) ?_
      show own_S p e below T40 m 150 #[rv a1, rv x, iv (2 : Int32), iv vb] [] _
      refine XS.aloadN X40.here hx rfl (hb hby d11_150) rfl rfl ?_
      exact k)
    obtain ⟨fs, hr, hrun, hended, hEnd⟩ := Stand.leaveW (s := s) (vm₁ := T24.vm) X40 hS24 (show _ ≤ T40.heap.size by rw [e40]; exact hk24) (v := some (.ref x)) (fun h => by rw [Bd.returns] at h; cases h)
    refine ⟨_, _, pre41 _ ?_, hrun, hended, _, _, rfl, ?_, ?_, hEnd.1, hEnd.2.1, hEnd.2.2.1, hEnd.2.2.2.mono (by decide) (by decide)⟩
    · show own_S p e below T40 m 151 #[rv a1, rv x, iv (2 : Int32), iv vb] [(.ref x)] _
      exact retOut X40 hx (t := (.object "java/lang/String")) Bd.returns rfl (Or.inr (Or.inr (Or.inr (Or.inr ⟨rfl, rfl, rfl⟩)))) (hb hby d11_151) hr
    · show QChk Z a1 x t k [va, vb] zc fm h0 n0 _ T40.heap _
      rw [e40]
      exact ⟨rfl, N40, ((Keep.refl h0 []).ext E24)⟩
    · show CHr Z consts_1 s.vm s.heap T40.vm T40.heap
      rw [hh]
      rw [e40]
      exact R25.trans (CHv.at (s := s) (vm0 := T24.vm) X40 hZ24 (own_EL hw) R25.1)
theorem ef_Same (m : MethodId) (x : Addr) (y : Addr) : entryFrame m #[(.ref x), (.ref y)] 2 = mkF m 0 #[rv x, rv y] [] := by first | (simp [entryFrame, mkF, argsToLocals, Value.category]; done) | rfl
def QSame (Z : State) (x t : Addr) (k : ClassId) (cz : List Int32) (y u : Addr) (ku : ClassId) (dz : List Int32) (zc : Int32) (fm : Value) (h0 : Heap) (n0 : Nat) (v : Option Value) (h : Heap) (L : List Loc) : Prop := v = some (.int (if cz = dz then 1 else 0)) ∧ Fr n0 L ∧ h = h0
theorem d25_0 : decode method_5_code 0 = .ok (.aload_n 0, 1) := by decide +kernel
theorem d25_1 : decode method_5_code 1 = .ok (.invokevirtual 22, 3) := by decide +kernel
theorem d25_4 : decode method_5_code 4 = .ok (.aload_n 1, 1) := by decide +kernel
theorem d25_5 : decode method_5_code 5 = .ok (.invokevirtual 22, 3) := by decide +kernel
theorem d25_8 : decode method_5_code 8 = .ok (.if_icmp .eq 5, 3) := by decide +kernel
theorem d25_13 : decode method_5_code 13 = .ok (.aload_n 0, 1) := by decide +kernel
theorem d25_14 : decode method_5_code 14 = .ok (.iconst 0, 1) := by decide +kernel
theorem d25_15 : decode method_5_code 15 = .ok (.invokevirtual 26, 3) := by decide +kernel
theorem d25_18 : decode method_5_code 18 = .ok (.aload_n 1, 1) := by decide +kernel
theorem d25_19 : decode method_5_code 19 = .ok (.iconst 0, 1) := by decide +kernel
theorem d25_20 : decode method_5_code 20 = .ok (.invokevirtual 26, 3) := by decide +kernel
theorem d25_23 : decode method_5_code 23 = .ok (.if_icmp .eq 5, 3) := by decide +kernel
theorem d25_28 : decode method_5_code 28 = .ok (.aload_n 0, 1) := by decide +kernel
theorem d25_29 : decode method_5_code 29 = .ok (.invokevirtual 22, 3) := by decide +kernel
theorem d25_32 : decode method_5_code 32 = .ok (.iconst 2, 1) := by decide +kernel
theorem d25_33 : decode method_5_code 33 = .ok (.if_icmp .ge 5, 3) := by decide +kernel
theorem d25_36 : decode method_5_code 36 = .ok (.iconst 1, 1) := by decide +kernel
theorem d25_37 : decode method_5_code 37 = .ok (.ireturn, 1) := by decide +kernel
theorem d25_26 : decode method_5_code 26 = .ok (.iconst 0, 1) := by decide +kernel
theorem d25_27 : decode method_5_code 27 = .ok (.ireturn, 1) := by decide +kernel
theorem d25_11 : decode method_5_code 11 = .ok (.iconst 0, 1) := by decide +kernel
theorem d25_12 : decode method_5_code 12 = .ok (.ireturn, 1) := by decide +kernel
theorem d25_38 : decode method_5_code 38 = .ok (.aload_n 0, 1) := by decide +kernel
theorem d25_39 : decode method_5_code 39 = .ok (.iconst 1, 1) := by decide +kernel
theorem d25_40 : decode method_5_code 40 = .ok (.invokevirtual 26, 3) := by decide +kernel
theorem d25_43 : decode method_5_code 43 = .ok (.aload_n 1, 1) := by decide +kernel
theorem d25_44 : decode method_5_code 44 = .ok (.iconst 1, 1) := by decide +kernel
theorem d25_45 : decode method_5_code 45 = .ok (.invokevirtual 26, 3) := by decide +kernel
theorem d25_48 : decode method_5_code 48 = .ok (.if_icmp .ne 7, 3) := by decide +kernel
theorem d25_51 : decode method_5_code 51 = .ok (.iconst 1, 1) := by decide +kernel
theorem d25_52 : decode method_5_code 52 = .ok (.goto 4, 3) := by decide +kernel
theorem d25_56 : decode method_5_code 56 = .ok (.ireturn, 1) := by decide +kernel
theorem d25_55 : decode method_5_code 55 = .ok (.iconst 0, 1) := by decide +kernel
set_option maxRecDepth 65536 in
set_option maxHeartbeats 40000000 in
theorem rmSame (l : Launch) (Z : State) (a0 : Array Value) (hw : ∀ d ∈ tables_1, d.before a0 Z = true) (ws : List Jvm.Cond) (x t : Addr) (k : ClassId) (cz : List Int32) (y u : Addr) (ku : ClassId) (dz : List Int32) (zc : Int32) (fm : Value) (h0 : Heap) (n0 : Nat) (Z0 : n0 ≤ h0.size) (E_x : Exa Z h0 x "java/lang/String") (C_x : Fld Z h0 x "java/lang/String" "coder" "B" (.int 0)) (V_x : Fld Z h0 x "java/lang/String" "value" "[B" (.ref t)) (A_x : Arv Z h0 t k .byte (Int32.ofNat cz.length) (own_bs cz) (.int 0)) (E_y : Exa Z h0 y "java/lang/String") (C_y : Fld Z h0 y "java/lang/String" "coder" "B" (.int 0)) (V_y : Fld Z h0 y "java/lang/String" "value" "[B" (.ref u)) (A_y : Arv Z h0 u ku .byte (Int32.ofNat dz.length) (own_bs dz) (.int 0)) (S_c : Sta Z h0 "java/lang/String" "COMPACT_STRINGS" "Z" (.int zc)) (hzc : ¬ zc = 0) (S_f : Sta Z h0 "jdk/internal/util/Preconditions" "SIOOBE_FORMATTER" "Ljava/util/function/BiFunction;" fm) (hfm : fm.isRef = true) (hcs : own_ok cz) (hds : own_ok dz) :
    MetFree l (⟨"com/example/garter/garter/schema/TableNameEqualsPinLaw", "same", "(Ljava/lang/String;Ljava/lang/String;)Z"⟩ : MethodName) (head1 (Jvm.Cond.code (⟨"com/example/garter/garter/schema/TableNameEqualsPinLaw", "same", "(Ljava/lang/String;Ljava/lang/String;)Z"⟩ : MethodName) method_5_code 2 (some .boolean) :: ws) ({ frames := 4, cells := 0, slots := 0, locals := 60 } : Room)) (fun a U => a = #[(.ref x), (.ref y)] ∧ Z.Warmed39 U.vm ∧ U.heap = h0) (fun _ _ _ _ _ => True) (fun _ U o U' => ∃ v L, o = .returned v ∧ QSame Z x t k cz y u ku dz zc fm h0 n0 v U'.heap L ∧ FrameEnd U o U' L ({ frames := 4, cells := 0, slots := 0, locals := 60 } : Room).cells ({ frames := 4, cells := 0, slots := 0, locals := 60 } : Room).slots) := by
  refine MetFree.of_bodySF (plainFor_of_name pn_0) hisR ?_
  intro p e s m args below meth c s₁ Bd hml0 hP hK
  obtain ⟨rfl, hZ, hh⟩ := hP
  have hx := Bd.exec
  have hby := Bd.bytes
  have hml : c.maxLocals = 2 := hml0
  have hown : s.vm.findClass "com/example/garter/garter/schema/TableNameEqualsPinLaw" = some m.cls := findClass_of_methodNamed Bd.named
  have hnm := (name_of_methodNamed Bd.named Bd.method).1
  have X0 : Stand p l e ({ frames := 4, cells := 0, slots := 0, locals := 60 } : Room) s m #[(.ref x), (.ref y)] below meth c s₁ [] 0 0 := Stand.of_body Bd
  have e0 : s₁.heap = h0 := by rw [← hh, Bd.state]; rfl
  have N0 := Fr.nil n0
  have pre0 : ∀ tg, Steps p.tables e below (s₁.setTop (mkF m 0 #[rv x, rv y] [])) tg → Steps p.tables e below (s₁.setTop (entryFrame m #[(.ref x), (.ref y)] 2)) tg := fun tg k => castTop (ef_Same m x y) k
  rcases own_cs hcs with ⟨va, rfl, ha, hn⟩ | ⟨va, vb, rfl, ha, hvb, hn⟩ <;> rcases own_cs hds with ⟨wa, rfl, ja, jn⟩ | ⟨wa, wb, rfl, ja, jb, jn⟩
  ·  -- case
    have A_x' : Arv Z h0 t k .byte (1 : Int32) [(.int va.toInt8.toInt32)] (.int 0) := A_x
    have A_y' : Arv Z h0 u ku .byte (1 : Int32) [(.int wa.toInt8.toInt32)] (.int 0) := A_y
    obtain ⟨cq1, kq1, q1a, q1b, q1c⟩ := isOf hZ e0 E_x
    obtain ⟨_, _, ⟨T1, L1, k1, n1⟩, -, X1, ⟨Lc1, hQ1, l1, y1, z1⟩, st1⟩ := X0.virtualBack hx (y := (⟨"java/lang/String", "length", "()I"⟩ : MethodName)) (z := (⟨"java/lang/String", "length", "()I"⟩ : MethodName)) hown (mvT hZ (hw _ (List.mem_of_getElem? (i := 123) rfl))) (mvT hZ (hw _ (List.mem_of_getElem? (i := 63) rfl))) (notFace_of_selects (args := #[]) (mvT hZ (hw _ (List.mem_of_getElem? (i := 65) rfl)))) (mvT hZ (hw _ (List.mem_of_getElem? (i := 65) rfl))) (mvT hZ (hw _ (List.mem_of_getElem? (i := 64) rfl))) (by decide) (StrChars.Road.lenW (W := 0) hZ (own_wL hw) (hw _ (List.mem_of_getElem? (i := 12) rfl)) E_x V_x C_x A_x' (own_cod1 ha) (own_up (own_hp1 ha)) S_c hzc (Nat.le_of_ble_eq_true rfl) (by decide) (by decide)) q1a q1c (g := (mkF m 1 #[rv x, rv y] [(.ref x)])) rfl (by rw [hml]; rfl) (Steps.refl _) (argsL := []) (rest := []) (lenOf pd_3 rfl) rfl (by show 2 * 0 + _ ≤ _; exact Nat.le_of_eq rfl) (hb hby d25_1) (fun _ _ => ⟨rfl, e0, (by decide : 0 + 0 ≤ _), (by decide : 0 + 0 ≤ _)⟩)
    dsimp only [Pt.U, Pt.locs, Pt.cells, Pt.slots] at X1 l1 y1 z1 st1 hQ1
    subst l1 y1 z1
    obtain ⟨hv1, hL1, e1q⟩ := hQ1
    subst hL1
    have N1 := Fr.app N0 (Fr.nil n0)
    rw [show Int32.ofNat [va].length = (1 : Int32) from rfl] at hv1
    subst hv1
    have e1 : T1.heap = h0 := e1q
    obtain ⟨cq2, kq2, q2a, q2b, q2c⟩ := isOf hZ e1 E_y
    obtain ⟨_, _, ⟨T2, L2, k2, n2⟩, -, X2, ⟨Lc2, hQ2, l2, y2, z2⟩, st2⟩ := X1.virtualBack hx (y := (⟨"java/lang/String", "length", "()I"⟩ : MethodName)) (z := (⟨"java/lang/String", "length", "()I"⟩ : MethodName)) hown (mvT hZ (hw _ (List.mem_of_getElem? (i := 123) rfl))) (mvT hZ (hw _ (List.mem_of_getElem? (i := 63) rfl))) (notFace_of_selects (args := #[]) (mvT hZ (hw _ (List.mem_of_getElem? (i := 65) rfl)))) (mvT hZ (hw _ (List.mem_of_getElem? (i := 65) rfl))) (mvT hZ (hw _ (List.mem_of_getElem? (i := 64) rfl))) (by decide) (StrChars.Road.lenW (W := 1) hZ (own_wL hw) (hw _ (List.mem_of_getElem? (i := 12) rfl)) E_y V_y C_y A_y' (own_cod1 ja) (own_up (own_hp1 ja)) S_c hzc (Nat.le_of_ble_eq_true rfl) (by decide) (by decide)) q2a q2c (g := (mkF m 5 #[rv x, rv y] [(.ref y), (.int (1 : Int32))])) rfl (by rw [hml]; rfl) (Steps.refl _) (argsL := []) (rest := [(.int (1 : Int32))]) (lenOf pd_3 rfl) rfl (by show 2 * 0 + _ ≤ _; exact Nat.le_of_eq rfl) (hb hby d25_5) (fun _ _ => ⟨rfl, e1, (by decide : 0 + 0 ≤ _), (by decide : 0 + 0 ≤ _)⟩)
    dsimp only [Pt.U, Pt.locs, Pt.cells, Pt.slots] at X2 l2 y2 z2 st2 hQ2
    subst l2 y2 z2
    obtain ⟨hv2, hL2, e2q⟩ := hQ2
    subst hL2
    have N2 := Fr.app N1 (Fr.nil n0)
    rw [show Int32.ofNat [wa].length = (1 : Int32) from rfl] at hv2
    subst hv2
    have e2 : T2.heap = h0 := e2q
    obtain ⟨cq3, kq3, q3a, q3b, q3c⟩ := isOf hZ e2 E_x
    obtain ⟨_, _, ⟨T3, L3, k3, n3⟩, -, X3, ⟨Lc3, hQ3, l3, y3, z3⟩, st3⟩ := X2.virtualBack hx (y := (⟨"java/lang/String", "charAt", "(I)C"⟩ : MethodName)) (z := (⟨"java/lang/String", "charAt", "(I)C"⟩ : MethodName)) hown (mvT hZ (hw _ (List.mem_of_getElem? (i := 124) rfl))) (mvT hZ (hw _ (List.mem_of_getElem? (i := 89) rfl))) (notFace_of_selects (args := #[]) (mvT hZ (hw _ (List.mem_of_getElem? (i := 91) rfl)))) (mvT hZ (hw _ (List.mem_of_getElem? (i := 91) rfl))) (mvT hZ (hw _ (List.mem_of_getElem? (i := 90) rfl))) (by decide) (StrChars.Road.chN (W := 0) hZ (own_wC hw) (hw _ (List.mem_of_getElem? (i := 12) rfl)) (cs := [va]) (i := 0) (j := (0 : Int32)) E_x V_x C_x A_x' (own_cod1 ha) (own_up (own_hp1 ha)) S_c hzc S_f hfm (Nat.le_of_ble_eq_true rfl) (Nat.le_of_ble_eq_true rfl) rfl (by decide) (by decide)) q3a q3c (g := (mkF m 15 #[rv x, rv y] [(.int (0 : Int32)), (.ref x)])) rfl (by rw [hml]; rfl) (Steps.refl _) (argsL := [(.int (0 : Int32))]) (rest := []) (lenOf pd_0 rfl) rfl (by show 2 * 0 + _ ≤ _; exact Nat.le_of_eq rfl) (hb hby d25_15) (fun _ _ => ⟨rfl, e2, (by decide : 0 + 0 ≤ _), (by decide : 0 + 0 ≤ _)⟩)
    dsimp only [Pt.U, Pt.locs, Pt.cells, Pt.slots] at X3 l3 y3 z3 st3 hQ3
    subst l3 y3 z3
    obtain ⟨hv3, hL3, e3q⟩ := hQ3
    subst hL3
    have N3 := Fr.app N2 (Fr.nil n0)
    rw [show ([va] : List Int32).getD 0 0 = va from rfl] at hv3
    subst hv3
    have e3 : T3.heap = h0 := e3q
    obtain ⟨cq4, kq4, q4a, q4b, q4c⟩ := isOf hZ e3 E_y
    obtain ⟨_, _, ⟨T4, L4, k4, n4⟩, -, X4, ⟨Lc4, hQ4, l4, y4, z4⟩, st4⟩ := X3.virtualBack hx (y := (⟨"java/lang/String", "charAt", "(I)C"⟩ : MethodName)) (z := (⟨"java/lang/String", "charAt", "(I)C"⟩ : MethodName)) hown (mvT hZ (hw _ (List.mem_of_getElem? (i := 124) rfl))) (mvT hZ (hw _ (List.mem_of_getElem? (i := 89) rfl))) (notFace_of_selects (args := #[]) (mvT hZ (hw _ (List.mem_of_getElem? (i := 91) rfl)))) (mvT hZ (hw _ (List.mem_of_getElem? (i := 91) rfl))) (mvT hZ (hw _ (List.mem_of_getElem? (i := 90) rfl))) (by decide) (StrChars.Road.chN (W := 1) hZ (own_wC hw) (hw _ (List.mem_of_getElem? (i := 12) rfl)) (cs := [wa]) (i := 0) (j := (0 : Int32)) E_y V_y C_y A_y' (own_cod1 ja) (own_up (own_hp1 ja)) S_c hzc S_f hfm (Nat.le_of_ble_eq_true rfl) (Nat.le_of_ble_eq_true rfl) rfl (by decide) (by decide)) q4a q4c (g := (mkF m 20 #[rv x, rv y] [(.int (0 : Int32)), (.ref y), (.int va)])) rfl (by rw [hml]; rfl) (Steps.refl _) (argsL := [(.int (0 : Int32))]) (rest := [(.int va)]) (lenOf pd_0 rfl) rfl (by show 2 * 0 + _ ≤ _; exact Nat.le_of_eq rfl) (hb hby d25_20) (fun _ _ => ⟨rfl, e3, (by decide : 0 + 0 ≤ _), (by decide : 0 + 0 ≤ _)⟩)
    dsimp only [Pt.U, Pt.locs, Pt.cells, Pt.slots] at X4 l4 y4 z4 st4 hQ4
    subst l4 y4 z4
    obtain ⟨hv4, hL4, e4q⟩ := hQ4
    subst hL4
    have N4 := Fr.app N3 (Fr.nil n0)
    rw [show ([wa] : List Int32).getD 0 0 = wa from rfl] at hv4
    subst hv4
    have e4 : T4.heap = h0 := e4q
    have pre6 : ∀ tg, own_S p e below T4 m 23 #[rv x, rv y] [(.int wa), (.int va)] tg → Steps p.tables e below (s₁.setTop (entryFrame m #[(.ref x), (.ref y)] 2)) tg := fun tg k => pre0 tg (by
      show own_S p e below s₁ m 0 #[rv x, rv y] [] _
      refine XS.aloadN X0.here hx rfl (hb hby d25_0) rfl rfl ?_
      refine st1.trans ?_
      refine XS.aloadN X1.here hx rfl (hb hby d25_4) rfl rfl ?_
      show own_S p e below T1 m 5 #[rv x, rv y] [(.ref y), (.int (1 : Int32))] _
      refine st2.trans ?_
      refine XS.icmpYes X2.here hx rfl (pc0 := 8) (pc' := 13) rfl (hb hby d25_8) rfl (teq (by decide : (1 : Int32) = (1 : Int32))).1 (by decide) (by decide) ?_
      refine XS.aloadN X2.here hx rfl (hb hby d25_13) rfl rfl ?_
      show own_S p e below T2 m 14 #[rv x, rv y] [(.ref x)] _
      refine XS.iconst X2.here hx rfl (hb hby d25_14) ?_
      refine st3.trans ?_
      refine XS.aloadN X3.here hx rfl (hb hby d25_18) rfl rfl ?_
      show own_S p e below T3 m 19 #[rv x, rv y] [(.ref y), (.int va)] _
      refine XS.iconst X3.here hx rfl (hb hby d25_19) ?_
      refine st4.trans ?_
      exact k)
    by_cases hc23_5 : va = wa
    ·  -- pc 23 yes
      obtain ⟨cq7, kq7, q7a, q7b, q7c⟩ := isOf hZ e4 E_x
      obtain ⟨_, _, ⟨T7, L7, k7, n7⟩, -, X7, ⟨Lc7, hQ7, l7, y7, z7⟩, st7⟩ := X4.virtualBack hx (y := (⟨"java/lang/String", "length", "()I"⟩ : MethodName)) (z := (⟨"java/lang/String", "length", "()I"⟩ : MethodName)) hown (mvT hZ (hw _ (List.mem_of_getElem? (i := 123) rfl))) (mvT hZ (hw _ (List.mem_of_getElem? (i := 63) rfl))) (notFace_of_selects (args := #[]) (mvT hZ (hw _ (List.mem_of_getElem? (i := 65) rfl)))) (mvT hZ (hw _ (List.mem_of_getElem? (i := 65) rfl))) (mvT hZ (hw _ (List.mem_of_getElem? (i := 64) rfl))) (by decide) (StrChars.Road.lenW (W := 0) hZ (own_wL hw) (hw _ (List.mem_of_getElem? (i := 12) rfl)) E_x V_x C_x A_x' (own_cod1 ha) (own_up (own_hp1 ha)) S_c hzc (Nat.le_of_ble_eq_true rfl) (by decide) (by decide)) q7a q7c (g := (mkF m 29 #[rv x, rv y] [(.ref x)])) rfl (by rw [hml]; rfl) (Steps.refl _) (argsL := []) (rest := []) (lenOf pd_3 rfl) rfl (by show 2 * 0 + _ ≤ _; exact Nat.le_of_eq rfl) (hb hby d25_29) (fun _ _ => ⟨rfl, e4, (by decide : 0 + 0 ≤ _), (by decide : 0 + 0 ≤ _)⟩)
      dsimp only [Pt.U, Pt.locs, Pt.cells, Pt.slots] at X7 l7 y7 z7 st7 hQ7
      subst l7 y7 z7
      obtain ⟨hv7, hL7, e7q⟩ := hQ7
      subst hL7
      have N7 := Fr.app N4 (Fr.nil n0)
      rw [show Int32.ofNat [va].length = (1 : Int32) from rfl] at hv7
      subst hv7
      have e7 : T7.heap = h0 := e7q
      have pre8 : ∀ tg, own_S p e below T7 m 37 #[rv x, rv y] [(.int (1 : Int32))] tg → Steps p.tables e below (s₁.setTop (entryFrame m #[(.ref x), (.ref y)] 2)) tg := fun tg k => pre6 tg (by
        show own_S p e below T4 m 23 #[rv x, rv y] [(.int wa), (.int va)] _
        refine XS.icmpYes X4.here hx rfl (pc0 := 23) (pc' := 28) rfl (hb hby d25_23) rfl (teq hc23_5).1 (by decide) (by decide) ?_
        refine XS.aloadN X4.here hx rfl (hb hby d25_28) rfl rfl ?_
        refine st7.trans ?_
        show own_S p e below T7 m 32 #[rv x, rv y] [(.int (1 : Int32))] _
        refine XS.iconst X7.here hx rfl (hb hby d25_32) ?_
        refine XS.icmpNo X7.here hx rfl (hb hby d25_33) rfl (tlt (by decide : (1 : Int32) < (2 : Int32))).2.1 ?_
        refine XS.iconst X7.here hx rfl (hb hby d25_36) ?_
        exact k)
      obtain ⟨fs, hr, hrun, hended, hW, hsame⟩ := X7.leave (v := some (.int (nar .boolean (1 : Int32)))) (fun h => by rw [Bd.returns] at h; cases h)
      refine ⟨_, _, pre8 _ ?_, hrun, hended, _, _, rfl, ?_, ⟨_, rfl⟩, hW, hsame.mono (by decide) (by decide)⟩
      · show own_S p e below T7 m 37 #[rv x, rv y] [(.int (1 : Int32))] _
        exact retN X7 hx (t := .boolean) Bd.returns (by simp) (hb hby d25_37) hr
      · show QSame Z x t k [va] y u ku [wa] zc fm h0 n0 _ T7.heap _
        rw [e7]
        refine ⟨?_, N7, rfl⟩
        subst hc23_5
        rw [if_pos rfl]; rfl
    ·  -- pc 23 no
      have pre9 : ∀ tg, own_S p e below T4 m 27 #[rv x, rv y] [(.int (0 : Int32))] tg → Steps p.tables e below (s₁.setTop (entryFrame m #[(.ref x), (.ref y)] 2)) tg := fun tg k => pre6 tg (by
        show own_S p e below T4 m 23 #[rv x, rv y] [(.int wa), (.int va)] _
        refine XS.icmpNo X4.here hx rfl (hb hby d25_23) rfl (feq hc23_5).1 ?_
        refine XS.iconst X4.here hx rfl (hb hby d25_26) ?_
        exact k)
      obtain ⟨fs, hr, hrun, hended, hW, hsame⟩ := X4.leave (v := some (.int (nar .boolean (0 : Int32)))) (fun h => by rw [Bd.returns] at h; cases h)
      refine ⟨_, _, pre9 _ ?_, hrun, hended, _, _, rfl, ?_, ⟨_, rfl⟩, hW, hsame.mono (by decide) (by decide)⟩
      · show own_S p e below T4 m 27 #[rv x, rv y] [(.int (0 : Int32))] _
        exact retN X4 hx (t := .boolean) Bd.returns (by simp) (hb hby d25_27) hr
      · show QSame Z x t k [va] y u ku [wa] zc fm h0 n0 _ T4.heap _
        rw [e4]
        refine ⟨?_, N4, rfl⟩
        rw [if_neg (fun q => hc23_5 (by injections))]; rfl
  ·  -- case
    have A_x' : Arv Z h0 t k .byte (1 : Int32) [(.int va.toInt8.toInt32)] (.int 0) := A_x
    have A_y' : Arv Z h0 u ku .byte (2 : Int32) [(.int wa.toInt8.toInt32), (.int wb.toInt8.toInt32)] (.int 0) := A_y
    obtain ⟨cq10, kq10, q10a, q10b, q10c⟩ := isOf hZ e0 E_x
    obtain ⟨_, _, ⟨T10, L10, k10, n10⟩, -, X10, ⟨Lc10, hQ10, l10, y10, z10⟩, st10⟩ := X0.virtualBack hx (y := (⟨"java/lang/String", "length", "()I"⟩ : MethodName)) (z := (⟨"java/lang/String", "length", "()I"⟩ : MethodName)) hown (mvT hZ (hw _ (List.mem_of_getElem? (i := 123) rfl))) (mvT hZ (hw _ (List.mem_of_getElem? (i := 63) rfl))) (notFace_of_selects (args := #[]) (mvT hZ (hw _ (List.mem_of_getElem? (i := 65) rfl)))) (mvT hZ (hw _ (List.mem_of_getElem? (i := 65) rfl))) (mvT hZ (hw _ (List.mem_of_getElem? (i := 64) rfl))) (by decide) (StrChars.Road.lenW (W := 0) hZ (own_wL hw) (hw _ (List.mem_of_getElem? (i := 12) rfl)) E_x V_x C_x A_x' (own_cod1 ha) (own_up (own_hp1 ha)) S_c hzc (Nat.le_of_ble_eq_true rfl) (by decide) (by decide)) q10a q10c (g := (mkF m 1 #[rv x, rv y] [(.ref x)])) rfl (by rw [hml]; rfl) (Steps.refl _) (argsL := []) (rest := []) (lenOf pd_3 rfl) rfl (by show 2 * 0 + _ ≤ _; exact Nat.le_of_eq rfl) (hb hby d25_1) (fun _ _ => ⟨rfl, e0, (by decide : 0 + 0 ≤ _), (by decide : 0 + 0 ≤ _)⟩)
    dsimp only [Pt.U, Pt.locs, Pt.cells, Pt.slots] at X10 l10 y10 z10 st10 hQ10
    subst l10 y10 z10
    obtain ⟨hv10, hL10, e10q⟩ := hQ10
    subst hL10
    have N10 := Fr.app N0 (Fr.nil n0)
    rw [show Int32.ofNat [va].length = (1 : Int32) from rfl] at hv10
    subst hv10
    have e10 : T10.heap = h0 := e10q
    obtain ⟨cq11, kq11, q11a, q11b, q11c⟩ := isOf hZ e10 E_y
    obtain ⟨_, _, ⟨T11, L11, k11, n11⟩, -, X11, ⟨Lc11, hQ11, l11, y11, z11⟩, st11⟩ := X10.virtualBack hx (y := (⟨"java/lang/String", "length", "()I"⟩ : MethodName)) (z := (⟨"java/lang/String", "length", "()I"⟩ : MethodName)) hown (mvT hZ (hw _ (List.mem_of_getElem? (i := 123) rfl))) (mvT hZ (hw _ (List.mem_of_getElem? (i := 63) rfl))) (notFace_of_selects (args := #[]) (mvT hZ (hw _ (List.mem_of_getElem? (i := 65) rfl)))) (mvT hZ (hw _ (List.mem_of_getElem? (i := 65) rfl))) (mvT hZ (hw _ (List.mem_of_getElem? (i := 64) rfl))) (by decide) (StrChars.Road.lenW (W := 1) hZ (own_wL hw) (hw _ (List.mem_of_getElem? (i := 12) rfl)) E_y V_y C_y A_y' (own_cod2 ja jb) (own_up (own_hp2 ja jb)) S_c hzc (Nat.le_of_ble_eq_true rfl) (by decide) (by decide)) q11a q11c (g := (mkF m 5 #[rv x, rv y] [(.ref y), (.int (1 : Int32))])) rfl (by rw [hml]; rfl) (Steps.refl _) (argsL := []) (rest := [(.int (1 : Int32))]) (lenOf pd_3 rfl) rfl (by show 2 * 0 + _ ≤ _; exact Nat.le_of_eq rfl) (hb hby d25_5) (fun _ _ => ⟨rfl, e10, (by decide : 0 + 0 ≤ _), (by decide : 0 + 0 ≤ _)⟩)
    dsimp only [Pt.U, Pt.locs, Pt.cells, Pt.slots] at X11 l11 y11 z11 st11 hQ11
    subst l11 y11 z11
    obtain ⟨hv11, hL11, e11q⟩ := hQ11
    subst hL11
    have N11 := Fr.app N10 (Fr.nil n0)
    rw [show Int32.ofNat [wa, wb].length = (2 : Int32) from rfl] at hv11
    subst hv11
    have e11 : T11.heap = h0 := e11q
    have pre12 : ∀ tg, own_S p e below T11 m 12 #[rv x, rv y] [(.int (0 : Int32))] tg → Steps p.tables e below (s₁.setTop (entryFrame m #[(.ref x), (.ref y)] 2)) tg := fun tg k => pre0 tg (by
      show own_S p e below s₁ m 0 #[rv x, rv y] [] _
      refine XS.aloadN X0.here hx rfl (hb hby d25_0) rfl rfl ?_
      refine st10.trans ?_
      refine XS.aloadN X10.here hx rfl (hb hby d25_4) rfl rfl ?_
      show own_S p e below T10 m 5 #[rv x, rv y] [(.ref y), (.int (1 : Int32))] _
      refine st11.trans ?_
      refine XS.icmpNo X11.here hx rfl (hb hby d25_8) rfl (feq (by decide : ¬ ((1 : Int32) = (2 : Int32)))).1 ?_
      refine XS.iconst X11.here hx rfl (hb hby d25_11) ?_
      exact k)
    obtain ⟨fs, hr, hrun, hended, hW, hsame⟩ := X11.leave (v := some (.int (nar .boolean (0 : Int32)))) (fun h => by rw [Bd.returns] at h; cases h)
    refine ⟨_, _, pre12 _ ?_, hrun, hended, _, _, rfl, ?_, ⟨_, rfl⟩, hW, hsame.mono (by decide) (by decide)⟩
    · show own_S p e below T11 m 12 #[rv x, rv y] [(.int (0 : Int32))] _
      exact retN X11 hx (t := .boolean) Bd.returns (by simp) (hb hby d25_12) hr
    · show QSame Z x t k [va] y u ku [wa, wb] zc fm h0 n0 _ T11.heap _
      rw [e11]
      refine ⟨?_, N11, rfl⟩
      rw [if_neg nofun]; rfl
  ·  -- case
    have A_x' : Arv Z h0 t k .byte (2 : Int32) [(.int va.toInt8.toInt32), (.int vb.toInt8.toInt32)] (.int 0) := A_x
    have A_y' : Arv Z h0 u ku .byte (1 : Int32) [(.int wa.toInt8.toInt32)] (.int 0) := A_y
    obtain ⟨cq13, kq13, q13a, q13b, q13c⟩ := isOf hZ e0 E_x
    obtain ⟨_, _, ⟨T13, L13, k13, n13⟩, -, X13, ⟨Lc13, hQ13, l13, y13, z13⟩, st13⟩ := X0.virtualBack hx (y := (⟨"java/lang/String", "length", "()I"⟩ : MethodName)) (z := (⟨"java/lang/String", "length", "()I"⟩ : MethodName)) hown (mvT hZ (hw _ (List.mem_of_getElem? (i := 123) rfl))) (mvT hZ (hw _ (List.mem_of_getElem? (i := 63) rfl))) (notFace_of_selects (args := #[]) (mvT hZ (hw _ (List.mem_of_getElem? (i := 65) rfl)))) (mvT hZ (hw _ (List.mem_of_getElem? (i := 65) rfl))) (mvT hZ (hw _ (List.mem_of_getElem? (i := 64) rfl))) (by decide) (StrChars.Road.lenW (W := 0) hZ (own_wL hw) (hw _ (List.mem_of_getElem? (i := 12) rfl)) E_x V_x C_x A_x' (own_cod2 ha hvb) (own_up (own_hp2 ha hvb)) S_c hzc (Nat.le_of_ble_eq_true rfl) (by decide) (by decide)) q13a q13c (g := (mkF m 1 #[rv x, rv y] [(.ref x)])) rfl (by rw [hml]; rfl) (Steps.refl _) (argsL := []) (rest := []) (lenOf pd_3 rfl) rfl (by show 2 * 0 + _ ≤ _; exact Nat.le_of_eq rfl) (hb hby d25_1) (fun _ _ => ⟨rfl, e0, (by decide : 0 + 0 ≤ _), (by decide : 0 + 0 ≤ _)⟩)
    dsimp only [Pt.U, Pt.locs, Pt.cells, Pt.slots] at X13 l13 y13 z13 st13 hQ13
    subst l13 y13 z13
    obtain ⟨hv13, hL13, e13q⟩ := hQ13
    subst hL13
    have N13 := Fr.app N0 (Fr.nil n0)
    rw [show Int32.ofNat [va, vb].length = (2 : Int32) from rfl] at hv13
    subst hv13
    have e13 : T13.heap = h0 := e13q
    obtain ⟨cq14, kq14, q14a, q14b, q14c⟩ := isOf hZ e13 E_y
    obtain ⟨_, _, ⟨T14, L14, k14, n14⟩, -, X14, ⟨Lc14, hQ14, l14, y14, z14⟩, st14⟩ := X13.virtualBack hx (y := (⟨"java/lang/String", "length", "()I"⟩ : MethodName)) (z := (⟨"java/lang/String", "length", "()I"⟩ : MethodName)) hown (mvT hZ (hw _ (List.mem_of_getElem? (i := 123) rfl))) (mvT hZ (hw _ (List.mem_of_getElem? (i := 63) rfl))) (notFace_of_selects (args := #[]) (mvT hZ (hw _ (List.mem_of_getElem? (i := 65) rfl)))) (mvT hZ (hw _ (List.mem_of_getElem? (i := 65) rfl))) (mvT hZ (hw _ (List.mem_of_getElem? (i := 64) rfl))) (by decide) (StrChars.Road.lenW (W := 1) hZ (own_wL hw) (hw _ (List.mem_of_getElem? (i := 12) rfl)) E_y V_y C_y A_y' (own_cod1 ja) (own_up (own_hp1 ja)) S_c hzc (Nat.le_of_ble_eq_true rfl) (by decide) (by decide)) q14a q14c (g := (mkF m 5 #[rv x, rv y] [(.ref y), (.int (2 : Int32))])) rfl (by rw [hml]; rfl) (Steps.refl _) (argsL := []) (rest := [(.int (2 : Int32))]) (lenOf pd_3 rfl) rfl (by show 2 * 0 + _ ≤ _; exact Nat.le_of_eq rfl) (hb hby d25_5) (fun _ _ => ⟨rfl, e13, (by decide : 0 + 0 ≤ _), (by decide : 0 + 0 ≤ _)⟩)
    dsimp only [Pt.U, Pt.locs, Pt.cells, Pt.slots] at X14 l14 y14 z14 st14 hQ14
    subst l14 y14 z14
    obtain ⟨hv14, hL14, e14q⟩ := hQ14
    subst hL14
    have N14 := Fr.app N13 (Fr.nil n0)
    rw [show Int32.ofNat [wa].length = (1 : Int32) from rfl] at hv14
    subst hv14
    have e14 : T14.heap = h0 := e14q
    have pre15 : ∀ tg, own_S p e below T14 m 12 #[rv x, rv y] [(.int (0 : Int32))] tg → Steps p.tables e below (s₁.setTop (entryFrame m #[(.ref x), (.ref y)] 2)) tg := fun tg k => pre0 tg (by
      show own_S p e below s₁ m 0 #[rv x, rv y] [] _
      refine XS.aloadN X0.here hx rfl (hb hby d25_0) rfl rfl ?_
      refine st13.trans ?_
      refine XS.aloadN X13.here hx rfl (hb hby d25_4) rfl rfl ?_
      show own_S p e below T13 m 5 #[rv x, rv y] [(.ref y), (.int (2 : Int32))] _
      refine st14.trans ?_
      refine XS.icmpNo X14.here hx rfl (hb hby d25_8) rfl (feq (by decide : ¬ ((2 : Int32) = (1 : Int32)))).1 ?_
      refine XS.iconst X14.here hx rfl (hb hby d25_11) ?_
      exact k)
    obtain ⟨fs, hr, hrun, hended, hW, hsame⟩ := X14.leave (v := some (.int (nar .boolean (0 : Int32)))) (fun h => by rw [Bd.returns] at h; cases h)
    refine ⟨_, _, pre15 _ ?_, hrun, hended, _, _, rfl, ?_, ⟨_, rfl⟩, hW, hsame.mono (by decide) (by decide)⟩
    · show own_S p e below T14 m 12 #[rv x, rv y] [(.int (0 : Int32))] _
      exact retN X14 hx (t := .boolean) Bd.returns (by simp) (hb hby d25_12) hr
    · show QSame Z x t k [va, vb] y u ku [wa] zc fm h0 n0 _ T14.heap _
      rw [e14]
      refine ⟨?_, N14, rfl⟩
      rw [if_neg nofun]; rfl
  ·  -- case
    have A_x' : Arv Z h0 t k .byte (2 : Int32) [(.int va.toInt8.toInt32), (.int vb.toInt8.toInt32)] (.int 0) := A_x
    have A_y' : Arv Z h0 u ku .byte (2 : Int32) [(.int wa.toInt8.toInt32), (.int wb.toInt8.toInt32)] (.int 0) := A_y
    obtain ⟨cq16, kq16, q16a, q16b, q16c⟩ := isOf hZ e0 E_x
    obtain ⟨_, _, ⟨T16, L16, k16, n16⟩, -, X16, ⟨Lc16, hQ16, l16, y16, z16⟩, st16⟩ := X0.virtualBack hx (y := (⟨"java/lang/String", "length", "()I"⟩ : MethodName)) (z := (⟨"java/lang/String", "length", "()I"⟩ : MethodName)) hown (mvT hZ (hw _ (List.mem_of_getElem? (i := 123) rfl))) (mvT hZ (hw _ (List.mem_of_getElem? (i := 63) rfl))) (notFace_of_selects (args := #[]) (mvT hZ (hw _ (List.mem_of_getElem? (i := 65) rfl)))) (mvT hZ (hw _ (List.mem_of_getElem? (i := 65) rfl))) (mvT hZ (hw _ (List.mem_of_getElem? (i := 64) rfl))) (by decide) (StrChars.Road.lenW (W := 0) hZ (own_wL hw) (hw _ (List.mem_of_getElem? (i := 12) rfl)) E_x V_x C_x A_x' (own_cod2 ha hvb) (own_up (own_hp2 ha hvb)) S_c hzc (Nat.le_of_ble_eq_true rfl) (by decide) (by decide)) q16a q16c (g := (mkF m 1 #[rv x, rv y] [(.ref x)])) rfl (by rw [hml]; rfl) (Steps.refl _) (argsL := []) (rest := []) (lenOf pd_3 rfl) rfl (by show 2 * 0 + _ ≤ _; exact Nat.le_of_eq rfl) (hb hby d25_1) (fun _ _ => ⟨rfl, e0, (by decide : 0 + 0 ≤ _), (by decide : 0 + 0 ≤ _)⟩)
    dsimp only [Pt.U, Pt.locs, Pt.cells, Pt.slots] at X16 l16 y16 z16 st16 hQ16
    subst l16 y16 z16
    obtain ⟨hv16, hL16, e16q⟩ := hQ16
    subst hL16
    have N16 := Fr.app N0 (Fr.nil n0)
    rw [show Int32.ofNat [va, vb].length = (2 : Int32) from rfl] at hv16
    subst hv16
    have e16 : T16.heap = h0 := e16q
    obtain ⟨cq17, kq17, q17a, q17b, q17c⟩ := isOf hZ e16 E_y
    obtain ⟨_, _, ⟨T17, L17, k17, n17⟩, -, X17, ⟨Lc17, hQ17, l17, y17, z17⟩, st17⟩ := X16.virtualBack hx (y := (⟨"java/lang/String", "length", "()I"⟩ : MethodName)) (z := (⟨"java/lang/String", "length", "()I"⟩ : MethodName)) hown (mvT hZ (hw _ (List.mem_of_getElem? (i := 123) rfl))) (mvT hZ (hw _ (List.mem_of_getElem? (i := 63) rfl))) (notFace_of_selects (args := #[]) (mvT hZ (hw _ (List.mem_of_getElem? (i := 65) rfl)))) (mvT hZ (hw _ (List.mem_of_getElem? (i := 65) rfl))) (mvT hZ (hw _ (List.mem_of_getElem? (i := 64) rfl))) (by decide) (StrChars.Road.lenW (W := 1) hZ (own_wL hw) (hw _ (List.mem_of_getElem? (i := 12) rfl)) E_y V_y C_y A_y' (own_cod2 ja jb) (own_up (own_hp2 ja jb)) S_c hzc (Nat.le_of_ble_eq_true rfl) (by decide) (by decide)) q17a q17c (g := (mkF m 5 #[rv x, rv y] [(.ref y), (.int (2 : Int32))])) rfl (by rw [hml]; rfl) (Steps.refl _) (argsL := []) (rest := [(.int (2 : Int32))]) (lenOf pd_3 rfl) rfl (by show 2 * 0 + _ ≤ _; exact Nat.le_of_eq rfl) (hb hby d25_5) (fun _ _ => ⟨rfl, e16, (by decide : 0 + 0 ≤ _), (by decide : 0 + 0 ≤ _)⟩)
    dsimp only [Pt.U, Pt.locs, Pt.cells, Pt.slots] at X17 l17 y17 z17 st17 hQ17
    subst l17 y17 z17
    obtain ⟨hv17, hL17, e17q⟩ := hQ17
    subst hL17
    have N17 := Fr.app N16 (Fr.nil n0)
    rw [show Int32.ofNat [wa, wb].length = (2 : Int32) from rfl] at hv17
    subst hv17
    have e17 : T17.heap = h0 := e17q
    obtain ⟨cq18, kq18, q18a, q18b, q18c⟩ := isOf hZ e17 E_x
    obtain ⟨_, _, ⟨T18, L18, k18, n18⟩, -, X18, ⟨Lc18, hQ18, l18, y18, z18⟩, st18⟩ := X17.virtualBack hx (y := (⟨"java/lang/String", "charAt", "(I)C"⟩ : MethodName)) (z := (⟨"java/lang/String", "charAt", "(I)C"⟩ : MethodName)) hown (mvT hZ (hw _ (List.mem_of_getElem? (i := 124) rfl))) (mvT hZ (hw _ (List.mem_of_getElem? (i := 89) rfl))) (notFace_of_selects (args := #[]) (mvT hZ (hw _ (List.mem_of_getElem? (i := 91) rfl)))) (mvT hZ (hw _ (List.mem_of_getElem? (i := 91) rfl))) (mvT hZ (hw _ (List.mem_of_getElem? (i := 90) rfl))) (by decide) (StrChars.Road.chN (W := 0) hZ (own_wC hw) (hw _ (List.mem_of_getElem? (i := 12) rfl)) (cs := [va, vb]) (i := 0) (j := (0 : Int32)) E_x V_x C_x A_x' (own_cod2 ha hvb) (own_up (own_hp2 ha hvb)) S_c hzc S_f hfm (Nat.le_of_ble_eq_true rfl) (Nat.le_of_ble_eq_true rfl) rfl (by decide) (by decide)) q18a q18c (g := (mkF m 15 #[rv x, rv y] [(.int (0 : Int32)), (.ref x)])) rfl (by rw [hml]; rfl) (Steps.refl _) (argsL := [(.int (0 : Int32))]) (rest := []) (lenOf pd_0 rfl) rfl (by show 2 * 0 + _ ≤ _; exact Nat.le_of_eq rfl) (hb hby d25_15) (fun _ _ => ⟨rfl, e17, (by decide : 0 + 0 ≤ _), (by decide : 0 + 0 ≤ _)⟩)
    dsimp only [Pt.U, Pt.locs, Pt.cells, Pt.slots] at X18 l18 y18 z18 st18 hQ18
    subst l18 y18 z18
    obtain ⟨hv18, hL18, e18q⟩ := hQ18
    subst hL18
    have N18 := Fr.app N17 (Fr.nil n0)
    rw [show ([va, vb] : List Int32).getD 0 0 = va from rfl] at hv18
    subst hv18
    have e18 : T18.heap = h0 := e18q
    obtain ⟨cq19, kq19, q19a, q19b, q19c⟩ := isOf hZ e18 E_y
    obtain ⟨_, _, ⟨T19, L19, k19, n19⟩, -, X19, ⟨Lc19, hQ19, l19, y19, z19⟩, st19⟩ := X18.virtualBack hx (y := (⟨"java/lang/String", "charAt", "(I)C"⟩ : MethodName)) (z := (⟨"java/lang/String", "charAt", "(I)C"⟩ : MethodName)) hown (mvT hZ (hw _ (List.mem_of_getElem? (i := 124) rfl))) (mvT hZ (hw _ (List.mem_of_getElem? (i := 89) rfl))) (notFace_of_selects (args := #[]) (mvT hZ (hw _ (List.mem_of_getElem? (i := 91) rfl)))) (mvT hZ (hw _ (List.mem_of_getElem? (i := 91) rfl))) (mvT hZ (hw _ (List.mem_of_getElem? (i := 90) rfl))) (by decide) (StrChars.Road.chN (W := 1) hZ (own_wC hw) (hw _ (List.mem_of_getElem? (i := 12) rfl)) (cs := [wa, wb]) (i := 0) (j := (0 : Int32)) E_y V_y C_y A_y' (own_cod2 ja jb) (own_up (own_hp2 ja jb)) S_c hzc S_f hfm (Nat.le_of_ble_eq_true rfl) (Nat.le_of_ble_eq_true rfl) rfl (by decide) (by decide)) q19a q19c (g := (mkF m 20 #[rv x, rv y] [(.int (0 : Int32)), (.ref y), (.int va)])) rfl (by rw [hml]; rfl) (Steps.refl _) (argsL := [(.int (0 : Int32))]) (rest := [(.int va)]) (lenOf pd_0 rfl) rfl (by show 2 * 0 + _ ≤ _; exact Nat.le_of_eq rfl) (hb hby d25_20) (fun _ _ => ⟨rfl, e18, (by decide : 0 + 0 ≤ _), (by decide : 0 + 0 ≤ _)⟩)
    dsimp only [Pt.U, Pt.locs, Pt.cells, Pt.slots] at X19 l19 y19 z19 st19 hQ19
    subst l19 y19 z19
    obtain ⟨hv19, hL19, e19q⟩ := hQ19
    subst hL19
    have N19 := Fr.app N18 (Fr.nil n0)
    rw [show ([wa, wb] : List Int32).getD 0 0 = wa from rfl] at hv19
    subst hv19
    have e19 : T19.heap = h0 := e19q
    have pre21 : ∀ tg, own_S p e below T19 m 23 #[rv x, rv y] [(.int wa), (.int va)] tg → Steps p.tables e below (s₁.setTop (entryFrame m #[(.ref x), (.ref y)] 2)) tg := fun tg k => pre0 tg (by
      show own_S p e below s₁ m 0 #[rv x, rv y] [] _
      refine XS.aloadN X0.here hx rfl (hb hby d25_0) rfl rfl ?_
      refine st16.trans ?_
      refine XS.aloadN X16.here hx rfl (hb hby d25_4) rfl rfl ?_
      show own_S p e below T16 m 5 #[rv x, rv y] [(.ref y), (.int (2 : Int32))] _
      refine st17.trans ?_
      refine XS.icmpYes X17.here hx rfl (pc0 := 8) (pc' := 13) rfl (hb hby d25_8) rfl (teq (by decide : (2 : Int32) = (2 : Int32))).1 (by decide) (by decide) ?_
      refine XS.aloadN X17.here hx rfl (hb hby d25_13) rfl rfl ?_
      show own_S p e below T17 m 14 #[rv x, rv y] [(.ref x)] _
      refine XS.iconst X17.here hx rfl (hb hby d25_14) ?_
      refine st18.trans ?_
      refine XS.aloadN X18.here hx rfl (hb hby d25_18) rfl rfl ?_
      show own_S p e below T18 m 19 #[rv x, rv y] [(.ref y), (.int va)] _
      refine XS.iconst X18.here hx rfl (hb hby d25_19) ?_
      refine st19.trans ?_
      exact k)
    by_cases hc23_20 : va = wa
    ·  -- pc 23 yes
      obtain ⟨cq22, kq22, q22a, q22b, q22c⟩ := isOf hZ e19 E_x
      obtain ⟨_, _, ⟨T22, L22, k22, n22⟩, -, X22, ⟨Lc22, hQ22, l22, y22, z22⟩, st22⟩ := X19.virtualBack hx (y := (⟨"java/lang/String", "length", "()I"⟩ : MethodName)) (z := (⟨"java/lang/String", "length", "()I"⟩ : MethodName)) hown (mvT hZ (hw _ (List.mem_of_getElem? (i := 123) rfl))) (mvT hZ (hw _ (List.mem_of_getElem? (i := 63) rfl))) (notFace_of_selects (args := #[]) (mvT hZ (hw _ (List.mem_of_getElem? (i := 65) rfl)))) (mvT hZ (hw _ (List.mem_of_getElem? (i := 65) rfl))) (mvT hZ (hw _ (List.mem_of_getElem? (i := 64) rfl))) (by decide) (StrChars.Road.lenW (W := 0) hZ (own_wL hw) (hw _ (List.mem_of_getElem? (i := 12) rfl)) E_x V_x C_x A_x' (own_cod2 ha hvb) (own_up (own_hp2 ha hvb)) S_c hzc (Nat.le_of_ble_eq_true rfl) (by decide) (by decide)) q22a q22c (g := (mkF m 29 #[rv x, rv y] [(.ref x)])) rfl (by rw [hml]; rfl) (Steps.refl _) (argsL := []) (rest := []) (lenOf pd_3 rfl) rfl (by show 2 * 0 + _ ≤ _; exact Nat.le_of_eq rfl) (hb hby d25_29) (fun _ _ => ⟨rfl, e19, (by decide : 0 + 0 ≤ _), (by decide : 0 + 0 ≤ _)⟩)
      dsimp only [Pt.U, Pt.locs, Pt.cells, Pt.slots] at X22 l22 y22 z22 st22 hQ22
      subst l22 y22 z22
      obtain ⟨hv22, hL22, e22q⟩ := hQ22
      subst hL22
      have N22 := Fr.app N19 (Fr.nil n0)
      rw [show Int32.ofNat [va, vb].length = (2 : Int32) from rfl] at hv22
      subst hv22
      have e22 : T22.heap = h0 := e22q
      obtain ⟨cq23, kq23, q23a, q23b, q23c⟩ := isOf hZ e22 E_x
      obtain ⟨_, _, ⟨T23, L23, k23, n23⟩, -, X23, ⟨Lc23, hQ23, l23, y23, z23⟩, st23⟩ := X22.virtualBack hx (y := (⟨"java/lang/String", "charAt", "(I)C"⟩ : MethodName)) (z := (⟨"java/lang/String", "charAt", "(I)C"⟩ : MethodName)) hown (mvT hZ (hw _ (List.mem_of_getElem? (i := 124) rfl))) (mvT hZ (hw _ (List.mem_of_getElem? (i := 89) rfl))) (notFace_of_selects (args := #[]) (mvT hZ (hw _ (List.mem_of_getElem? (i := 91) rfl)))) (mvT hZ (hw _ (List.mem_of_getElem? (i := 91) rfl))) (mvT hZ (hw _ (List.mem_of_getElem? (i := 90) rfl))) (by decide) (StrChars.Road.chN (W := 0) hZ (own_wC hw) (hw _ (List.mem_of_getElem? (i := 12) rfl)) (cs := [va, vb]) (i := 1) (j := (1 : Int32)) E_x V_x C_x A_x' (own_cod2 ha hvb) (own_up (own_hp2 ha hvb)) S_c hzc S_f hfm (Nat.le_of_ble_eq_true rfl) (Nat.le_of_ble_eq_true rfl) rfl (by decide) (by decide)) q23a q23c (g := (mkF m 40 #[rv x, rv y] [(.int (1 : Int32)), (.ref x)])) rfl (by rw [hml]; rfl) (Steps.refl _) (argsL := [(.int (1 : Int32))]) (rest := []) (lenOf pd_0 rfl) rfl (by show 2 * 0 + _ ≤ _; exact Nat.le_of_eq rfl) (hb hby d25_40) (fun _ _ => ⟨rfl, e22, (by decide : 0 + 0 ≤ _), (by decide : 0 + 0 ≤ _)⟩)
      dsimp only [Pt.U, Pt.locs, Pt.cells, Pt.slots] at X23 l23 y23 z23 st23 hQ23
      subst l23 y23 z23
      obtain ⟨hv23, hL23, e23q⟩ := hQ23
      subst hL23
      have N23 := Fr.app N22 (Fr.nil n0)
      rw [show ([va, vb] : List Int32).getD 1 0 = vb from rfl] at hv23
      subst hv23
      have e23 : T23.heap = h0 := e23q
      obtain ⟨cq24, kq24, q24a, q24b, q24c⟩ := isOf hZ e23 E_y
      obtain ⟨_, _, ⟨T24, L24, k24, n24⟩, -, X24, ⟨Lc24, hQ24, l24, y24, z24⟩, st24⟩ := X23.virtualBack hx (y := (⟨"java/lang/String", "charAt", "(I)C"⟩ : MethodName)) (z := (⟨"java/lang/String", "charAt", "(I)C"⟩ : MethodName)) hown (mvT hZ (hw _ (List.mem_of_getElem? (i := 124) rfl))) (mvT hZ (hw _ (List.mem_of_getElem? (i := 89) rfl))) (notFace_of_selects (args := #[]) (mvT hZ (hw _ (List.mem_of_getElem? (i := 91) rfl)))) (mvT hZ (hw _ (List.mem_of_getElem? (i := 91) rfl))) (mvT hZ (hw _ (List.mem_of_getElem? (i := 90) rfl))) (by decide) (StrChars.Road.chN (W := 1) hZ (own_wC hw) (hw _ (List.mem_of_getElem? (i := 12) rfl)) (cs := [wa, wb]) (i := 1) (j := (1 : Int32)) E_y V_y C_y A_y' (own_cod2 ja jb) (own_up (own_hp2 ja jb)) S_c hzc S_f hfm (Nat.le_of_ble_eq_true rfl) (Nat.le_of_ble_eq_true rfl) rfl (by decide) (by decide)) q24a q24c (g := (mkF m 45 #[rv x, rv y] [(.int (1 : Int32)), (.ref y), (.int vb)])) rfl (by rw [hml]; rfl) (Steps.refl _) (argsL := [(.int (1 : Int32))]) (rest := [(.int vb)]) (lenOf pd_0 rfl) rfl (by show 2 * 0 + _ ≤ _; exact Nat.le_of_eq rfl) (hb hby d25_45) (fun _ _ => ⟨rfl, e23, (by decide : 0 + 0 ≤ _), (by decide : 0 + 0 ≤ _)⟩)
      dsimp only [Pt.U, Pt.locs, Pt.cells, Pt.slots] at X24 l24 y24 z24 st24 hQ24
      subst l24 y24 z24
      obtain ⟨hv24, hL24, e24q⟩ := hQ24
      subst hL24
      have N24 := Fr.app N23 (Fr.nil n0)
      rw [show ([wa, wb] : List Int32).getD 1 0 = wb from rfl] at hv24
      subst hv24
      have e24 : T24.heap = h0 := e24q
      have pre26 : ∀ tg, own_S p e below T24 m 48 #[rv x, rv y] [(.int wb), (.int vb)] tg → Steps p.tables e below (s₁.setTop (entryFrame m #[(.ref x), (.ref y)] 2)) tg := fun tg k => pre21 tg (by
        show own_S p e below T19 m 23 #[rv x, rv y] [(.int wa), (.int va)] _
        refine XS.icmpYes X19.here hx rfl (pc0 := 23) (pc' := 28) rfl (hb hby d25_23) rfl (teq hc23_20).1 (by decide) (by decide) ?_
        refine XS.aloadN X19.here hx rfl (hb hby d25_28) rfl rfl ?_
        refine st22.trans ?_
        show own_S p e below T22 m 32 #[rv x, rv y] [(.int (2 : Int32))] _
        refine XS.iconst X22.here hx rfl (hb hby d25_32) ?_
        refine XS.icmpYes X22.here hx rfl (pc0 := 33) (pc' := 38) rfl (hb hby d25_33) rfl (flt (by decide : ¬ ((2 : Int32) < (2 : Int32)))).2.1 (by decide) (by decide) ?_
        refine XS.aloadN X22.here hx rfl (hb hby d25_38) rfl rfl ?_
        show own_S p e below T22 m 39 #[rv x, rv y] [(.ref x)] _
        refine XS.iconst X22.here hx rfl (hb hby d25_39) ?_
        refine st23.trans ?_
        refine XS.aloadN X23.here hx rfl (hb hby d25_43) rfl rfl ?_
        show own_S p e below T23 m 44 #[rv x, rv y] [(.ref y), (.int vb)] _
        refine XS.iconst X23.here hx rfl (hb hby d25_44) ?_
        refine st24.trans ?_
        exact k)
      by_cases hc48_25 : vb = wb
      ·  -- pc 48 yes
        have pre27 : ∀ tg, own_S p e below T24 m 56 #[rv x, rv y] [(.int (1 : Int32))] tg → Steps p.tables e below (s₁.setTop (entryFrame m #[(.ref x), (.ref y)] 2)) tg := fun tg k => pre26 tg (by
          show own_S p e below T24 m 48 #[rv x, rv y] [(.int wb), (.int vb)] _
          refine XS.icmpNo X24.here hx rfl (hb hby d25_48) rfl (teq hc48_25).2 ?_
          refine XS.iconst X24.here hx rfl (hb hby d25_51) ?_
          refine XS.goto X24.here hx rfl (pc0 := 52) (pc' := 56) rfl (hb hby d25_52) (by decide) (by decide) ?_
          exact k)
        obtain ⟨fs, hr, hrun, hended, hW, hsame⟩ := X24.leave (v := some (.int (nar .boolean (1 : Int32)))) (fun h => by rw [Bd.returns] at h; cases h)
        refine ⟨_, _, pre27 _ ?_, hrun, hended, _, _, rfl, ?_, ⟨_, rfl⟩, hW, hsame.mono (by decide) (by decide)⟩
        · show own_S p e below T24 m 56 #[rv x, rv y] [(.int (1 : Int32))] _
          exact retN X24 hx (t := .boolean) Bd.returns (by simp) (hb hby d25_56) hr
        · show QSame Z x t k [va, vb] y u ku [wa, wb] zc fm h0 n0 _ T24.heap _
          rw [e24]
          refine ⟨?_, N24, rfl⟩
          subst hc23_20 hc48_25
          rw [if_pos rfl]; rfl
      ·  -- pc 48 no
        have pre28 : ∀ tg, own_S p e below T24 m 56 #[rv x, rv y] [(.int (0 : Int32))] tg → Steps p.tables e below (s₁.setTop (entryFrame m #[(.ref x), (.ref y)] 2)) tg := fun tg k => pre26 tg (by
          show own_S p e below T24 m 48 #[rv x, rv y] [(.int wb), (.int vb)] _
          refine XS.icmpYes X24.here hx rfl (pc0 := 48) (pc' := 55) rfl (hb hby d25_48) rfl (feq hc48_25).2 (by decide) (by decide) ?_
          refine XS.iconst X24.here hx rfl (hb hby d25_55) ?_
          exact k)
        obtain ⟨fs, hr, hrun, hended, hW, hsame⟩ := X24.leave (v := some (.int (nar .boolean (0 : Int32)))) (fun h => by rw [Bd.returns] at h; cases h)
        refine ⟨_, _, pre28 _ ?_, hrun, hended, _, _, rfl, ?_, ⟨_, rfl⟩, hW, hsame.mono (by decide) (by decide)⟩
        · show own_S p e below T24 m 56 #[rv x, rv y] [(.int (0 : Int32))] _
          exact retN X24 hx (t := .boolean) Bd.returns (by simp) (hb hby d25_56) hr
        · show QSame Z x t k [va, vb] y u ku [wa, wb] zc fm h0 n0 _ T24.heap _
          rw [e24]
          refine ⟨?_, N24, rfl⟩
          rw [if_neg (fun q => hc48_25 (by injections))]; rfl
    ·  -- pc 23 no
      have pre29 : ∀ tg, own_S p e below T19 m 27 #[rv x, rv y] [(.int (0 : Int32))] tg → Steps p.tables e below (s₁.setTop (entryFrame m #[(.ref x), (.ref y)] 2)) tg := fun tg k => pre21 tg (by
        show own_S p e below T19 m 23 #[rv x, rv y] [(.int wa), (.int va)] _
        refine XS.icmpNo X19.here hx rfl (hb hby d25_23) rfl (feq hc23_20).1 ?_
        refine XS.iconst X19.here hx rfl (hb hby d25_26) ?_
        exact k)
      obtain ⟨fs, hr, hrun, hended, hW, hsame⟩ := X19.leave (v := some (.int (nar .boolean (0 : Int32)))) (fun h => by rw [Bd.returns] at h; cases h)
      refine ⟨_, _, pre29 _ ?_, hrun, hended, _, _, rfl, ?_, ⟨_, rfl⟩, hW, hsame.mono (by decide) (by decide)⟩
      · show own_S p e below T19 m 27 #[rv x, rv y] [(.int (0 : Int32))] _
        exact retN X19 hx (t := .boolean) Bd.returns (by simp) (hb hby d25_27) hr
      · show QSame Z x t k [va, vb] y u ku [wa, wb] zc fm h0 n0 _ T19.heap _
        rw [e19]
        refine ⟨?_, N19, rfl⟩
        rw [if_neg (fun q => hc23_20 (by injections))]; rfl
theorem ef_Ini (m : MethodId) (ax : Addr) (s1x : Addr) (s2x : Addr) : entryFrame m #[(.ref ax), (.ref s1x), (.ref s2x)] 3 = mkF m 0 #[rv ax, rv s1x, rv s2x] [] := by first | (simp [entryFrame, mkF, argsToLocals, Value.category]; done) | rfl
def QIni (Z : State) (ax : Addr) (s1x t1x : Addr) (k1x : ClassId) (c1x : List Int32) (s2x t2x : Addr) (k2x : ClassId) (c2x : List Int32) (zc : Int32) (fm : Value) (h0 : Heap) (n0 : Nat) (v : Option Value) (h : Heap) (L : List Loc) : Prop := v = none ∧ Fr n0 L ∧ Keep h0 h [ax] ∧ Exa Z h ax "com/example/garter/garter/schema/TableName" ∧ Fld Z h ax "com/example/garter/garter/schema/TableName" "database" "Ljava/lang/String;" (.ref s1x) ∧ Fld Z h ax "com/example/garter/garter/schema/TableName" "table" "Ljava/lang/String;" (.ref s2x)
theorem d10_0 : decode prog_117_method_1_code 0 = .ok (.aload_n 0, 1) := by decide +kernel
theorem d10_1 : decode prog_117_method_1_code 1 = .ok (.invokespecial 1, 3) := by decide +kernel
theorem d10_4 : decode prog_117_method_1_code 4 = .ok (.aload_n 0, 1) := by decide +kernel
theorem d10_5 : decode prog_117_method_1_code 5 = .ok (.ldc 7, 2) := by decide +kernel
theorem d10_7 : decode prog_117_method_1_code 7 = .ok (.aload_n 1, 1) := by decide +kernel
theorem d10_8 : decode prog_117_method_1_code 8 = .ok (.invokestatic 9, 3) := by decide +kernel
theorem pd_11 : parseMethodDescriptor "(Ljava/lang/String;Ljava/lang/String;)Ljava/lang/String;" = some ⟨[(.object "java/lang/String"), (.object "java/lang/String")], some (.object "java/lang/String")⟩ := by decide +kernel
theorem d10_11 : decode prog_117_method_1_code 11 = .ok (.putfield 15, 3) := by decide +kernel
theorem d10_14 : decode prog_117_method_1_code 14 = .ok (.aload_n 0, 1) := by decide +kernel
theorem d10_15 : decode prog_117_method_1_code 15 = .ok (.ldc 18, 2) := by decide +kernel
theorem d10_17 : decode prog_117_method_1_code 17 = .ok (.aload_n 2, 1) := by decide +kernel
theorem d10_18 : decode prog_117_method_1_code 18 = .ok (.invokestatic 9, 3) := by decide +kernel
theorem d10_21 : decode prog_117_method_1_code 21 = .ok (.putfield 20, 3) := by decide +kernel
theorem d10_24 : decode prog_117_method_1_code 24 = .ok (.return_, 1) := by decide +kernel
set_option maxRecDepth 65536 in
set_option maxHeartbeats 40000000 in
theorem rmIni (l : Launch) (Z : State) (a0 : Array Value) (hw : ∀ d ∈ tables_1, d.before a0 Z = true) (ws : List Jvm.Cond) (ax : Addr) (s1x t1x : Addr) (k1x : ClassId) (c1x : List Int32) (s2x t2x : Addr) (k2x : ClassId) (c2x : List Int32) (zc : Int32) (fm : Value) (h0 : Heap) (n0 : Nat) (Z0 : n0 ≤ h0.size) (g_ax : n0 ≤ ax) (E_ax : Exa Z h0 ax "com/example/garter/garter/schema/TableName") (F_d : Fld Z h0 ax "com/example/garter/garter/schema/TableName" "database" "Ljava/lang/String;" .null) (F_t : Fld Z h0 ax "com/example/garter/garter/schema/TableName" "table" "Ljava/lang/String;" .null) (E_s1x : Exa Z h0 s1x "java/lang/String") (C_s1x : Fld Z h0 s1x "java/lang/String" "coder" "B" (.int 0)) (V_s1x : Fld Z h0 s1x "java/lang/String" "value" "[B" (.ref t1x)) (A_s1x : Arv Z h0 t1x k1x .byte (Int32.ofNat c1x.length) (own_bs c1x) (.int 0)) (E_s2x : Exa Z h0 s2x "java/lang/String") (C_s2x : Fld Z h0 s2x "java/lang/String" "coder" "B" (.int 0)) (V_s2x : Fld Z h0 s2x "java/lang/String" "value" "[B" (.ref t2x)) (A_s2x : Arv Z h0 t2x k2x .byte (Int32.ofNat c2x.length) (own_bs c2x) (.int 0)) (S_c : Sta Z h0 "java/lang/String" "COMPACT_STRINGS" "Z" (.int zc)) (hzc : ¬ zc = 0) (S_f : Sta Z h0 "jdk/internal/util/Preconditions" "SIOOBE_FORMATTER" "Ljava/util/function/BiFunction;" fm) (hfm : fm.isRef = true) (hc1x : own_ok c1x) (hc2x : own_ok c2x) (ne_s1x : s1x ≠ ax) (ne_t1x : t1x ≠ ax) (ne_s2x : s2x ≠ ax) (ne_t2x : t2x ≠ ax) :
    MetFree l (⟨"com/example/garter/garter/schema/TableName", "<init>", "(Ljava/lang/String;Ljava/lang/String;)V"⟩ : MethodName) (head1 (Jvm.Cond.code (⟨"com/example/garter/garter/schema/TableName", "<init>", "(Ljava/lang/String;Ljava/lang/String;)V"⟩ : MethodName) prog_117_method_1_code 3 none :: ws) ({ frames := 5, cells := 8, slots := 76, locals := 80 } : Room)) (fun a U => a = #[(.ref ax), (.ref s1x), (.ref s2x)] ∧ Z.Warmed39 U.vm ∧ U.heap = h0 ∧ CHv Z consts_1 U.vm h0) (fun _ _ _ _ _ => True) (fun _ U o U' => ∃ v L, o = .returned v ∧ QIni Z ax s1x t1x k1x c1x s2x t2x k2x c2x zc fm h0 n0 v U'.heap L ∧ CHr Z consts_1 U.vm U.heap U'.vm U'.heap ∧ ReturnedEndW U o U' L ({ frames := 5, cells := 8, slots := 76, locals := 80 } : Room).cells ({ frames := 5, cells := 8, slots := 76, locals := 80 } : Room).slots) := by
  refine MetFree.of_bodySF (plainFor_of_name pn_5) hisR ?_
  intro p e s m args below meth c s₁ Bd hml0 hP hK
  obtain ⟨rfl, hZ, hh, hH⟩ := hP
  have hx := Bd.exec
  have hby := Bd.bytes
  have hml : c.maxLocals = 3 := hml0
  have hown : s.vm.findClass "com/example/garter/garter/schema/TableName" = some m.cls := findClass_of_methodNamed Bd.named
  have hnm := (name_of_methodNamed Bd.named Bd.method).1
  have X0 : Stand p l e ({ frames := 5, cells := 8, slots := 76, locals := 80 } : Room) s m #[(.ref ax), (.ref s1x), (.ref s2x)] below meth c s₁ [] 0 0 := Stand.of_body Bd
  have e0 : s₁.heap = h0 := by rw [← hh, Bd.state]; rfl
  have N0 := Fr.nil n0
  have pre0 : ∀ tg, Steps p.tables e below (s₁.setTop (mkF m 0 #[rv ax, rv s1x, rv s2x] [])) tg → Steps p.tables e below (s₁.setTop (entryFrame m #[(.ref ax), (.ref s1x), (.ref s2x)] 3)) tg := fun tg k => castTop (ef_Ini m ax s1x s2x) k
  have hS0 : s.Since s.vm 0 := (State.WarmedH.refl s).since 0
  have R0 : CHr Z consts_1 s.vm h0 s.vm h0 := CHr.refl hH
  obtain ⟨T1, X1, e1, st1⟩ := initO X0 hx hZ hown (hw _ (List.mem_of_getElem? (i := 46) rfl)) (hw _ (List.mem_of_getElem? (i := 22) rfl)) (hw _ (List.mem_of_getElem? (i := 23) rfl)) e0 (g := (mkF m 1 #[rv ax, rv s1x, rv s2x] [(.ref ax)])) rfl (by rw [hml]; rfl) rfl (hb hby d10_1) (by decide) (W := 0) (by show 2 * 0 + _ ≤ _; exact Nat.le_of_eq rfl) (by decide)
  have pre2 : ∀ tg, own_S p e below T1 m 5 #[rv ax, rv s1x, rv s2x] [(.ref ax)] tg → Steps p.tables e below (s₁.setTop (entryFrame m #[(.ref ax), (.ref s1x), (.ref s2x)] 3)) tg := fun tg k => pre0 tg (by
    show own_S p e below s₁ m 0 #[rv ax, rv s1x, rv s2x] [] _
    refine XS.aloadN X0.here hx rfl (hb hby d10_0) rfl rfl ?_
    refine st1 _ ?_
    refine XS.aloadN X1.here hx rfl (hb hby d10_4) rfl rfl ?_
    exact k)
  obtain ⟨a3, T3, h3, kn3, X3, e3, E3, hS3, hk3, hZ3, hown3, C3, -, st3⟩ := ldcOH (s := s) (vm0 := s.vm) X1 hx hZ hown (hw _ (List.mem_of_getElem? (i := 47) rfl)) (own_wS hw) e1 hS0 (Nat.zero_le _) (own_EL hw) R0.1 (g := (mkF m 5 #[rv ax, rv s1x, rv s2x] [(.ref ax)])) rfl (hb hby d10_5) (n := 32) (by decide) (by decide) (by decide) (by decide)
  have R4 := R0.trans C3
  have En_5 := (E_s1x.ext E3)
  have Fn_6 := (C_s1x.ext E3)
  have Fn_7 := (V_s1x.ext E3)
  have Vn_8 := (A_s1x.ext E3)
  have Sn_9 := (S_c.ext E3)
  have Sn_10 := (S_f.ext E3)
  have Zs12 : n0 ≤ h3.size := (Nat.le_trans Z0 E3.1)
  obtain ⟨_, _, ⟨T11, L11, k11, n11⟩, -, Xa11, hSa11, hga11, ⟨Lc11, hQ11, l11, y11, z11, C11⟩, st11⟩ := callSS (s := s.setVm T3.vm) X3 hx (y := (⟨"com/example/garter/garter/schema/TableName", "checkIdentifier", "(Ljava/lang/String;Ljava/lang/String;)Ljava/lang/String;"⟩ : MethodName)) hown3 (mvT hZ3 (hw _ (List.mem_of_getElem? (i := 50) rfl))) (mvT hZ3 (hw _ (List.mem_of_getElem? (i := 51) rfl))) (mvT hZ3 (hw _ (List.mem_of_getElem? (i := 42) rfl))) (mvT hZ3 (hw _ (List.mem_of_getElem? (i := 52) rfl))) (by decide) (backOfSH (s := s) (vm0 := T3.vm) (W := 1) (rmChk l Z a0 hw [] a3 s1x t1x k1x c1x zc fm h3 n0 Zs12 En_5 Fn_6 Fn_7 Vn_8 Sn_9 hzc Sn_10 hfm hc1x) hZ3 (hw _ (List.mem_of_getElem? (i := 52) rfl)) (hw _ (List.mem_of_getElem? (i := 42) rfl)) (by decide) (by decide) (own_EL hw) R4.1) (g := (mkF m 8 #[rv ax, rv s1x, rv s2x] [(.ref s1x), (.ref a3), (.ref ax)])) rfl (by rw [hml]; rfl) (argsL := [(.ref a3), (.ref s1x)]) (rest := [(.ref ax)]) (lenOf pd_11 rfl) rfl (by show 2 * 0 + _ ≤ _; exact Nat.le_of_eq rfl) (hb hby d10_8) (fun _ _ => ⟨rfl, e3, (by decide : 2 + 2 ≤ _), (by decide : 36 + 8 ≤ _)⟩)
  dsimp only [Pt.U, Pt.locs, Pt.cells, Pt.slots] at Xa11 hSa11 hga11 l11 y11 z11 st11 hQ11 C11
  subst l11 y11 z11
  have X11 : Stand p l e ({ frames := 5, cells := 8, slots := 76, locals := 80 } : Room) (s.setVm T11.vm) m #[(.ref ax), (.ref s1x), (.ref s2x)] below meth c T11 _ (2 + 2) (36 + 8) := Xa11
  have hga11' : h3.size ≤ T11.heap.size := by rw [← e3]; exact hga11
  have hS11 : s.Since T11.vm T11.heap.size := hS3.trans hSa11 (Nat.le_trans hk3 hga11')
  have hk11 : T11.heap.size ≤ T11.heap.size := Nat.le_refl _
  have hZ11 : Z.Warmed39 (s.setVm T11.vm).vm := State.Warmed39.trans (t := s.setVm T3.vm) hZ3 hSa11.1
  have hown11 : (s.setVm T11.vm).vm.findClass "com/example/garter/garter/schema/TableName" = some m.cls := by rw [show (s.setVm T11.vm).vm = T11.vm from rfl, hSa11.1.alike.findClass]; exact hown3
  obtain ⟨rfl, N11q, K11⟩ := hQ11
  have N11 := Fr.app N0 N11q
  have R13 := R4.trans C11
  have Fn_14 := ((F_d.ext E3).keep K11 nin0)
  have En_15 := ((E_ax.ext E3).keep K11)
  obtain ⟨T16, h16, X16, e16, W16, st16⟩ := putF X11 hx hZ11 hown11 (host := "") (Or.inl (hw _ (List.mem_of_getElem? (i := 115) rfl))) Via.refl rfl Fn_14 En_15 (Or.inr ⟨(hw _ (List.mem_of_getElem? (i := 116) rfl)), rfl, hnm⟩) (hw _ (List.mem_of_getElem? (i := 41) rfl)) (ty := (.object "java/lang/String")) (by decide) rfl rfl (g := (mkF m 11 #[rv ax, rv s1x, rv s2x] [(.ref s1x), (.ref ax)])) rfl rfl (hb hby d10_11)
  have R17 := R13.trans (CHr.wr W16 (Safe.exa hZ11.alike En_15 (by decide) (by decide)) R13.1)
  have Fw16 := Fn_14.same W16
  have N16 := Fr.snoc X16 N11 g_ax
  have pre18 : ∀ tg, own_S p e below T16 m 15 #[rv ax, rv s1x, rv s2x] [(.ref ax)] tg → Steps p.tables e below (s₁.setTop (entryFrame m #[(.ref ax), (.ref s1x), (.ref s2x)] 3)) tg := fun tg k => pre2 tg (by
    show own_S p e below T1 m 5 #[rv ax, rv s1x, rv s2x] [(.ref ax)] _
    refine st3 _ ?_
    refine XS.aloadN X3.here hx rfl (hb hby d10_7) rfl rfl ?_
    refine st11.trans ?_
    show own_S p e below T11 m 11 #[rv ax, rv s1x, rv s2x] [(.ref s1x), (.ref ax)] _
    refine st16 _ ?_
    refine XS.aloadN X16.here hx rfl (hb hby d10_14) rfl rfl ?_
    exact k)
  have Zs20 : n0 ≤ h16.size := (Nat.le_trans (Nat.le_trans Zs12 K11.1) (Keep.of_wr W16).1)
  have En_21 := ((En_5.keep K11).wr W16)
  have Fn_22 := ((Fn_6.keep K11 nin0).other W16 (Or.inl ne_s1x))
  have Fn_23 := ((Fn_7.keep K11 nin0).other W16 (Or.inl ne_s1x))
  have Vn_24 := ((Vn_8.keep K11 nin0).other W16 ne_t1x)
  have En_25 := (((E_s2x.ext E3).keep K11).wr W16)
  have Fn_26 := (((C_s2x.ext E3).keep K11 nin0).other W16 (Or.inl ne_s2x))
  have Fn_27 := (((V_s2x.ext E3).keep K11 nin0).other W16 (Or.inl ne_s2x))
  have Vn_28 := (((A_s2x.ext E3).keep K11 nin0).other W16 ne_t2x)
  have En_29 := (En_15.wr W16)
  have Fn_30 := (((F_t.ext E3).keep K11 nin0).other W16 (Or.inr (slot_ne (Or.inr (hw _ (List.mem_of_getElem? (i := 119) rfl))) (Or.inr (hw _ (List.mem_of_getElem? (i := 116) rfl))) (by decide) (t := (.object "java/lang/String")) (t' := (.object "java/lang/String")) (by decide) (by decide))))
  obtain ⟨a19, T19, h19, kn19, X19, e19, E19, hS19, hk19, hZ19, hown19, C19, -, st19⟩ := ldcOH (s := s) (vm0 := T11.vm) X16 hx hZ11 hown11 (hw _ (List.mem_of_getElem? (i := 117) rfl)) (own_wS hw) e16 hS11 (Nat.le_trans hk11 (Keep.of_wr W16).1) (own_EL hw) R17.1 (g := (mkF m 15 #[rv ax, rv s1x, rv s2x] [(.ref ax)])) rfl (hb hby d10_15) (n := 20) (by decide) (by decide) (by decide) (by decide)
  have R31 := R17.trans C19
  have En_32 := (En_25.ext E19)
  have Fn_33 := (Fn_26.ext E19)
  have Fn_34 := (Fn_27.ext E19)
  have Vn_35 := (Vn_28.ext E19)
  have Sn_36 := (((own_sta_keep0 Sn_9 K11).wr W16).ext E19)
  have Sn_37 := (((own_sta_keep0 Sn_10 K11).wr W16).ext E19)
  have Zs39 : n0 ≤ h19.size := (Nat.le_trans Zs20 E19.1)
  obtain ⟨_, _, ⟨T38, L38, k38, n38⟩, -, Xa38, hSa38, hga38, ⟨Lc38, hQ38, l38, y38, z38, C38⟩, st38⟩ := callSS (s := s.setVm T19.vm) X19 hx (y := (⟨"com/example/garter/garter/schema/TableName", "checkIdentifier", "(Ljava/lang/String;Ljava/lang/String;)Ljava/lang/String;"⟩ : MethodName)) hown19 (mvT hZ19 (hw _ (List.mem_of_getElem? (i := 50) rfl))) (mvT hZ19 (hw _ (List.mem_of_getElem? (i := 51) rfl))) (mvT hZ19 (hw _ (List.mem_of_getElem? (i := 42) rfl))) (mvT hZ19 (hw _ (List.mem_of_getElem? (i := 52) rfl))) (by decide) (backOfSH (s := s) (vm0 := T19.vm) (W := 1) (rmChk l Z a0 hw [] a19 s2x t2x k2x c2x zc fm h19 n0 Zs39 En_32 Fn_33 Fn_34 Vn_35 Sn_36 hzc Sn_37 hfm hc2x) hZ19 (hw _ (List.mem_of_getElem? (i := 52) rfl)) (hw _ (List.mem_of_getElem? (i := 42) rfl)) (by decide) (by decide) (own_EL hw) R31.1) (g := (mkF m 18 #[rv ax, rv s1x, rv s2x] [(.ref s2x), (.ref a19), (.ref ax)])) rfl (by rw [hml]; rfl) (argsL := [(.ref a19), (.ref s2x)]) (rest := [(.ref ax)]) (lenOf pd_11 rfl) rfl (by show 2 * 0 + _ ≤ _; exact Nat.le_of_eq rfl) (hb hby d10_18) (fun _ _ => ⟨rfl, e19, (by decide : 6 + 2 ≤ _), (by decide : 68 + 8 ≤ _)⟩)
  dsimp only [Pt.U, Pt.locs, Pt.cells, Pt.slots] at Xa38 hSa38 hga38 l38 y38 z38 st38 hQ38 C38
  subst l38 y38 z38
  have X38 : Stand p l e ({ frames := 5, cells := 8, slots := 76, locals := 80 } : Room) (s.setVm T38.vm) m #[(.ref ax), (.ref s1x), (.ref s2x)] below meth c T38 _ (6 + 2) (68 + 8) := Xa38
  have hga38' : h19.size ≤ T38.heap.size := by rw [← e19]; exact hga38
  have hS38 : s.Since T38.vm T38.heap.size := hS19.trans hSa38 (Nat.le_trans hk19 hga38')
  have hk38 : T38.heap.size ≤ T38.heap.size := Nat.le_refl _
  have hZ38 : Z.Warmed39 (s.setVm T38.vm).vm := State.Warmed39.trans (t := s.setVm T19.vm) hZ19 hSa38.1
  have hown38 : (s.setVm T38.vm).vm.findClass "com/example/garter/garter/schema/TableName" = some m.cls := by rw [show (s.setVm T38.vm).vm = T38.vm from rfl, hSa38.1.alike.findClass]; exact hown19
  obtain ⟨rfl, N38q, K38⟩ := hQ38
  have N38 := Fr.app N16 N38q
  have R40 := R31.trans C38
  have Fn_41 := ((Fn_30.ext E19).keep K38 nin0)
  have En_42 := ((En_29.ext E19).keep K38)
  obtain ⟨T43, h43, X43, e43, W43, st43⟩ := putF X38 hx hZ38 hown38 (host := "") (Or.inl (hw _ (List.mem_of_getElem? (i := 118) rfl))) Via.refl rfl Fn_41 En_42 (Or.inr ⟨(hw _ (List.mem_of_getElem? (i := 119) rfl)), rfl, hnm⟩) (hw _ (List.mem_of_getElem? (i := 41) rfl)) (ty := (.object "java/lang/String")) (by decide) rfl rfl (g := (mkF m 21 #[rv ax, rv s1x, rv s2x] [(.ref s2x), (.ref ax)])) rfl rfl (hb hby d10_21)
  have R44 := R40.trans (CHr.wr W43 (Safe.exa hZ38.alike En_42 (by decide) (by decide)) R40.1)
  have Fw43 := Fn_41.same W43
  have N43 := Fr.snoc X43 N38 g_ax
  have pre45 : ∀ tg, own_S p e below T43 m 24 #[rv ax, rv s1x, rv s2x] [] tg → Steps p.tables e below (s₁.setTop (entryFrame m #[(.ref ax), (.ref s1x), (.ref s2x)] 3)) tg := fun tg k => pre18 tg (by
    show own_S p e below T16 m 15 #[rv ax, rv s1x, rv s2x] [(.ref ax)] _
    refine st19 _ ?_
    refine XS.aloadN X19.here hx rfl (hb hby d10_17) rfl rfl ?_
    refine st38.trans ?_
    show own_S p e below T38 m 21 #[rv ax, rv s1x, rv s2x] [(.ref s2x), (.ref ax)] _
    refine st43 _ ?_
    exact k)
  obtain ⟨fs, hr, hrun, hended, hEnd⟩ := Stand.leaveW (s := s) (vm₁ := T38.vm) X43 hS38 (show _ ≤ T43.heap.size by rw [e43]; exact (Nat.le_trans hk38 (Keep.of_wr W43).1)) (v := none) (fun _ => rfl)
  refine ⟨_, _, pre45 _ ?_, hrun, hended, _, _, rfl, ?_, ?_, hEnd.1, hEnd.2.1, hEnd.2.2.1, hEnd.2.2.2.mono (by decide) (by decide)⟩
  · show own_S p e below T43 m 24 #[rv ax, rv s1x, rv s2x] [] _
    exact X43.returnOut hx Bd.returns (hb hby d10_24) hr
  · show QIni Z ax s1x t1x k1x c1x s2x t2x k2x c2x zc fm h0 n0 _ T43.heap _
    rw [e43]
    have En_46 := (En_42.wr W43)
    have Fn_47 := (((Fw16.ext E19).keep K38 nin0).other W43 (Or.inr (slot_ne (Or.inr (hw _ (List.mem_of_getElem? (i := 116) rfl))) (Or.inr (hw _ (List.mem_of_getElem? (i := 119) rfl))) (by decide) (t := (.object "java/lang/String")) (t' := (.object "java/lang/String")) (by decide) (by decide))))
    exact ⟨rfl, N43, (((((((Keep.refl h0 [ax]).ext E3).trans K11 all0).wr W16 (Or.inl (List.mem_of_getElem? (i := 0) rfl))).ext E19).trans K38 all0).wr W43 (Or.inl (List.mem_of_getElem? (i := 0) rfl))), En_46, Fn_47, Fw43⟩
  · show CHr Z consts_1 s.vm s.heap T43.vm T43.heap
    rw [hh]
    rw [e43]
    exact R44.trans (CHv.at (s := s) (vm0 := T38.vm) X43 hZ38 (own_EL hw) R44.1)
theorem ef_EqT (m : MethodId) (ax : Addr) (bx : Addr) : entryFrame m #[(.ref ax), (.ref bx)] 3 = mkF m 0 #[rv ax, rv bx, .unset] [] := by first | (simp [entryFrame, mkF, argsToLocals, Value.category]; done) | rfl
def QEqT (Z : State) (ax bx : Addr) (s1x t1x : Addr) (k1x : ClassId) (c1x : List Int32) (s2x t2x : Addr) (k2x : ClassId) (c2x : List Int32) (s3x t3x : Addr) (k3x : ClassId) (c3x : List Int32) (s4x t4x : Addr) (k4x : ClassId) (c4x : List Int32) (zc : Int32) (h0 : Heap) (n0 : Nat) (v : Option Value) (h : Heap) (L : List Loc) : Prop := v = some (.int (if c1x = c3x ∧ c2x = c4x then 1 else 0)) ∧ Fr n0 L ∧ h = h0
theorem d26_0 : decode prog_117_method_6_code 0 = .ok (.aload_n 1, 1) := by decide +kernel
theorem d26_1 : decode prog_117_method_6_code 1 = .ok (.instanceof 10, 3) := by decide +kernel
theorem d26_4 : decode prog_117_method_6_code 4 = .ok (.ifCond .eq 40, 3) := by decide +kernel
theorem d26_7 : decode prog_117_method_6_code 7 = .ok (.aload_n 1, 1) := by decide +kernel
theorem d26_8 : decode prog_117_method_6_code 8 = .ok (.checkcast 10, 3) := by decide +kernel
theorem d26_11 : decode prog_117_method_6_code 11 = .ok (.astore_n 2, 1) := by decide +kernel
theorem d26_12 : decode prog_117_method_6_code 12 = .ok (.aload_n 0, 1) := by decide +kernel
theorem d26_13 : decode prog_117_method_6_code 13 = .ok (.getfield 15, 3) := by decide +kernel
theorem d26_16 : decode prog_117_method_6_code 16 = .ok (.aload_n 2, 1) := by decide +kernel
theorem d26_17 : decode prog_117_method_6_code 17 = .ok (.getfield 15, 3) := by decide +kernel
theorem d26_20 : decode prog_117_method_6_code 20 = .ok (.invokevirtual 89, 3) := by decide +kernel
theorem pd_12 : parseMethodDescriptor "(Ljava/lang/Object;)Z" = some ⟨[(.object "java/lang/Object")], some .boolean⟩ := by decide +kernel
theorem d26_23 : decode prog_117_method_6_code 23 = .ok (.ifCond .eq 21, 3) := by decide +kernel
theorem d26_26 : decode prog_117_method_6_code 26 = .ok (.aload_n 0, 1) := by decide +kernel
theorem d26_27 : decode prog_117_method_6_code 27 = .ok (.getfield 20, 3) := by decide +kernel
theorem d26_30 : decode prog_117_method_6_code 30 = .ok (.aload_n 2, 1) := by decide +kernel
theorem d26_31 : decode prog_117_method_6_code 31 = .ok (.getfield 20, 3) := by decide +kernel
theorem d26_34 : decode prog_117_method_6_code 34 = .ok (.invokevirtual 89, 3) := by decide +kernel
theorem d26_37 : decode prog_117_method_6_code 37 = .ok (.ifCond .eq 7, 3) := by decide +kernel
theorem d26_40 : decode prog_117_method_6_code 40 = .ok (.iconst 1, 1) := by decide +kernel
theorem d26_41 : decode prog_117_method_6_code 41 = .ok (.goto 4, 3) := by decide +kernel
theorem d26_45 : decode prog_117_method_6_code 45 = .ok (.ireturn, 1) := by decide +kernel
theorem d26_44 : decode prog_117_method_6_code 44 = .ok (.iconst 0, 1) := by decide +kernel
set_option maxRecDepth 65536 in
set_option maxHeartbeats 40000000 in
theorem rmEqT (l : Launch) (Z : State) (a0 : Array Value) (hw : ∀ d ∈ tables_1, d.before a0 Z = true) (ws : List Jvm.Cond) (ax bx : Addr) (s1x t1x : Addr) (k1x : ClassId) (c1x : List Int32) (s2x t2x : Addr) (k2x : ClassId) (c2x : List Int32) (s3x t3x : Addr) (k3x : ClassId) (c3x : List Int32) (s4x t4x : Addr) (k4x : ClassId) (c4x : List Int32) (zc : Int32) (h0 : Heap) (n0 : Nat) (Z0 : n0 ≤ h0.size) (E_ax : Exa Z h0 ax "com/example/garter/garter/schema/TableName") (Fd_ax : Fld Z h0 ax "com/example/garter/garter/schema/TableName" "database" "Ljava/lang/String;" (.ref s1x)) (Ft_ax : Fld Z h0 ax "com/example/garter/garter/schema/TableName" "table" "Ljava/lang/String;" (.ref s2x)) (E_bx : Exa Z h0 bx "com/example/garter/garter/schema/TableName") (Fd_bx : Fld Z h0 bx "com/example/garter/garter/schema/TableName" "database" "Ljava/lang/String;" (.ref s3x)) (Ft_bx : Fld Z h0 bx "com/example/garter/garter/schema/TableName" "table" "Ljava/lang/String;" (.ref s4x)) (E_s1x : Exa Z h0 s1x "java/lang/String") (C_s1x : Fld Z h0 s1x "java/lang/String" "coder" "B" (.int 0)) (V_s1x : Fld Z h0 s1x "java/lang/String" "value" "[B" (.ref t1x)) (A_s1x : Arv Z h0 t1x k1x .byte (Int32.ofNat c1x.length) (own_bs c1x) (.int 0)) (E_s2x : Exa Z h0 s2x "java/lang/String") (C_s2x : Fld Z h0 s2x "java/lang/String" "coder" "B" (.int 0)) (V_s2x : Fld Z h0 s2x "java/lang/String" "value" "[B" (.ref t2x)) (A_s2x : Arv Z h0 t2x k2x .byte (Int32.ofNat c2x.length) (own_bs c2x) (.int 0)) (E_s3x : Exa Z h0 s3x "java/lang/String") (C_s3x : Fld Z h0 s3x "java/lang/String" "coder" "B" (.int 0)) (V_s3x : Fld Z h0 s3x "java/lang/String" "value" "[B" (.ref t3x)) (A_s3x : Arv Z h0 t3x k3x .byte (Int32.ofNat c3x.length) (own_bs c3x) (.int 0)) (E_s4x : Exa Z h0 s4x "java/lang/String") (C_s4x : Fld Z h0 s4x "java/lang/String" "coder" "B" (.int 0)) (V_s4x : Fld Z h0 s4x "java/lang/String" "value" "[B" (.ref t4x)) (A_s4x : Arv Z h0 t4x k4x .byte (Int32.ofNat c4x.length) (own_bs c4x) (.int 0)) (S_c : Sta Z h0 "java/lang/String" "COMPACT_STRINGS" "Z" (.int zc)) (hzc : ¬ zc = 0) (hc1x : own_ok c1x) (hc2x : own_ok c2x) (hc3x : own_ok c3x) (hc4x : own_ok c4x) :
    MetFree l (⟨"com/example/garter/garter/schema/TableName", "equals", "(Ljava/lang/Object;)Z"⟩ : MethodName) (head1 (Jvm.Cond.code (⟨"com/example/garter/garter/schema/TableName", "equals", "(Ljava/lang/Object;)Z"⟩ : MethodName) prog_117_method_6_code 3 (some .boolean) :: ws) ({ frames := 3, cells := 0, slots := 0, locals := 42 } : Room)) (fun a U => a = #[(.ref ax), (.ref bx)] ∧ Z.Warmed39 U.vm ∧ U.heap = h0) (fun _ _ _ _ _ => True) (fun _ U o U' => ∃ v L, o = .returned v ∧ QEqT Z ax bx s1x t1x k1x c1x s2x t2x k2x c2x s3x t3x k3x c3x s4x t4x k4x c4x zc h0 n0 v U'.heap L ∧ FrameEnd U o U' L ({ frames := 3, cells := 0, slots := 0, locals := 42 } : Room).cells ({ frames := 3, cells := 0, slots := 0, locals := 42 } : Room).slots) := by
  refine MetFree.of_bodySF (plainFor_of_name pn_5) hisR ?_
  intro p e s m args below meth c s₁ Bd hml0 hP hK
  obtain ⟨rfl, hZ, hh⟩ := hP
  have hx := Bd.exec
  have hby := Bd.bytes
  have hml : c.maxLocals = 3 := hml0
  have hown : s.vm.findClass "com/example/garter/garter/schema/TableName" = some m.cls := findClass_of_methodNamed Bd.named
  have hnm := (name_of_methodNamed Bd.named Bd.method).1
  have X0 : Stand p l e ({ frames := 3, cells := 0, slots := 0, locals := 42 } : Room) s m #[(.ref ax), (.ref bx)] below meth c s₁ [] 0 0 := Stand.of_body Bd
  have e0 : s₁.heap = h0 := by rw [← hh, Bd.state]; rfl
  have N0 := Fr.nil n0
  have pre0 : ∀ tg, Steps p.tables e below (s₁.setTop (mkF m 0 #[rv ax, rv bx, .unset] [])) tg → Steps p.tables e below (s₁.setTop (entryFrame m #[(.ref ax), (.ref bx)] 3)) tg := fun tg k => castTop (ef_EqT m ax bx) k
  by_cases hA : c1x = c3x
  ·  -- case
    by_cases hB : c2x = c4x
    ·  -- case
      obtain ⟨T1, X1, e1, st1⟩ := instY X0 hx hZ hown (hw _ (List.mem_of_getElem? (i := 130) rfl)) e0 (Ins.self E_bx) (g := (mkF m 1 #[rv ax, rv bx, .unset] [(.ref bx)])) rfl rfl (hb hby d26_1)
      obtain ⟨T2, X2, e2, st2⟩ := castY X1 hx hZ hown (hw _ (List.mem_of_getElem? (i := 130) rfl)) e1 (Ins.self E_bx) (g := (mkF m 8 #[rv ax, rv bx, .unset] [(.ref bx)])) rfl rfl (hb hby d26_8)
      obtain ⟨T3, X3, e3, st3⟩ := getF X2 hx hZ hown (host := "") (Or.inl (hw _ (List.mem_of_getElem? (i := 115) rfl))) Via.refl e2 Fd_ax (g := (mkF m 13 #[rv ax, rv bx, rv bx] [(.ref ax)])) rfl rfl (hb hby d26_13)
      obtain ⟨T4, X4, e4, st4⟩ := getF X3 hx hZ hown (host := "") (Or.inl (hw _ (List.mem_of_getElem? (i := 115) rfl))) Via.refl e3 Fd_bx (g := (mkF m 17 #[rv ax, rv bx, rv bx] [(.ref bx), (.ref s1x)])) rfl rfl (hb hby d26_17)
      obtain ⟨cq5, kq5, q5a, q5b, q5c⟩ := isOf hZ e4 E_s1x
      obtain ⟨_, _, ⟨T5, L5, k5, n5⟩, -, X5, ⟨Lc5, hQ5, l5, y5, z5⟩, st5⟩ := X4.virtualBack hx (y := (⟨"java/lang/String", "equals", "(Ljava/lang/Object;)Z"⟩ : MethodName)) (z := (⟨"java/lang/String", "equals", "(Ljava/lang/Object;)Z"⟩ : MethodName)) hown (mvT hZ (hw _ (List.mem_of_getElem? (i := 132) rfl))) (mvT hZ (hw _ (List.mem_of_getElem? (i := 133) rfl))) (notFace_of_selects (args := #[]) (mvT hZ (hw _ (List.mem_of_getElem? (i := 135) rfl)))) (mvT hZ (hw _ (List.mem_of_getElem? (i := 135) rfl))) (mvT hZ (hw _ (List.mem_of_getElem? (i := 134) rfl))) (by decide) (StrChars.Road.eqW (W := 0) hZ (own_wQ hw) (hw _ (List.mem_of_getElem? (i := 12) rfl)) (cs := c1x) E_s1x V_s1x C_s1x A_s1x (own_cod hc1x) (own_hp hc1x) (own_len hc1x) (ds := c3x) E_s3x V_s3x C_s3x A_s3x (own_cod hc3x) (own_hp hc3x) (own_len hc3x) S_c hzc (by decide) (by decide)) q5a q5c (g := (mkF m 20 #[rv ax, rv bx, rv bx] [(.ref s3x), (.ref s1x)])) rfl (by rw [hml]; rfl) (Steps.refl _) (argsL := [(.ref s3x)]) (rest := []) (lenOf pd_12 rfl) rfl (by show 2 * 0 + _ ≤ _; exact Nat.le_of_eq rfl) (hb hby d26_20) (fun _ _ => ⟨rfl, e4, (by decide : 0 + 0 ≤ _), (by decide : 0 + 0 ≤ _)⟩)
      dsimp only [Pt.U, Pt.locs, Pt.cells, Pt.slots] at X5 l5 y5 z5 st5 hQ5
      subst l5 y5 z5
      obtain ⟨hv5, hL5, e5q⟩ := hQ5
      subst hL5
      have N5 := Fr.app N0 (Fr.nil n0)
      have hu5 := own_or1 hv5 hA
      subst hu5
      have e5 : T5.heap = h0 := e5q
      obtain ⟨T6, X6, e6, st6⟩ := getF X5 hx hZ hown (host := "") (Or.inl (hw _ (List.mem_of_getElem? (i := 118) rfl))) Via.refl e5 Ft_ax (g := (mkF m 27 #[rv ax, rv bx, rv bx] [(.ref ax)])) rfl rfl (hb hby d26_27)
      obtain ⟨T7, X7, e7, st7⟩ := getF X6 hx hZ hown (host := "") (Or.inl (hw _ (List.mem_of_getElem? (i := 118) rfl))) Via.refl e6 Ft_bx (g := (mkF m 31 #[rv ax, rv bx, rv bx] [(.ref bx), (.ref s2x)])) rfl rfl (hb hby d26_31)
      obtain ⟨cq8, kq8, q8a, q8b, q8c⟩ := isOf hZ e7 E_s2x
      obtain ⟨_, _, ⟨T8, L8, k8, n8⟩, -, X8, ⟨Lc8, hQ8, l8, y8, z8⟩, st8⟩ := X7.virtualBack hx (y := (⟨"java/lang/String", "equals", "(Ljava/lang/Object;)Z"⟩ : MethodName)) (z := (⟨"java/lang/String", "equals", "(Ljava/lang/Object;)Z"⟩ : MethodName)) hown (mvT hZ (hw _ (List.mem_of_getElem? (i := 132) rfl))) (mvT hZ (hw _ (List.mem_of_getElem? (i := 133) rfl))) (notFace_of_selects (args := #[]) (mvT hZ (hw _ (List.mem_of_getElem? (i := 135) rfl)))) (mvT hZ (hw _ (List.mem_of_getElem? (i := 135) rfl))) (mvT hZ (hw _ (List.mem_of_getElem? (i := 134) rfl))) (by decide) (StrChars.Road.eqW (W := 0) hZ (own_wQ hw) (hw _ (List.mem_of_getElem? (i := 12) rfl)) (cs := c2x) E_s2x V_s2x C_s2x A_s2x (own_cod hc2x) (own_hp hc2x) (own_len hc2x) (ds := c4x) E_s4x V_s4x C_s4x A_s4x (own_cod hc4x) (own_hp hc4x) (own_len hc4x) S_c hzc (by decide) (by decide)) q8a q8c (g := (mkF m 34 #[rv ax, rv bx, rv bx] [(.ref s4x), (.ref s2x)])) rfl (by rw [hml]; rfl) (Steps.refl _) (argsL := [(.ref s4x)]) (rest := []) (lenOf pd_12 rfl) rfl (by show 2 * 0 + _ ≤ _; exact Nat.le_of_eq rfl) (hb hby d26_34) (fun _ _ => ⟨rfl, e7, (by decide : 0 + 0 ≤ _), (by decide : 0 + 0 ≤ _)⟩)
      dsimp only [Pt.U, Pt.locs, Pt.cells, Pt.slots] at X8 l8 y8 z8 st8 hQ8
      subst l8 y8 z8
      obtain ⟨hv8, hL8, e8q⟩ := hQ8
      subst hL8
      have N8 := Fr.app N5 (Fr.nil n0)
      have hu8 := own_or1 hv8 hB
      subst hu8
      have e8 : T8.heap = h0 := e8q
      have pre9 : ∀ tg, own_S p e below T8 m 45 #[rv ax, rv bx, rv bx] [(.int (1 : Int32))] tg → Steps p.tables e below (s₁.setTop (entryFrame m #[(.ref ax), (.ref bx)] 3)) tg := fun tg k => pre0 tg (by
        show own_S p e below s₁ m 0 #[rv ax, rv bx, .unset] [] _
        refine XS.aloadN X0.here hx rfl (hb hby d26_0) rfl rfl ?_
        refine st1 _ ?_
        refine XS.ifNo X1.here hx rfl (hb hby d26_4) rfl ((if0 _ _).trans (feq (by decide : ¬ ((1 : Int32) = (0 : Int32)))).1) ?_
        show own_S p e below T1 m 7 #[rv ax, rv bx, .unset] [] _
        refine XS.aloadN X1.here hx rfl (hb hby d26_7) rfl rfl ?_
        refine st2 _ ?_
        refine XS.astoreN X2.here hx rfl (hb hby d26_11) rfl rfl (l' := #[rv ax, rv bx, rv bx]) rfl ?_
        show own_S p e below T2 m 12 #[rv ax, rv bx, rv bx] [] _
        refine XS.aloadN X2.here hx rfl (hb hby d26_12) rfl rfl ?_
        refine st3 _ ?_
        refine XS.aloadN X3.here hx rfl (hb hby d26_16) rfl rfl ?_
        show own_S p e below T3 m 17 #[rv ax, rv bx, rv bx] [(.ref bx), (.ref s1x)] _
        refine st4 _ ?_
        refine st5.trans ?_
        refine XS.ifNo X5.here hx rfl (hb hby d26_23) rfl ((if0 _ _).trans (feq (by decide : ¬ ((1 : Int32) = (0 : Int32)))).1) ?_
        show own_S p e below T5 m 26 #[rv ax, rv bx, rv bx] [] _
        refine XS.aloadN X5.here hx rfl (hb hby d26_26) rfl rfl ?_
        refine st6 _ ?_
        refine XS.aloadN X6.here hx rfl (hb hby d26_30) rfl rfl ?_
        show own_S p e below T6 m 31 #[rv ax, rv bx, rv bx] [(.ref bx), (.ref s2x)] _
        refine st7 _ ?_
        refine st8.trans ?_
        refine XS.ifNo X8.here hx rfl (hb hby d26_37) rfl ((if0 _ _).trans (feq (by decide : ¬ ((1 : Int32) = (0 : Int32)))).1) ?_
        show own_S p e below T8 m 40 #[rv ax, rv bx, rv bx] [] _
        refine XS.iconst X8.here hx rfl (hb hby d26_40) ?_
        refine XS.goto X8.here hx rfl (pc0 := 41) (pc' := 45) rfl (hb hby d26_41) (by decide) (by decide) ?_
        exact k)
      obtain ⟨fs, hr, hrun, hended, hW, hsame⟩ := X8.leave (v := some (.int (nar .boolean (1 : Int32)))) (fun h => by rw [Bd.returns] at h; cases h)
      refine ⟨_, _, pre9 _ ?_, hrun, hended, _, _, rfl, ?_, ⟨_, rfl⟩, hW, hsame.mono (by decide) (by decide)⟩
      · show own_S p e below T8 m 45 #[rv ax, rv bx, rv bx] [(.int (1 : Int32))] _
        exact retN X8 hx (t := .boolean) Bd.returns (by simp) (hb hby d26_45) hr
      · show QEqT Z ax bx s1x t1x k1x c1x s2x t2x k2x c2x s3x t3x k3x c3x s4x t4x k4x c4x zc h0 n0 _ T8.heap _
        rw [e8]
        refine ⟨?_, N8, rfl⟩
        rw [if_pos ⟨hA, hB⟩]; rfl
    ·  -- case
      obtain ⟨T10, X10, e10, st10⟩ := instY X0 hx hZ hown (hw _ (List.mem_of_getElem? (i := 130) rfl)) e0 (Ins.self E_bx) (g := (mkF m 1 #[rv ax, rv bx, .unset] [(.ref bx)])) rfl rfl (hb hby d26_1)
      obtain ⟨T11, X11, e11, st11⟩ := castY X10 hx hZ hown (hw _ (List.mem_of_getElem? (i := 130) rfl)) e10 (Ins.self E_bx) (g := (mkF m 8 #[rv ax, rv bx, .unset] [(.ref bx)])) rfl rfl (hb hby d26_8)
      obtain ⟨T12, X12, e12, st12⟩ := getF X11 hx hZ hown (host := "") (Or.inl (hw _ (List.mem_of_getElem? (i := 115) rfl))) Via.refl e11 Fd_ax (g := (mkF m 13 #[rv ax, rv bx, rv bx] [(.ref ax)])) rfl rfl (hb hby d26_13)
      obtain ⟨T13, X13, e13, st13⟩ := getF X12 hx hZ hown (host := "") (Or.inl (hw _ (List.mem_of_getElem? (i := 115) rfl))) Via.refl e12 Fd_bx (g := (mkF m 17 #[rv ax, rv bx, rv bx] [(.ref bx), (.ref s1x)])) rfl rfl (hb hby d26_17)
      obtain ⟨cq14, kq14, q14a, q14b, q14c⟩ := isOf hZ e13 E_s1x
      obtain ⟨_, _, ⟨T14, L14, k14, n14⟩, -, X14, ⟨Lc14, hQ14, l14, y14, z14⟩, st14⟩ := X13.virtualBack hx (y := (⟨"java/lang/String", "equals", "(Ljava/lang/Object;)Z"⟩ : MethodName)) (z := (⟨"java/lang/String", "equals", "(Ljava/lang/Object;)Z"⟩ : MethodName)) hown (mvT hZ (hw _ (List.mem_of_getElem? (i := 132) rfl))) (mvT hZ (hw _ (List.mem_of_getElem? (i := 133) rfl))) (notFace_of_selects (args := #[]) (mvT hZ (hw _ (List.mem_of_getElem? (i := 135) rfl)))) (mvT hZ (hw _ (List.mem_of_getElem? (i := 135) rfl))) (mvT hZ (hw _ (List.mem_of_getElem? (i := 134) rfl))) (by decide) (StrChars.Road.eqW (W := 0) hZ (own_wQ hw) (hw _ (List.mem_of_getElem? (i := 12) rfl)) (cs := c1x) E_s1x V_s1x C_s1x A_s1x (own_cod hc1x) (own_hp hc1x) (own_len hc1x) (ds := c3x) E_s3x V_s3x C_s3x A_s3x (own_cod hc3x) (own_hp hc3x) (own_len hc3x) S_c hzc (by decide) (by decide)) q14a q14c (g := (mkF m 20 #[rv ax, rv bx, rv bx] [(.ref s3x), (.ref s1x)])) rfl (by rw [hml]; rfl) (Steps.refl _) (argsL := [(.ref s3x)]) (rest := []) (lenOf pd_12 rfl) rfl (by show 2 * 0 + _ ≤ _; exact Nat.le_of_eq rfl) (hb hby d26_20) (fun _ _ => ⟨rfl, e13, (by decide : 0 + 0 ≤ _), (by decide : 0 + 0 ≤ _)⟩)
      dsimp only [Pt.U, Pt.locs, Pt.cells, Pt.slots] at X14 l14 y14 z14 st14 hQ14
      subst l14 y14 z14
      obtain ⟨hv14, hL14, e14q⟩ := hQ14
      subst hL14
      have N14 := Fr.app N0 (Fr.nil n0)
      have hu14 := own_or1 hv14 hA
      subst hu14
      have e14 : T14.heap = h0 := e14q
      obtain ⟨T15, X15, e15, st15⟩ := getF X14 hx hZ hown (host := "") (Or.inl (hw _ (List.mem_of_getElem? (i := 118) rfl))) Via.refl e14 Ft_ax (g := (mkF m 27 #[rv ax, rv bx, rv bx] [(.ref ax)])) rfl rfl (hb hby d26_27)
      obtain ⟨T16, X16, e16, st16⟩ := getF X15 hx hZ hown (host := "") (Or.inl (hw _ (List.mem_of_getElem? (i := 118) rfl))) Via.refl e15 Ft_bx (g := (mkF m 31 #[rv ax, rv bx, rv bx] [(.ref bx), (.ref s2x)])) rfl rfl (hb hby d26_31)
      obtain ⟨cq17, kq17, q17a, q17b, q17c⟩ := isOf hZ e16 E_s2x
      obtain ⟨_, _, ⟨T17, L17, k17, n17⟩, -, X17, ⟨Lc17, hQ17, l17, y17, z17⟩, st17⟩ := X16.virtualBack hx (y := (⟨"java/lang/String", "equals", "(Ljava/lang/Object;)Z"⟩ : MethodName)) (z := (⟨"java/lang/String", "equals", "(Ljava/lang/Object;)Z"⟩ : MethodName)) hown (mvT hZ (hw _ (List.mem_of_getElem? (i := 132) rfl))) (mvT hZ (hw _ (List.mem_of_getElem? (i := 133) rfl))) (notFace_of_selects (args := #[]) (mvT hZ (hw _ (List.mem_of_getElem? (i := 135) rfl)))) (mvT hZ (hw _ (List.mem_of_getElem? (i := 135) rfl))) (mvT hZ (hw _ (List.mem_of_getElem? (i := 134) rfl))) (by decide) (StrChars.Road.eqW (W := 0) hZ (own_wQ hw) (hw _ (List.mem_of_getElem? (i := 12) rfl)) (cs := c2x) E_s2x V_s2x C_s2x A_s2x (own_cod hc2x) (own_hp hc2x) (own_len hc2x) (ds := c4x) E_s4x V_s4x C_s4x A_s4x (own_cod hc4x) (own_hp hc4x) (own_len hc4x) S_c hzc (by decide) (by decide)) q17a q17c (g := (mkF m 34 #[rv ax, rv bx, rv bx] [(.ref s4x), (.ref s2x)])) rfl (by rw [hml]; rfl) (Steps.refl _) (argsL := [(.ref s4x)]) (rest := []) (lenOf pd_12 rfl) rfl (by show 2 * 0 + _ ≤ _; exact Nat.le_of_eq rfl) (hb hby d26_34) (fun _ _ => ⟨rfl, e16, (by decide : 0 + 0 ≤ _), (by decide : 0 + 0 ≤ _)⟩)
      dsimp only [Pt.U, Pt.locs, Pt.cells, Pt.slots] at X17 l17 y17 z17 st17 hQ17
      subst l17 y17 z17
      obtain ⟨hv17, hL17, e17q⟩ := hQ17
      subst hL17
      have N17 := Fr.app N14 (Fr.nil n0)
      have hu17 := own_or0 hv17 hB
      subst hu17
      have e17 : T17.heap = h0 := e17q
      have pre18 : ∀ tg, own_S p e below T17 m 45 #[rv ax, rv bx, rv bx] [(.int (0 : Int32))] tg → Steps p.tables e below (s₁.setTop (entryFrame m #[(.ref ax), (.ref bx)] 3)) tg := fun tg k => pre0 tg (by
        show own_S p e below s₁ m 0 #[rv ax, rv bx, .unset] [] _
        refine XS.aloadN X0.here hx rfl (hb hby d26_0) rfl rfl ?_
        refine st10 _ ?_
        refine XS.ifNo X10.here hx rfl (hb hby d26_4) rfl ((if0 _ _).trans (feq (by decide : ¬ ((1 : Int32) = (0 : Int32)))).1) ?_
        show own_S p e below T10 m 7 #[rv ax, rv bx, .unset] [] _
        refine XS.aloadN X10.here hx rfl (hb hby d26_7) rfl rfl ?_
        refine st11 _ ?_
        refine XS.astoreN X11.here hx rfl (hb hby d26_11) rfl rfl (l' := #[rv ax, rv bx, rv bx]) rfl ?_
        show own_S p e below T11 m 12 #[rv ax, rv bx, rv bx] [] _
        refine XS.aloadN X11.here hx rfl (hb hby d26_12) rfl rfl ?_
        refine st12 _ ?_
        refine XS.aloadN X12.here hx rfl (hb hby d26_16) rfl rfl ?_
        show own_S p e below T12 m 17 #[rv ax, rv bx, rv bx] [(.ref bx), (.ref s1x)] _
        refine st13 _ ?_
        refine st14.trans ?_
        refine XS.ifNo X14.here hx rfl (hb hby d26_23) rfl ((if0 _ _).trans (feq (by decide : ¬ ((1 : Int32) = (0 : Int32)))).1) ?_
        show own_S p e below T14 m 26 #[rv ax, rv bx, rv bx] [] _
        refine XS.aloadN X14.here hx rfl (hb hby d26_26) rfl rfl ?_
        refine st15 _ ?_
        refine XS.aloadN X15.here hx rfl (hb hby d26_30) rfl rfl ?_
        show own_S p e below T15 m 31 #[rv ax, rv bx, rv bx] [(.ref bx), (.ref s2x)] _
        refine st16 _ ?_
        refine st17.trans ?_
        refine XS.ifYes X17.here hx rfl (pc0 := 37) (pc' := 44) rfl (hb hby d26_37) rfl ((if0 _ _).trans (teq (by decide : (0 : Int32) = (0 : Int32))).1) (by decide) (by decide) ?_
        show own_S p e below T17 m 44 #[rv ax, rv bx, rv bx] [] _
        refine XS.iconst X17.here hx rfl (hb hby d26_44) ?_
        exact k)
      obtain ⟨fs, hr, hrun, hended, hW, hsame⟩ := X17.leave (v := some (.int (nar .boolean (0 : Int32)))) (fun h => by rw [Bd.returns] at h; cases h)
      refine ⟨_, _, pre18 _ ?_, hrun, hended, _, _, rfl, ?_, ⟨_, rfl⟩, hW, hsame.mono (by decide) (by decide)⟩
      · show own_S p e below T17 m 45 #[rv ax, rv bx, rv bx] [(.int (0 : Int32))] _
        exact retN X17 hx (t := .boolean) Bd.returns (by simp) (hb hby d26_45) hr
      · show QEqT Z ax bx s1x t1x k1x c1x s2x t2x k2x c2x s3x t3x k3x c3x s4x t4x k4x c4x zc h0 n0 _ T17.heap _
        rw [e17]
        refine ⟨?_, N17, rfl⟩
        rw [if_neg (fun q => hB q.2)]; rfl
  ·  -- case
    obtain ⟨T19, X19, e19, st19⟩ := instY X0 hx hZ hown (hw _ (List.mem_of_getElem? (i := 130) rfl)) e0 (Ins.self E_bx) (g := (mkF m 1 #[rv ax, rv bx, .unset] [(.ref bx)])) rfl rfl (hb hby d26_1)
    obtain ⟨T20, X20, e20, st20⟩ := castY X19 hx hZ hown (hw _ (List.mem_of_getElem? (i := 130) rfl)) e19 (Ins.self E_bx) (g := (mkF m 8 #[rv ax, rv bx, .unset] [(.ref bx)])) rfl rfl (hb hby d26_8)
    obtain ⟨T21, X21, e21, st21⟩ := getF X20 hx hZ hown (host := "") (Or.inl (hw _ (List.mem_of_getElem? (i := 115) rfl))) Via.refl e20 Fd_ax (g := (mkF m 13 #[rv ax, rv bx, rv bx] [(.ref ax)])) rfl rfl (hb hby d26_13)
    obtain ⟨T22, X22, e22, st22⟩ := getF X21 hx hZ hown (host := "") (Or.inl (hw _ (List.mem_of_getElem? (i := 115) rfl))) Via.refl e21 Fd_bx (g := (mkF m 17 #[rv ax, rv bx, rv bx] [(.ref bx), (.ref s1x)])) rfl rfl (hb hby d26_17)
    obtain ⟨cq23, kq23, q23a, q23b, q23c⟩ := isOf hZ e22 E_s1x
    obtain ⟨_, _, ⟨T23, L23, k23, n23⟩, -, X23, ⟨Lc23, hQ23, l23, y23, z23⟩, st23⟩ := X22.virtualBack hx (y := (⟨"java/lang/String", "equals", "(Ljava/lang/Object;)Z"⟩ : MethodName)) (z := (⟨"java/lang/String", "equals", "(Ljava/lang/Object;)Z"⟩ : MethodName)) hown (mvT hZ (hw _ (List.mem_of_getElem? (i := 132) rfl))) (mvT hZ (hw _ (List.mem_of_getElem? (i := 133) rfl))) (notFace_of_selects (args := #[]) (mvT hZ (hw _ (List.mem_of_getElem? (i := 135) rfl)))) (mvT hZ (hw _ (List.mem_of_getElem? (i := 135) rfl))) (mvT hZ (hw _ (List.mem_of_getElem? (i := 134) rfl))) (by decide) (StrChars.Road.eqW (W := 0) hZ (own_wQ hw) (hw _ (List.mem_of_getElem? (i := 12) rfl)) (cs := c1x) E_s1x V_s1x C_s1x A_s1x (own_cod hc1x) (own_hp hc1x) (own_len hc1x) (ds := c3x) E_s3x V_s3x C_s3x A_s3x (own_cod hc3x) (own_hp hc3x) (own_len hc3x) S_c hzc (by decide) (by decide)) q23a q23c (g := (mkF m 20 #[rv ax, rv bx, rv bx] [(.ref s3x), (.ref s1x)])) rfl (by rw [hml]; rfl) (Steps.refl _) (argsL := [(.ref s3x)]) (rest := []) (lenOf pd_12 rfl) rfl (by show 2 * 0 + _ ≤ _; exact Nat.le_of_eq rfl) (hb hby d26_20) (fun _ _ => ⟨rfl, e22, (by decide : 0 + 0 ≤ _), (by decide : 0 + 0 ≤ _)⟩)
    dsimp only [Pt.U, Pt.locs, Pt.cells, Pt.slots] at X23 l23 y23 z23 st23 hQ23
    subst l23 y23 z23
    obtain ⟨hv23, hL23, e23q⟩ := hQ23
    subst hL23
    have N23 := Fr.app N0 (Fr.nil n0)
    have hu23 := own_or0 hv23 hA
    subst hu23
    have e23 : T23.heap = h0 := e23q
    have pre24 : ∀ tg, own_S p e below T23 m 45 #[rv ax, rv bx, rv bx] [(.int (0 : Int32))] tg → Steps p.tables e below (s₁.setTop (entryFrame m #[(.ref ax), (.ref bx)] 3)) tg := fun tg k => pre0 tg (by
      show own_S p e below s₁ m 0 #[rv ax, rv bx, .unset] [] _
      refine XS.aloadN X0.here hx rfl (hb hby d26_0) rfl rfl ?_
      refine st19 _ ?_
      refine XS.ifNo X19.here hx rfl (hb hby d26_4) rfl ((if0 _ _).trans (feq (by decide : ¬ ((1 : Int32) = (0 : Int32)))).1) ?_
      show own_S p e below T19 m 7 #[rv ax, rv bx, .unset] [] _
      refine XS.aloadN X19.here hx rfl (hb hby d26_7) rfl rfl ?_
      refine st20 _ ?_
      refine XS.astoreN X20.here hx rfl (hb hby d26_11) rfl rfl (l' := #[rv ax, rv bx, rv bx]) rfl ?_
      show own_S p e below T20 m 12 #[rv ax, rv bx, rv bx] [] _
      refine XS.aloadN X20.here hx rfl (hb hby d26_12) rfl rfl ?_
      refine st21 _ ?_
      refine XS.aloadN X21.here hx rfl (hb hby d26_16) rfl rfl ?_
      show own_S p e below T21 m 17 #[rv ax, rv bx, rv bx] [(.ref bx), (.ref s1x)] _
      refine st22 _ ?_
      refine st23.trans ?_
      refine XS.ifYes X23.here hx rfl (pc0 := 23) (pc' := 44) rfl (hb hby d26_23) rfl ((if0 _ _).trans (teq (by decide : (0 : Int32) = (0 : Int32))).1) (by decide) (by decide) ?_
      show own_S p e below T23 m 44 #[rv ax, rv bx, rv bx] [] _
      refine XS.iconst X23.here hx rfl (hb hby d26_44) ?_
      exact k)
    obtain ⟨fs, hr, hrun, hended, hW, hsame⟩ := X23.leave (v := some (.int (nar .boolean (0 : Int32)))) (fun h => by rw [Bd.returns] at h; cases h)
    refine ⟨_, _, pre24 _ ?_, hrun, hended, _, _, rfl, ?_, ⟨_, rfl⟩, hW, hsame.mono (by decide) (by decide)⟩
    · show own_S p e below T23 m 45 #[rv ax, rv bx, rv bx] [(.int (0 : Int32))] _
      exact retN X23 hx (t := .boolean) Bd.returns (by simp) (hb hby d26_45) hr
    · show QEqT Z ax bx s1x t1x k1x c1x s2x t2x k2x c2x s3x t3x k3x c3x s4x t4x k4x c4x zc h0 n0 _ T23.heap _
      rw [e23]
      refine ⟨?_, N23, rfl⟩
      rw [if_neg (fun q => hA q.1)]; rfl
theorem ef_EqN (m : MethodId) (ax : Addr) : entryFrame m #[(.ref ax), .null] 3 = mkF m 0 #[rv ax, .val .null, .unset] [] := by first | (simp [entryFrame, mkF, argsToLocals, Value.category]; done) | rfl
def QEqN (Z : State) (ax : Addr) (h0 : Heap) (n0 : Nat) (v : Option Value) (h : Heap) (L : List Loc) : Prop := v = some (.int 0) ∧ Fr n0 L ∧ h = h0
set_option maxRecDepth 65536 in
set_option maxHeartbeats 40000000 in
theorem rmEqN (l : Launch) (Z : State) (a0 : Array Value) (hw : ∀ d ∈ tables_1, d.before a0 Z = true) (ws : List Jvm.Cond) (ax : Addr) (h0 : Heap) (n0 : Nat) (Z0 : n0 ≤ h0.size)  :
    MetFree l (⟨"com/example/garter/garter/schema/TableName", "equals", "(Ljava/lang/Object;)Z"⟩ : MethodName) (head1 (Jvm.Cond.code (⟨"com/example/garter/garter/schema/TableName", "equals", "(Ljava/lang/Object;)Z"⟩ : MethodName) prog_117_method_6_code 3 (some .boolean) :: ws) ({ frames := 0, cells := 0, slots := 0, locals := 0 } : Room)) (fun a U => a = #[(.ref ax), .null] ∧ Z.Warmed39 U.vm ∧ U.heap = h0) (fun _ _ _ _ _ => True) (fun _ U o U' => ∃ v L, o = .returned v ∧ QEqN Z ax h0 n0 v U'.heap L ∧ FrameEnd U o U' L ({ frames := 0, cells := 0, slots := 0, locals := 0 } : Room).cells ({ frames := 0, cells := 0, slots := 0, locals := 0 } : Room).slots) := by
  refine MetFree.of_bodySF (plainFor_of_name pn_5) hisR ?_
  intro p e s m args below meth c s₁ Bd hml0 hP hK
  obtain ⟨rfl, hZ, hh⟩ := hP
  have hx := Bd.exec
  have hby := Bd.bytes
  have hml : c.maxLocals = 3 := hml0
  have hown : s.vm.findClass "com/example/garter/garter/schema/TableName" = some m.cls := findClass_of_methodNamed Bd.named
  have hnm := (name_of_methodNamed Bd.named Bd.method).1
  have X0 : Stand p l e ({ frames := 0, cells := 0, slots := 0, locals := 0 } : Room) s m #[(.ref ax), .null] below meth c s₁ [] 0 0 := Stand.of_body Bd
  have e0 : s₁.heap = h0 := by rw [← hh, Bd.state]; rfl
  have N0 := Fr.nil n0
  have pre0 : ∀ tg, Steps p.tables e below (s₁.setTop (mkF m 0 #[rv ax, .val .null, .unset] [])) tg → Steps p.tables e below (s₁.setTop (entryFrame m #[(.ref ax), .null] 3)) tg := fun tg k => castTop (ef_EqN m ax) k
  have pre1 : ∀ tg, own_S p e below s₁ m 45 #[rv ax, .val .null, .unset] [(.int (0 : Int32))] tg → Steps p.tables e below (s₁.setTop (entryFrame m #[(.ref ax), .null] 3)) tg := fun tg k => pre0 tg (by
    show own_S p e below s₁ m 0 #[rv ax, .val .null, .unset] [] _
    refine XS.aloadN X0.here hx rfl (hb hby d26_0) rfl rfl ?_
    refine X0.instanceofNull hx (g := (mkF m 1 #[rv ax, .val .null, .unset] [.null])) rfl rfl (hb hby d26_1) _ ?_
    refine XS.ifYes X0.here hx rfl (pc0 := 4) (pc' := 44) rfl (hb hby d26_4) rfl ((if0 _ _).trans (teq (by decide : (0 : Int32) = (0 : Int32))).1) (by decide) (by decide) ?_
    show own_S p e below s₁ m 44 #[rv ax, .val .null, .unset] [] _
    refine XS.iconst X0.here hx rfl (hb hby d26_44) ?_
    exact k)
  obtain ⟨fs, hr, hrun, hended, hW, hsame⟩ := X0.leave (v := some (.int (nar .boolean (0 : Int32)))) (fun h => by rw [Bd.returns] at h; cases h)
  refine ⟨_, _, pre1 _ ?_, hrun, hended, _, _, rfl, ?_, ⟨_, rfl⟩, hW, hsame.mono (by decide) (by decide)⟩
  · show own_S p e below s₁ m 45 #[rv ax, .val .null, .unset] [(.int (0 : Int32))] _
    exact retN X0 hx (t := .boolean) Bd.returns (by simp) (hb hby d26_45) hr
  · show QEqN Z ax h0 n0 _ s₁.heap _
    rw [e0]
    exact ⟨rfl, N0, rfl⟩
theorem ef_EqS (m : MethodId) (ax : Addr) (bx : Addr) : entryFrame m #[(.ref ax), (.ref bx)] 3 = mkF m 0 #[rv ax, rv bx, .unset] [] := by first | (simp [entryFrame, mkF, argsToLocals, Value.category]; done) | rfl
def QEqS (Z : State) (ax bx : Addr) (h0 : Heap) (n0 : Nat) (v : Option Value) (h : Heap) (L : List Loc) : Prop := v = some (.int 0) ∧ Fr n0 L ∧ h = h0
set_option maxRecDepth 65536 in
set_option maxHeartbeats 40000000 in
theorem rmEqS (l : Launch) (Z : State) (a0 : Array Value) (hw : ∀ d ∈ tables_1, d.before a0 Z = true) (ws : List Jvm.Cond) (ax bx : Addr) (h0 : Heap) (n0 : Nat) (Z0 : n0 ≤ h0.size) (E_bx : Exa Z h0 bx "java/lang/String") :
    MetFree l (⟨"com/example/garter/garter/schema/TableName", "equals", "(Ljava/lang/Object;)Z"⟩ : MethodName) (head1 (Jvm.Cond.code (⟨"com/example/garter/garter/schema/TableName", "equals", "(Ljava/lang/Object;)Z"⟩ : MethodName) prog_117_method_6_code 3 (some .boolean) :: ws) ({ frames := 0, cells := 0, slots := 0, locals := 0 } : Room)) (fun a U => a = #[(.ref ax), (.ref bx)] ∧ Z.Warmed39 U.vm ∧ U.heap = h0) (fun _ _ _ _ _ => True) (fun _ U o U' => ∃ v L, o = .returned v ∧ QEqS Z ax bx h0 n0 v U'.heap L ∧ FrameEnd U o U' L ({ frames := 0, cells := 0, slots := 0, locals := 0 } : Room).cells ({ frames := 0, cells := 0, slots := 0, locals := 0 } : Room).slots) := by
  refine MetFree.of_bodySF (plainFor_of_name pn_5) hisR ?_
  intro p e s m args below meth c s₁ Bd hml0 hP hK
  obtain ⟨rfl, hZ, hh⟩ := hP
  have hx := Bd.exec
  have hby := Bd.bytes
  have hml : c.maxLocals = 3 := hml0
  have hown : s.vm.findClass "com/example/garter/garter/schema/TableName" = some m.cls := findClass_of_methodNamed Bd.named
  have hnm := (name_of_methodNamed Bd.named Bd.method).1
  have X0 : Stand p l e ({ frames := 0, cells := 0, slots := 0, locals := 0 } : Room) s m #[(.ref ax), (.ref bx)] below meth c s₁ [] 0 0 := Stand.of_body Bd
  have e0 : s₁.heap = h0 := by rw [← hh, Bd.state]; rfl
  have N0 := Fr.nil n0
  have pre0 : ∀ tg, Steps p.tables e below (s₁.setTop (mkF m 0 #[rv ax, rv bx, .unset] [])) tg → Steps p.tables e below (s₁.setTop (entryFrame m #[(.ref ax), (.ref bx)] 3)) tg := fun tg k => castTop (ef_EqS m ax bx) k
  obtain ⟨T1, X1, e1, st1⟩ := instNo X0 hx hZ hown (hw _ (List.mem_of_getElem? (i := 130) rfl)) e0 E_bx (own_noT (hw _ (List.mem_of_getElem? (i := 141) rfl)) (hw _ (List.mem_of_getElem? (i := 142) rfl)) (hw _ (List.mem_of_getElem? (i := 41) rfl)) (by decide) (by decide)) (g := (mkF m 1 #[rv ax, rv bx, .unset] [(.ref bx)])) rfl rfl (hb hby d26_1)
  have pre2 : ∀ tg, own_S p e below T1 m 45 #[rv ax, rv bx, .unset] [(.int (0 : Int32))] tg → Steps p.tables e below (s₁.setTop (entryFrame m #[(.ref ax), (.ref bx)] 3)) tg := fun tg k => pre0 tg (by
    show own_S p e below s₁ m 0 #[rv ax, rv bx, .unset] [] _
    refine XS.aloadN X0.here hx rfl (hb hby d26_0) rfl rfl ?_
    refine st1 _ ?_
    refine XS.ifYes X1.here hx rfl (pc0 := 4) (pc' := 44) rfl (hb hby d26_4) rfl ((if0 _ _).trans (teq (by decide : (0 : Int32) = (0 : Int32))).1) (by decide) (by decide) ?_
    show own_S p e below T1 m 44 #[rv ax, rv bx, .unset] [] _
    refine XS.iconst X1.here hx rfl (hb hby d26_44) ?_
    exact k)
  obtain ⟨fs, hr, hrun, hended, hW, hsame⟩ := X1.leave (v := some (.int (nar .boolean (0 : Int32)))) (fun h => by rw [Bd.returns] at h; cases h)
  refine ⟨_, _, pre2 _ ?_, hrun, hended, _, _, rfl, ?_, ⟨_, rfl⟩, hW, hsame.mono (by decide) (by decide)⟩
  · show own_S p e below T1 m 45 #[rv ax, rv bx, .unset] [(.int (0 : Int32))] _
    exact retN X1 hx (t := .boolean) Bd.returns (by simp) (hb hby d26_45) hr
  · show QEqS Z ax bx h0 n0 _ T1.heap _
    rw [e1]
    exact ⟨rfl, N0, rfl⟩
theorem ef_0 (m : MethodId) (i0 : Int32) (i1 : Int32) (i2 : Int32) (i3 : Int32) (i4 : Int32) : entryFrame m #[(.int i0), (.int i1), (.int i2), (.int i3), (.int i4)] maxLocals = mkF m 0 #[iv i0, iv i1, iv i2, iv i3, iv i4, .unset, .unset, .unset, .unset, .unset, .unset, .unset, .unset] [] := by first | (simp [entryFrame, mkF, argsToLocals, Value.category, maxLocals]; done) | rfl
def Q0 (Z : State) (i0 i1 i2 i3 i4 : Int32) (zc : Int32) (fm : Value) (h0 : Heap) (n0 : Nat) (v : Option Value) (h : Heap) (L : List Loc) : Prop := v = some (.int 1) ∧ Fr n0 L
theorem pd_13 : parseMethodDescriptor "(I)Ljava/lang/String;" = some ⟨[.int], some (.object "java/lang/String")⟩ := by decide +kernel
theorem pd_14 : parseMethodDescriptor "(Ljava/lang/String;Ljava/lang/String;)V" = some ⟨[(.object "java/lang/String"), (.object "java/lang/String")], none⟩ := by decide +kernel
theorem pd_15 : parseMethodDescriptor "(Ljava/lang/String;Ljava/lang/String;)Z" = some ⟨[(.object "java/lang/String"), (.object "java/lang/String")], some .boolean⟩ := by decide +kernel
set_option maxRecDepth 65536 in
set_option maxHeartbeats 40000000 in
theorem rm0 (l : Launch) (Z : State) (a0 : Array Value) (hw : ∀ d ∈ tables_1, d.before a0 Z = true) (ws : List Jvm.Cond) (i0 i1 i2 i3 i4 : Int32) (zc : Int32) (fm : Value) (h0 : Heap) (n0 : Nat) (Z0 : n0 ≤ h0.size) (S_c : Sta Z h0 "java/lang/String" "COMPACT_STRINGS" "Z" (.int zc)) (hzc : ¬ zc = 0) (S_f : Sta Z h0 "jdk/internal/util/Preconditions" "SIOOBE_FORMATTER" "Ljava/util/function/BiFunction;" fm) (hfm : fm.isRef = true) :
    MetFree l x (head1 (Jvm.Cond.code x code maxLocals ret :: ws) room_1) (fun a U => a = #[(.int i0), (.int i1), (.int i2), (.int i3), (.int i4)] ∧ Z.Warmed39 U.vm ∧ U.heap = h0 ∧ CHv Z consts_1 U.vm h0) (fun _ _ _ _ _ => True) (fun _ U o U' => ∃ v L, o = .returned v ∧ Q0 Z i0 i1 i2 i3 i4 zc fm h0 n0 v U'.heap L ∧ CHr Z consts_1 U.vm U.heap U'.vm U'.heap ∧ ReturnedEndW U o U' L room_1.cells room_1.slots) := by
  refine MetFree.of_bodySF (plainFor_of_name pn_0) hisR ?_
  intro p e s m args below meth c s₁ Bd hml0 hP hK
  obtain ⟨rfl, hZ, hh, hH⟩ := hP
  have hx := Bd.exec
  have hby := Bd.bytes
  have hml : c.maxLocals = 13 := hml0
  have hown : s.vm.findClass "com/example/garter/garter/schema/TableNameEqualsPinLaw" = some m.cls := findClass_of_methodNamed Bd.named
  have hnm := (name_of_methodNamed Bd.named Bd.method).1
  have X0 : Stand p l e room_1 s m #[(.int i0), (.int i1), (.int i2), (.int i3), (.int i4)] below meth c s₁ [] 0 0 := Stand.of_body Bd
  have e0 : s₁.heap = h0 := by rw [← hh, Bd.state]; rfl
  have N0 := Fr.nil n0
  have pre0 : ∀ tg, Steps p.tables e below (s₁.setTop (mkF m 0 #[iv i0, iv i1, iv i2, iv i3, iv i4, .unset, .unset, .unset, .unset, .unset, .unset, .unset, .unset] [])) tg → Steps p.tables e below (s₁.setTop (entryFrame m #[(.int i0), (.int i1), (.int i2), (.int i3), (.int i4)] maxLocals)) tg := fun tg k => castTop (ef_0 m i0 i1 i2 i3 i4) k
  have hS0 : s.Since s.vm 0 := (State.WarmedH.refl s).since 0
  have R0 : CHr Z consts_1 s.vm h0 s.vm h0 := CHr.refl hH
  obtain ⟨_, _, ⟨T1, L1, k1, n1⟩, -, X1, ⟨Lc1, hQ1, l1, y1, z1⟩, st1⟩ := Jvm.LawKit.callS X0 hx (y := (⟨"com/example/garter/garter/schema/TableNameEqualsPinLaw", "mk", "(I)Ljava/lang/String;"⟩ : MethodName)) hown (mvT hZ (hw _ (List.mem_of_getElem? (i := 0) rfl))) (mvT hZ (hw _ (List.mem_of_getElem? (i := 1) rfl))) (mvT hZ (hw _ (List.mem_of_getElem? (i := 2) rfl))) (mvT hZ (hw _ (List.mem_of_getElem? (i := 3) rfl))) (by decide) (backOf (W := 0) (rmMk l Z a0 hw [] i0 zc h0 n0 Z0 S_c hzc) hZ (hw _ (List.mem_of_getElem? (i := 3) rfl)) (hw _ (List.mem_of_getElem? (i := 2) rfl)) (by decide) (by decide)) (g := (mkF m 1 #[iv i0, iv i1, iv i2, iv i3, iv i4, .unset, .unset, .unset, .unset, .unset, .unset, .unset, .unset] [(.int i0)])) rfl (by rw [hml]; rfl) (argsL := [(.int i0)]) (rest := []) (lenOf pd_13 rfl) rfl (by show 2 * 0 + _ ≤ _; exact Nat.le_of_eq rfl) (hb hby at_1) (fun _ _ => ⟨rfl, e0, (by decide : 0 + 3 ≤ _), (by decide : 0 + 8 ≤ _)⟩)
  dsimp only [Pt.U, Pt.locs, Pt.cells, Pt.slots] at X1 l1 y1 z1 st1 hQ1
  subst l1 y1 z1
  obtain ⟨sb1, st1x, sk1, rfl, N1q, K1, Ex1, Cd1, Vl1, Va1, -⟩ := hQ1
  have N1 := Fr.app N0 N1q
  have R2 := R0.trans (CHr.keep K1 sf0 R0.1)
  have Sn_3 := (own_sta_keep0 S_c K1)
  have Zs5 : n0 ≤ T1.heap.size := (Nat.le_trans Z0 K1.1)
  obtain ⟨_, _, ⟨T4, L4, k4, n4⟩, -, X4, ⟨Lc4, hQ4, l4, y4, z4⟩, st4⟩ := Jvm.LawKit.callS X1 hx (y := (⟨"com/example/garter/garter/schema/TableNameEqualsPinLaw", "mk", "(I)Ljava/lang/String;"⟩ : MethodName)) hown (mvT hZ (hw _ (List.mem_of_getElem? (i := 0) rfl))) (mvT hZ (hw _ (List.mem_of_getElem? (i := 1) rfl))) (mvT hZ (hw _ (List.mem_of_getElem? (i := 2) rfl))) (mvT hZ (hw _ (List.mem_of_getElem? (i := 3) rfl))) (by decide) (backOf (W := 0) (rmMk l Z a0 hw [] i1 zc T1.heap n0 Zs5 Sn_3 hzc) hZ (hw _ (List.mem_of_getElem? (i := 3) rfl)) (hw _ (List.mem_of_getElem? (i := 2) rfl)) (by decide) (by decide)) (g := (mkF m 7 #[iv i0, iv i1, iv i2, iv i3, iv i4, rv sb1, .unset, .unset, .unset, .unset, .unset, .unset, .unset] [(.int i1)])) rfl (by rw [hml]; rfl) (argsL := [(.int i1)]) (rest := []) (lenOf pd_13 rfl) rfl (by show 2 * 0 + _ ≤ _; exact Nat.le_of_eq rfl) (hb hby at_7) (fun _ _ => ⟨rfl, rfl, (by decide : 3 + 3 ≤ _), (by decide : 8 + 8 ≤ _)⟩)
  dsimp only [Pt.U, Pt.locs, Pt.cells, Pt.slots] at X4 l4 y4 z4 st4 hQ4
  subst l4 y4 z4
  obtain ⟨sb4, st4x, sk4, rfl, N4q, K4, Ex4, Cd4, Vl4, Va4, -⟩ := hQ4
  have N4 := Fr.app N1 N4q
  have R6 := R2.trans (CHr.keep K4 sf0 R2.1)
  have pre7 : ∀ tg, own_S p e below T4 m 12 #[iv i0, iv i1, iv i2, iv i3, iv i4, rv sb1, rv sb4, .unset, .unset, .unset, .unset, .unset, .unset] [] tg → Steps p.tables e below (s₁.setTop (entryFrame m #[(.int i0), (.int i1), (.int i2), (.int i3), (.int i4)] maxLocals)) tg := fun tg k => pre0 tg (by
    show own_S p e below s₁ m 0 #[iv i0, iv i1, iv i2, iv i3, iv i4, .unset, .unset, .unset, .unset, .unset, .unset, .unset, .unset] [] _
    refine XS.iloadN X0.here hx rfl (hb hby at_0) rfl ?_
    refine st1 _ ?_
    refine XS.astore X1.here hx rfl (hb hby at_4) rfl rfl (l' := #[iv i0, iv i1, iv i2, iv i3, iv i4, rv sb1, .unset, .unset, .unset, .unset, .unset, .unset, .unset]) rfl ?_
    show own_S p e below T1 m 6 #[iv i0, iv i1, iv i2, iv i3, iv i4, rv sb1, .unset, .unset, .unset, .unset, .unset, .unset, .unset] [] _
    refine XS.iloadN X1.here hx rfl (hb hby at_6) rfl ?_
    refine st4 _ ?_
    refine XS.astore X4.here hx rfl (hb hby at_10) rfl rfl (l' := #[iv i0, iv i1, iv i2, iv i3, iv i4, rv sb1, rv sb4, .unset, .unset, .unset, .unset, .unset, .unset]) rfl ?_
    exact k)
  obtain ⟨Tj8, hj8, Lj8, Xj8, ej8, Nj8, Kj8, jb2x, jt2x, jk2x, jp2x, h_jb2x, Fj8_0, Fj8_1, Fj8_2, Fj8_3, prej8⟩ : ∃ (Tj : State) (hj : Heap) (Lj : List Loc), Stand p l e room_1 s m #[(.int i0), (.int i1), (.int i2), (.int i3), (.int i4)] below meth c Tj Lj 9 24 ∧ Tj.heap = hj ∧ Fr n0 Lj ∧ Keep T4.heap hj [] ∧ ∃ jb2x : Addr, ∃ jt2x : Addr, ∃ jk2x : ClassId, ∃ jp2x : Int32, (True) ∧ (Exa Z hj jb2x "java/lang/String") ∧ (Fld Z hj jb2x "java/lang/String" "coder" "B" (.int 0)) ∧ (Fld Z hj jb2x "java/lang/String" "value" "[B" (.ref jt2x)) ∧ (Arv Z hj jt2x jk2x .byte (Int32.ofNat (own_mk jp2x).length) (own_bs (own_mk jp2x)) (.int 0)) ∧ ∀ tg, own_S p e below Tj m 30 #[iv i0, iv i1, iv i2, iv i3, iv i4, rv sb1, rv sb4, .unset, .unset, .unset, .unset, .unset, .unset] [(.ref jb2x)] tg → Steps p.tables e below (s₁.setTop (entryFrame m #[(.int i0), (.int i1), (.int i2), (.int i3), (.int i4)] maxLocals)) tg := by
    have pre10 : ∀ tg, own_S p e below T4 m 16 #[iv i0, iv i1, iv i2, iv i3, iv i4, rv sb1, rv sb4, .unset, .unset, .unset, .unset, .unset, .unset] [(.int (i4 &&& (1 : Int32)))] tg → Steps p.tables e below (s₁.setTop (entryFrame m #[(.int i0), (.int i1), (.int i2), (.int i3), (.int i4)] maxLocals)) tg := fun tg k => pre7 tg (by
      show own_S p e below T4 m 12 #[iv i0, iv i1, iv i2, iv i3, iv i4, rv sb1, rv sb4, .unset, .unset, .unset, .unset, .unset, .unset] [] _
      refine XS.iload X4.here hx rfl (hb hby at_12) rfl ?_
      refine XS.iconst X4.here hx rfl (hb hby at_14) ?_
      refine XS.iand X4.here hx rfl (hb hby at_15) rfl ?_
      exact k)
    by_cases hc16_9 : (i4 &&& (1 : Int32)) = (0 : Int32)
    ·  -- pc 16 yes
      have Sn_11 := (own_sta_keep0 Sn_3 K4)
      have Zs13 : n0 ≤ T4.heap.size := (Nat.le_trans Zs5 K4.1)
      obtain ⟨_, _, ⟨T12, L12, k12, n12⟩, -, X12, ⟨Lc12, hQ12, l12, y12, z12⟩, st12⟩ := Jvm.LawKit.callS X4 hx (y := (⟨"com/example/garter/garter/schema/TableNameEqualsPinLaw", "mk", "(I)Ljava/lang/String;"⟩ : MethodName)) hown (mvT hZ (hw _ (List.mem_of_getElem? (i := 0) rfl))) (mvT hZ (hw _ (List.mem_of_getElem? (i := 1) rfl))) (mvT hZ (hw _ (List.mem_of_getElem? (i := 2) rfl))) (mvT hZ (hw _ (List.mem_of_getElem? (i := 3) rfl))) (by decide) (backOf (W := 0) (rmMk l Z a0 hw [] i2 zc T4.heap n0 Zs13 Sn_11 hzc) hZ (hw _ (List.mem_of_getElem? (i := 3) rfl)) (hw _ (List.mem_of_getElem? (i := 2) rfl)) (by decide) (by decide)) (g := (mkF m 27 #[iv i0, iv i1, iv i2, iv i3, iv i4, rv sb1, rv sb4, .unset, .unset, .unset, .unset, .unset, .unset] [(.int i2)])) rfl (by rw [hml]; rfl) (argsL := [(.int i2)]) (rest := []) (lenOf pd_13 rfl) rfl (by show 2 * 0 + _ ≤ _; exact Nat.le_of_eq rfl) (hb hby at_27) (fun _ _ => ⟨rfl, rfl, (by decide : 6 + 3 ≤ _), (by decide : 16 + 8 ≤ _)⟩)
      dsimp only [Pt.U, Pt.locs, Pt.cells, Pt.slots] at X12 l12 y12 z12 st12 hQ12
      subst l12 y12 z12
      obtain ⟨sb12, st12x, sk12, rfl, N12q, K12, Ex12, Cd12, Vl12, Va12, -⟩ := hQ12
      have N12 := Fr.app N4 N12q
      have R14 := R6.trans (CHr.keep K12 sf0 R6.1)
      have pre15 : ∀ tg, own_S p e below T12 m 30 #[iv i0, iv i1, iv i2, iv i3, iv i4, rv sb1, rv sb4, .unset, .unset, .unset, .unset, .unset, .unset] [(.ref sb12)] tg → Steps p.tables e below (s₁.setTop (entryFrame m #[(.int i0), (.int i1), (.int i2), (.int i3), (.int i4)] maxLocals)) tg := fun tg k => pre10 tg (by
        show own_S p e below T4 m 16 #[iv i0, iv i1, iv i2, iv i3, iv i4, rv sb1, rv sb4, .unset, .unset, .unset, .unset, .unset, .unset] [(.int (i4 &&& (1 : Int32)))] _
        refine XS.ifYes X4.here hx rfl (pc0 := 16) (pc' := 26) rfl (hb hby at_16) rfl ((if0 _ _).trans (teq hc16_9).1) (by decide) (by decide) ?_
        refine XS.iloadN X4.here hx rfl (hb hby at_26) rfl ?_
        refine st12 _ ?_
        exact k)
      exact ⟨T12, _, _, X12, rfl, N12, ((Keep.refl T4.heap []).trans K12 all0), sb12, st12x, sk12, i2, trivial, Ex12, Cd12, Vl12, Va12, pre15⟩
    ·  -- pc 16 no
      have Sn_16 := (own_sta_keep0 Sn_3 K4)
      have Zs18 : n0 ≤ T4.heap.size := (Nat.le_trans Zs5 K4.1)
      obtain ⟨_, _, ⟨T17, L17, k17, n17⟩, -, X17, ⟨Lc17, hQ17, l17, y17, z17⟩, st17⟩ := Jvm.LawKit.callS X4 hx (y := (⟨"com/example/garter/garter/schema/TableNameEqualsPinLaw", "mk", "(I)Ljava/lang/String;"⟩ : MethodName)) hown (mvT hZ (hw _ (List.mem_of_getElem? (i := 0) rfl))) (mvT hZ (hw _ (List.mem_of_getElem? (i := 1) rfl))) (mvT hZ (hw _ (List.mem_of_getElem? (i := 2) rfl))) (mvT hZ (hw _ (List.mem_of_getElem? (i := 3) rfl))) (by decide) (backOf (W := 0) (rmMk l Z a0 hw [] i0 zc T4.heap n0 Zs18 Sn_16 hzc) hZ (hw _ (List.mem_of_getElem? (i := 3) rfl)) (hw _ (List.mem_of_getElem? (i := 2) rfl)) (by decide) (by decide)) (g := (mkF m 20 #[iv i0, iv i1, iv i2, iv i3, iv i4, rv sb1, rv sb4, .unset, .unset, .unset, .unset, .unset, .unset] [(.int i0)])) rfl (by rw [hml]; rfl) (argsL := [(.int i0)]) (rest := []) (lenOf pd_13 rfl) rfl (by show 2 * 0 + _ ≤ _; exact Nat.le_of_eq rfl) (hb hby at_20) (fun _ _ => ⟨rfl, rfl, (by decide : 6 + 3 ≤ _), (by decide : 16 + 8 ≤ _)⟩)
      dsimp only [Pt.U, Pt.locs, Pt.cells, Pt.slots] at X17 l17 y17 z17 st17 hQ17
      subst l17 y17 z17
      obtain ⟨sb17, st17x, sk17, rfl, N17q, K17, Ex17, Cd17, Vl17, Va17, -⟩ := hQ17
      have N17 := Fr.app N4 N17q
      have R19 := R6.trans (CHr.keep K17 sf0 R6.1)
      have pre20 : ∀ tg, own_S p e below T17 m 30 #[iv i0, iv i1, iv i2, iv i3, iv i4, rv sb1, rv sb4, .unset, .unset, .unset, .unset, .unset, .unset] [(.ref sb17)] tg → Steps p.tables e below (s₁.setTop (entryFrame m #[(.int i0), (.int i1), (.int i2), (.int i3), (.int i4)] maxLocals)) tg := fun tg k => pre10 tg (by
        show own_S p e below T4 m 16 #[iv i0, iv i1, iv i2, iv i3, iv i4, rv sb1, rv sb4, .unset, .unset, .unset, .unset, .unset, .unset] [(.int (i4 &&& (1 : Int32)))] _
        refine XS.ifNo X4.here hx rfl (hb hby at_16) rfl ((if0 _ _).trans (feq hc16_9).1) ?_
        refine XS.iloadN X4.here hx rfl (hb hby at_19) rfl ?_
        refine st17 _ ?_
        show own_S p e below T17 m 23 #[iv i0, iv i1, iv i2, iv i3, iv i4, rv sb1, rv sb4, .unset, .unset, .unset, .unset, .unset, .unset] [(.ref sb17)] _
        refine XS.goto X17.here hx rfl (pc0 := 23) (pc' := 30) rfl (hb hby at_23) (by decide) (by decide) ?_
        exact k)
      exact ⟨T17, _, _, X17, rfl, N17, ((Keep.refl T4.heap []).trans K17 all0), sb17, st17x, sk17, i0, trivial, Ex17, Cd17, Vl17, Va17, pre20⟩
  have R21 := R6.trans (CHr.keep Kj8 sf0 R6.1)
  have pre22 : ∀ tg, own_S p e below Tj8 m 32 #[iv i0, iv i1, iv i2, iv i3, iv i4, rv sb1, rv sb4, rv jb2x, .unset, .unset, .unset, .unset, .unset] [] tg → Steps p.tables e below (s₁.setTop (entryFrame m #[(.int i0), (.int i1), (.int i2), (.int i3), (.int i4)] maxLocals)) tg := fun tg k => prej8 tg (by
    show own_S p e below Tj8 m 30 #[iv i0, iv i1, iv i2, iv i3, iv i4, rv sb1, rv sb4, .unset, .unset, .unset, .unset, .unset, .unset] [(.ref jb2x)] _
    refine XS.astore Xj8.here hx rfl (hb hby at_30) rfl rfl (l' := #[iv i0, iv i1, iv i2, iv i3, iv i4, rv sb1, rv sb4, rv jb2x, .unset, .unset, .unset, .unset, .unset]) rfl ?_
    exact k)
  obtain ⟨Tj23, hj23, Lj23, Xj23, ej23, Nj23, Kj23, jb3x, jt3x, jk3x, jp3x, h_jb3x, Fj23_0, Fj23_1, Fj23_2, Fj23_3, prej23⟩ : ∃ (Tj : State) (hj : Heap) (Lj : List Loc), Stand p l e room_1 s m #[(.int i0), (.int i1), (.int i2), (.int i3), (.int i4)] below meth c Tj Lj 12 32 ∧ Tj.heap = hj ∧ Fr n0 Lj ∧ Keep hj8 hj [] ∧ ∃ jb3x : Addr, ∃ jt3x : Addr, ∃ jk3x : ClassId, ∃ jp3x : Int32, (True) ∧ (Exa Z hj jb3x "java/lang/String") ∧ (Fld Z hj jb3x "java/lang/String" "coder" "B" (.int 0)) ∧ (Fld Z hj jb3x "java/lang/String" "value" "[B" (.ref jt3x)) ∧ (Arv Z hj jt3x jk3x .byte (Int32.ofNat (own_mk jp3x).length) (own_bs (own_mk jp3x)) (.int 0)) ∧ ∀ tg, own_S p e below Tj m 50 #[iv i0, iv i1, iv i2, iv i3, iv i4, rv sb1, rv sb4, rv jb2x, .unset, .unset, .unset, .unset, .unset] [(.ref jb3x)] tg → Steps p.tables e below (s₁.setTop (entryFrame m #[(.int i0), (.int i1), (.int i2), (.int i3), (.int i4)] maxLocals)) tg := by
    have pre25 : ∀ tg, own_S p e below Tj8 m 36 #[iv i0, iv i1, iv i2, iv i3, iv i4, rv sb1, rv sb4, rv jb2x, .unset, .unset, .unset, .unset, .unset] [(.int (i4 &&& (2 : Int32)))] tg → Steps p.tables e below (s₁.setTop (entryFrame m #[(.int i0), (.int i1), (.int i2), (.int i3), (.int i4)] maxLocals)) tg := fun tg k => pre22 tg (by
      show own_S p e below Tj8 m 32 #[iv i0, iv i1, iv i2, iv i3, iv i4, rv sb1, rv sb4, rv jb2x, .unset, .unset, .unset, .unset, .unset] [] _
      refine XS.iload Xj8.here hx rfl (hb hby at_32) rfl ?_
      refine XS.iconst Xj8.here hx rfl (hb hby at_34) ?_
      refine XS.iand Xj8.here hx rfl (hb hby at_35) rfl ?_
      exact k)
    by_cases hc36_24 : (i4 &&& (2 : Int32)) = (0 : Int32)
    ·  -- pc 36 yes
      have Sn_26 := (own_sta_keep0 (own_sta_keep0 Sn_3 K4) Kj8)
      have Zs28 : n0 ≤ hj8.size := (Nat.le_trans (Nat.le_trans Zs5 K4.1) Kj8.1)
      obtain ⟨_, _, ⟨T27, L27, k27, n27⟩, -, X27, ⟨Lc27, hQ27, l27, y27, z27⟩, st27⟩ := Jvm.LawKit.callS Xj8 hx (y := (⟨"com/example/garter/garter/schema/TableNameEqualsPinLaw", "mk", "(I)Ljava/lang/String;"⟩ : MethodName)) hown (mvT hZ (hw _ (List.mem_of_getElem? (i := 0) rfl))) (mvT hZ (hw _ (List.mem_of_getElem? (i := 1) rfl))) (mvT hZ (hw _ (List.mem_of_getElem? (i := 2) rfl))) (mvT hZ (hw _ (List.mem_of_getElem? (i := 3) rfl))) (by decide) (backOf (W := 0) (rmMk l Z a0 hw [] i3 zc hj8 n0 Zs28 Sn_26 hzc) hZ (hw _ (List.mem_of_getElem? (i := 3) rfl)) (hw _ (List.mem_of_getElem? (i := 2) rfl)) (by decide) (by decide)) (g := (mkF m 47 #[iv i0, iv i1, iv i2, iv i3, iv i4, rv sb1, rv sb4, rv jb2x, .unset, .unset, .unset, .unset, .unset] [(.int i3)])) rfl (by rw [hml]; rfl) (argsL := [(.int i3)]) (rest := []) (lenOf pd_13 rfl) rfl (by show 2 * 0 + _ ≤ _; exact Nat.le_of_eq rfl) (hb hby at_47) (fun _ _ => ⟨rfl, ej8, (by decide : 9 + 3 ≤ _), (by decide : 24 + 8 ≤ _)⟩)
      dsimp only [Pt.U, Pt.locs, Pt.cells, Pt.slots] at X27 l27 y27 z27 st27 hQ27
      subst l27 y27 z27
      obtain ⟨sb27, st27x, sk27, rfl, N27q, K27, Ex27, Cd27, Vl27, Va27, -⟩ := hQ27
      have N27 := Fr.app Nj8 N27q
      have R29 := R21.trans (CHr.keep K27 sf0 R21.1)
      have pre30 : ∀ tg, own_S p e below T27 m 50 #[iv i0, iv i1, iv i2, iv i3, iv i4, rv sb1, rv sb4, rv jb2x, .unset, .unset, .unset, .unset, .unset] [(.ref sb27)] tg → Steps p.tables e below (s₁.setTop (entryFrame m #[(.int i0), (.int i1), (.int i2), (.int i3), (.int i4)] maxLocals)) tg := fun tg k => pre25 tg (by
        show own_S p e below Tj8 m 36 #[iv i0, iv i1, iv i2, iv i3, iv i4, rv sb1, rv sb4, rv jb2x, .unset, .unset, .unset, .unset, .unset] [(.int (i4 &&& (2 : Int32)))] _
        refine XS.ifYes Xj8.here hx rfl (pc0 := 36) (pc' := 46) rfl (hb hby at_36) rfl ((if0 _ _).trans (teq hc36_24).1) (by decide) (by decide) ?_
        refine XS.iloadN Xj8.here hx rfl (hb hby at_46) rfl ?_
        refine st27 _ ?_
        exact k)
      exact ⟨T27, _, _, X27, rfl, N27, ((Keep.refl hj8 []).trans K27 all0), sb27, st27x, sk27, i3, trivial, Ex27, Cd27, Vl27, Va27, pre30⟩
    ·  -- pc 36 no
      have Sn_31 := (own_sta_keep0 (own_sta_keep0 Sn_3 K4) Kj8)
      have Zs33 : n0 ≤ hj8.size := (Nat.le_trans (Nat.le_trans Zs5 K4.1) Kj8.1)
      obtain ⟨_, _, ⟨T32, L32, k32, n32⟩, -, X32, ⟨Lc32, hQ32, l32, y32, z32⟩, st32⟩ := Jvm.LawKit.callS Xj8 hx (y := (⟨"com/example/garter/garter/schema/TableNameEqualsPinLaw", "mk", "(I)Ljava/lang/String;"⟩ : MethodName)) hown (mvT hZ (hw _ (List.mem_of_getElem? (i := 0) rfl))) (mvT hZ (hw _ (List.mem_of_getElem? (i := 1) rfl))) (mvT hZ (hw _ (List.mem_of_getElem? (i := 2) rfl))) (mvT hZ (hw _ (List.mem_of_getElem? (i := 3) rfl))) (by decide) (backOf (W := 0) (rmMk l Z a0 hw [] i1 zc hj8 n0 Zs33 Sn_31 hzc) hZ (hw _ (List.mem_of_getElem? (i := 3) rfl)) (hw _ (List.mem_of_getElem? (i := 2) rfl)) (by decide) (by decide)) (g := (mkF m 40 #[iv i0, iv i1, iv i2, iv i3, iv i4, rv sb1, rv sb4, rv jb2x, .unset, .unset, .unset, .unset, .unset] [(.int i1)])) rfl (by rw [hml]; rfl) (argsL := [(.int i1)]) (rest := []) (lenOf pd_13 rfl) rfl (by show 2 * 0 + _ ≤ _; exact Nat.le_of_eq rfl) (hb hby at_40) (fun _ _ => ⟨rfl, ej8, (by decide : 9 + 3 ≤ _), (by decide : 24 + 8 ≤ _)⟩)
      dsimp only [Pt.U, Pt.locs, Pt.cells, Pt.slots] at X32 l32 y32 z32 st32 hQ32
      subst l32 y32 z32
      obtain ⟨sb32, st32x, sk32, rfl, N32q, K32, Ex32, Cd32, Vl32, Va32, -⟩ := hQ32
      have N32 := Fr.app Nj8 N32q
      have R34 := R21.trans (CHr.keep K32 sf0 R21.1)
      have pre35 : ∀ tg, own_S p e below T32 m 50 #[iv i0, iv i1, iv i2, iv i3, iv i4, rv sb1, rv sb4, rv jb2x, .unset, .unset, .unset, .unset, .unset] [(.ref sb32)] tg → Steps p.tables e below (s₁.setTop (entryFrame m #[(.int i0), (.int i1), (.int i2), (.int i3), (.int i4)] maxLocals)) tg := fun tg k => pre25 tg (by
        show own_S p e below Tj8 m 36 #[iv i0, iv i1, iv i2, iv i3, iv i4, rv sb1, rv sb4, rv jb2x, .unset, .unset, .unset, .unset, .unset] [(.int (i4 &&& (2 : Int32)))] _
        refine XS.ifNo Xj8.here hx rfl (hb hby at_36) rfl ((if0 _ _).trans (feq hc36_24).1) ?_
        refine XS.iloadN Xj8.here hx rfl (hb hby at_39) rfl ?_
        refine st32 _ ?_
        show own_S p e below T32 m 43 #[iv i0, iv i1, iv i2, iv i3, iv i4, rv sb1, rv sb4, rv jb2x, .unset, .unset, .unset, .unset, .unset] [(.ref sb32)] _
        refine XS.goto X32.here hx rfl (pc0 := 43) (pc' := 50) rfl (hb hby at_43) (by decide) (by decide) ?_
        exact k)
      exact ⟨T32, _, _, X32, rfl, N32, ((Keep.refl hj8 []).trans K32 all0), sb32, st32x, sk32, i1, trivial, Ex32, Cd32, Vl32, Va32, pre35⟩
  have R36 := R21.trans (CHr.keep Kj23 sf0 R21.1)
  have Zs37 : n0 ≤ hj23.size := (Nat.le_trans (Nat.le_trans (Nat.le_trans Zs5 K4.1) Kj8.1) Kj23.1)
  have En_38 := (((Ex1.keep K4).keep Kj8).keep Kj23)
  have Fn_39 := (((Cd1.keep K4 nin0).keep Kj8 nin0).keep Kj23 nin0)
  have Fn_40 := (((Vl1.keep K4 nin0).keep Kj8 nin0).keep Kj23 nin0)
  have Vn_41 := (((Va1.keep K4 nin0).keep Kj8 nin0).keep Kj23 nin0)
  have En_42 := ((Ex4.keep Kj8).keep Kj23)
  have Fn_43 := ((Cd4.keep Kj8 nin0).keep Kj23 nin0)
  have Fn_44 := ((Vl4.keep Kj8 nin0).keep Kj23 nin0)
  have Vn_45 := ((Va4.keep Kj8 nin0).keep Kj23 nin0)
  have En_46 := (Fj8_0.keep Kj23)
  have Fn_47 := (Fj8_1.keep Kj23 nin0)
  have Fn_48 := (Fj8_2.keep Kj23 nin0)
  have Vn_49 := (Fj8_3.keep Kj23 nin0)
  obtain ⟨T50, h50, X50, e50, E50, A50, D50, -, st50⟩ := newO Xj23 hx hZ hown (hw _ (List.mem_of_getElem? (i := 40) rfl)) (hw _ (List.mem_of_getElem? (i := 41) rfl)) (hw _ (List.mem_of_getElem? (i := 42) rfl)) ej23 (g := (mkF m 52 #[iv i0, iv i1, iv i2, iv i3, iv i4, rv sb1, rv sb4, rv jb2x, rv jb3x, .unset, .unset, .unset, .unset] [])) rfl (hb hby at_52) (by decide) (by decide)
  obtain ⟨b50, g50⟩ : ∃ z, z = hj23.size := ⟨_, rfl⟩
  rw [← g50] at A50 D50 st50
  have g_b50 : n0 ≤ b50 := Nat.le_trans Zs37 (Nat.le_of_eq g50.symm)
  have sz_b50 : h0.size ≤ b50 := Nat.le_trans ((((((Keep.refl h0 []).trans K1 all0).trans K4 all0).trans Kj8 all0).trans Kj23 all0)).1 (Nat.le_of_eq g50.symm)
  have ne_sb1_b50 : sb1 ≠ b50 := Nat.ne_of_lt (Nat.lt_of_lt_of_le Fn_40.lt (Nat.le_of_eq g50.symm))
  have ne_st1x_b50 : st1x ≠ b50 := Nat.ne_of_lt (Nat.lt_of_lt_of_le Vn_41.lt (Nat.le_of_eq g50.symm))
  have ne_sb4_b50 : sb4 ≠ b50 := Nat.ne_of_lt (Nat.lt_of_lt_of_le Fn_44.lt (Nat.le_of_eq g50.symm))
  have ne_st4x_b50 : st4x ≠ b50 := Nat.ne_of_lt (Nat.lt_of_lt_of_le Vn_45.lt (Nat.le_of_eq g50.symm))
  have ne_jb2x_b50 : jb2x ≠ b50 := Nat.ne_of_lt (Nat.lt_of_lt_of_le Fn_48.lt (Nat.le_of_eq g50.symm))
  have ne_jt2x_b50 : jt2x ≠ b50 := Nat.ne_of_lt (Nat.lt_of_lt_of_le Vn_49.lt (Nat.le_of_eq g50.symm))
  have ne_jb3x_b50 : jb3x ≠ b50 := Nat.ne_of_lt (Nat.lt_of_lt_of_le Fj23_2.lt (Nat.le_of_eq g50.symm))
  have ne_jt3x_b50 : jt3x ≠ b50 := Nat.ne_of_lt (Nat.lt_of_lt_of_le Fj23_3.lt (Nat.le_of_eq g50.symm))
  have R51 := R36.trans (CHr.ext E50 R36.1)
  have F_database_b50 : Fld Z h50 b50 "com/example/garter/garter/schema/TableName" "database" "Ljava/lang/String;" .null := D50 (Or.inr (hw _ (List.mem_of_getElem? (i := 116) rfl))) (ty := (.object "java/lang/String")) (by decide)
  have F_table_b50 : Fld Z h50 b50 "com/example/garter/garter/schema/TableName" "table" "Ljava/lang/String;" .null := D50 (Or.inr (hw _ (List.mem_of_getElem? (i := 119) rfl))) (ty := (.object "java/lang/String")) (by decide)
  have En_52 := (En_38.ext E50)
  have Fn_53 := (Fn_39.ext E50)
  have Fn_54 := (Fn_40.ext E50)
  have Vn_55 := (Vn_41.ext E50)
  have En_56 := (En_42.ext E50)
  have Fn_57 := (Fn_43.ext E50)
  have Fn_58 := (Fn_44.ext E50)
  have Vn_59 := (Vn_45.ext E50)
  have Sn_60 := ((own_sta_keep0 (own_sta_keep0 (own_sta_keep0 Sn_3 K4) Kj8) Kj23).ext E50)
  have Sn_61 := ((own_sta_keep0 (own_sta_keep0 (own_sta_keep0 (own_sta_keep0 S_f K1) K4) Kj8) Kj23).ext E50)
  have Zs63 : n0 ≤ h50.size := (Nat.le_trans Zs37 E50.1)
  obtain ⟨_, _, ⟨T62, L62, k62, n62⟩, -, Xa62, hSa62, hga62, ⟨Lc62, hQ62, l62, y62, z62, C62⟩, st62⟩ := Stand.specialBackS (s := s.setVm s.vm) X50 hx (y := (⟨"com/example/garter/garter/schema/TableName", "<init>", "(Ljava/lang/String;Ljava/lang/String;)V"⟩ : MethodName)) rfl hown (mvT hZ (hw _ (List.mem_of_getElem? (i := 43) rfl))) (mvT hZ (hw _ (List.mem_of_getElem? (i := 44) rfl))) (mvT hZ (hw _ (List.mem_of_getElem? (i := 45) rfl))) (by decide) (backOfSH (s := s) (vm0 := s.vm) (W := 1) (rmIni l Z a0 hw [] b50 sb1 st1x sk1 (own_mk i0) sb4 st4x sk4 (own_mk i1) zc fm h50 n0 Zs63 g_b50 A50 F_database_b50 F_table_b50 En_52 Fn_53 Fn_54 Vn_55 En_56 Fn_57 Fn_58 Vn_59 Sn_60 hzc Sn_61 hfm (own_mk_ok _) (own_mk_ok _) ne_sb1_b50 ne_st1x_b50 ne_sb4_b50 ne_st4x_b50) hZ (hw _ (List.mem_of_getElem? (i := 45) rfl)) (hw _ (List.mem_of_getElem? (i := 42) rfl)) (by decide) (by decide) (own_EL hw) R51.1) (g := (mkF m 60 #[iv i0, iv i1, iv i2, iv i3, iv i4, rv sb1, rv sb4, rv jb2x, rv jb3x, .unset, .unset, .unset, .unset] [(.ref sb4), (.ref sb1), (.ref b50), (.ref b50)])) rfl (by rw [hml]; rfl) (Steps.refl _) (a := b50) (argsL := [(.ref sb1), (.ref sb4)]) (rest := [(.ref b50)]) (lenOf pd_14 rfl) rfl (by show 2 * 0 + _ ≤ _; exact Nat.le_of_eq rfl) (hb hby at_60) (fun _ _ => ⟨rfl, e50, (by decide : 13 + 8 ≤ _), (by decide : 34 + 76 ≤ _)⟩)
  dsimp only [Pt.U, Pt.locs, Pt.cells, Pt.slots] at Xa62 hSa62 hga62 l62 y62 z62 st62 hQ62 C62
  subst l62 y62 z62
  have X62 : Stand p l e room_1 (s.setVm T62.vm) m #[(.int i0), (.int i1), (.int i2), (.int i3), (.int i4)] below meth c T62 _ (13 + 8) (34 + 76) := Xa62
  have hga62' : h50.size ≤ T62.heap.size := by rw [← e50]; exact hga62
  have hS62 : s.Since T62.vm T62.heap.size := hS0.trans hSa62 (Nat.le_trans (Nat.le_trans (Nat.le_trans (Nat.le_trans (Nat.le_trans (Nat.le_trans (Nat.zero_le _) K1.1) K4.1) Kj8.1) Kj23.1) E50.1) hga62')
  have hk62 : T62.heap.size ≤ T62.heap.size := Nat.le_refl _
  have hZ62 : Z.Warmed39 (s.setVm T62.vm).vm := State.Warmed39.trans (t := s.setVm s.vm) hZ hSa62.1
  have hown62 : (s.setVm T62.vm).vm.findClass "com/example/garter/garter/schema/TableNameEqualsPinLaw" = some m.cls := by rw [show (s.setVm T62.vm).vm = T62.vm from rfl, hSa62.1.alike.findClass]; exact hown
  obtain ⟨rfl, N62q, K62, Eo62, Fd62, Ft62⟩ := hQ62
  have N62 := Fr.app Nj23 N62q
  have R64 := R51.trans C62
  have Zs65 : n0 ≤ T62.heap.size := (Nat.le_trans Zs63 K62.1)
  have En_66 := (En_52.keep K62)
  have Fn_67 := (Fn_53.keep K62 (ninS ne_sb1_b50 nin0))
  have Fn_68 := (Fn_54.keep K62 (ninS ne_sb1_b50 nin0))
  have Vn_69 := (Vn_55.keep K62 (ninS ne_st1x_b50 nin0))
  have En_70 := (En_56.keep K62)
  have Fn_71 := (Fn_57.keep K62 (ninS ne_sb4_b50 nin0))
  have Fn_72 := (Fn_58.keep K62 (ninS ne_sb4_b50 nin0))
  have Vn_73 := (Vn_59.keep K62 (ninS ne_st4x_b50 nin0))
  have En_74 := ((En_46.ext E50).keep K62)
  have Fn_75 := ((Fn_47.ext E50).keep K62 (ninS ne_jb2x_b50 nin0))
  have Fn_76 := ((Fn_48.ext E50).keep K62 (ninS ne_jb2x_b50 nin0))
  have Vn_77 := ((Vn_49.ext E50).keep K62 (ninS ne_jt2x_b50 nin0))
  have En_78 := ((Fj23_0.ext E50).keep K62)
  have Fn_79 := ((Fj23_1.ext E50).keep K62 (ninS ne_jb3x_b50 nin0))
  have Fn_80 := ((Fj23_2.ext E50).keep K62 (ninS ne_jb3x_b50 nin0))
  have Vn_81 := ((Fj23_3.ext E50).keep K62 (ninS ne_jt3x_b50 nin0))
  obtain ⟨T82, h82, X82, e82, E82, A82, D82, -, st82⟩ := newO X62 hx hZ62 hown62 (hw _ (List.mem_of_getElem? (i := 40) rfl)) (hw _ (List.mem_of_getElem? (i := 41) rfl)) (hw _ (List.mem_of_getElem? (i := 42) rfl)) rfl (g := (mkF m 65 #[iv i0, iv i1, iv i2, iv i3, iv i4, rv sb1, rv sb4, rv jb2x, rv jb3x, rv b50, .unset, .unset, .unset] [])) rfl (hb hby at_65) (by decide) (by decide)
  obtain ⟨b82, g82⟩ : ∃ z, z = T62.heap.size := ⟨_, rfl⟩
  rw [← g82] at A82 D82 st82
  have g_b82 : n0 ≤ b82 := Nat.le_trans Zs65 (Nat.le_of_eq g82.symm)
  have sz_b82 : h0.size ≤ b82 := Nat.le_trans ((((((((Keep.refl h0 []).trans K1 all0).trans K4 all0).trans Kj8 all0).trans Kj23 all0).ext E50).trans K62 (allS (Or.inr sz_b50) all0))).1 (Nat.le_of_eq g82.symm)
  have ne_sb1_b82 : sb1 ≠ b82 := Nat.ne_of_lt (Nat.lt_of_lt_of_le Fn_68.lt (Nat.le_of_eq g82.symm))
  have ne_st1x_b82 : st1x ≠ b82 := Nat.ne_of_lt (Nat.lt_of_lt_of_le Vn_69.lt (Nat.le_of_eq g82.symm))
  have ne_sb4_b82 : sb4 ≠ b82 := Nat.ne_of_lt (Nat.lt_of_lt_of_le Fn_72.lt (Nat.le_of_eq g82.symm))
  have ne_st4x_b82 : st4x ≠ b82 := Nat.ne_of_lt (Nat.lt_of_lt_of_le Vn_73.lt (Nat.le_of_eq g82.symm))
  have ne_jb2x_b82 : jb2x ≠ b82 := Nat.ne_of_lt (Nat.lt_of_lt_of_le Fn_76.lt (Nat.le_of_eq g82.symm))
  have ne_jt2x_b82 : jt2x ≠ b82 := Nat.ne_of_lt (Nat.lt_of_lt_of_le Vn_77.lt (Nat.le_of_eq g82.symm))
  have ne_jb3x_b82 : jb3x ≠ b82 := Nat.ne_of_lt (Nat.lt_of_lt_of_le Fn_80.lt (Nat.le_of_eq g82.symm))
  have ne_jt3x_b82 : jt3x ≠ b82 := Nat.ne_of_lt (Nat.lt_of_lt_of_le Vn_81.lt (Nat.le_of_eq g82.symm))
  have ne_b50_b82 : b50 ≠ b82 := Nat.ne_of_lt (Nat.lt_of_lt_of_le Ft62.lt (Nat.le_of_eq g82.symm))
  have R83 := R64.trans (CHr.ext E82 R64.1)
  have F_database_b82 : Fld Z h82 b82 "com/example/garter/garter/schema/TableName" "database" "Ljava/lang/String;" .null := D82 (Or.inr (hw _ (List.mem_of_getElem? (i := 116) rfl))) (ty := (.object "java/lang/String")) (by decide)
  have F_table_b82 : Fld Z h82 b82 "com/example/garter/garter/schema/TableName" "table" "Ljava/lang/String;" .null := D82 (Or.inr (hw _ (List.mem_of_getElem? (i := 119) rfl))) (ty := (.object "java/lang/String")) (by decide)
  have En_84 := (En_74.ext E82)
  have Fn_85 := (Fn_75.ext E82)
  have Fn_86 := (Fn_76.ext E82)
  have Vn_87 := (Vn_77.ext E82)
  have En_88 := (En_78.ext E82)
  have Fn_89 := (Fn_79.ext E82)
  have Fn_90 := (Fn_80.ext E82)
  have Vn_91 := (Vn_81.ext E82)
  have Sn_92 := ((own_sta_keep Sn_60 K62 A50).ext E82)
  have Sn_93 := ((own_sta_keep Sn_61 K62 A50).ext E82)
  have Zs95 : n0 ≤ h82.size := (Nat.le_trans Zs65 E82.1)
  obtain ⟨_, _, ⟨T94, L94, k94, n94⟩, -, Xa94, hSa94, hga94, ⟨Lc94, hQ94, l94, y94, z94, C94⟩, st94⟩ := Stand.specialBackS (s := s.setVm T62.vm) X82 hx (y := (⟨"com/example/garter/garter/schema/TableName", "<init>", "(Ljava/lang/String;Ljava/lang/String;)V"⟩ : MethodName)) rfl hown62 (mvT hZ62 (hw _ (List.mem_of_getElem? (i := 43) rfl))) (mvT hZ62 (hw _ (List.mem_of_getElem? (i := 44) rfl))) (mvT hZ62 (hw _ (List.mem_of_getElem? (i := 45) rfl))) (by decide) (backOfSH (s := s) (vm0 := T62.vm) (W := 1) (rmIni l Z a0 hw [] b82 jb2x jt2x jk2x (own_mk jp2x) jb3x jt3x jk3x (own_mk jp3x) zc fm h82 n0 Zs95 g_b82 A82 F_database_b82 F_table_b82 En_84 Fn_85 Fn_86 Vn_87 En_88 Fn_89 Fn_90 Vn_91 Sn_92 hzc Sn_93 hfm (own_mk_ok _) (own_mk_ok _) ne_jb2x_b82 ne_jt2x_b82 ne_jb3x_b82 ne_jt3x_b82) hZ62 (hw _ (List.mem_of_getElem? (i := 45) rfl)) (hw _ (List.mem_of_getElem? (i := 42) rfl)) (by decide) (by decide) (own_EL hw) R83.1) (g := (mkF m 73 #[iv i0, iv i1, iv i2, iv i3, iv i4, rv sb1, rv sb4, rv jb2x, rv jb3x, rv b50, .unset, .unset, .unset] [(.ref jb3x), (.ref jb2x), (.ref b82), (.ref b82)])) rfl (by rw [hml]; rfl) (Steps.refl _) (a := b82) (argsL := [(.ref jb2x), (.ref jb3x)]) (rest := [(.ref b82)]) (lenOf pd_14 rfl) rfl (by show 2 * 0 + _ ≤ _; exact Nat.le_of_eq rfl) (hb hby at_73) (fun _ _ => ⟨rfl, e82, (by decide : 22 + 8 ≤ _), (by decide : 112 + 76 ≤ _)⟩)
  dsimp only [Pt.U, Pt.locs, Pt.cells, Pt.slots] at Xa94 hSa94 hga94 l94 y94 z94 st94 hQ94 C94
  subst l94 y94 z94
  have X94 : Stand p l e room_1 (s.setVm T94.vm) m #[(.int i0), (.int i1), (.int i2), (.int i3), (.int i4)] below meth c T94 _ (22 + 8) (112 + 76) := Xa94
  have hga94' : h82.size ≤ T94.heap.size := by rw [← e82]; exact hga94
  have hS94 : s.Since T94.vm T94.heap.size := hS62.trans hSa94 (Nat.le_trans (Nat.le_trans hk62 E82.1) hga94')
  have hk94 : T94.heap.size ≤ T94.heap.size := Nat.le_refl _
  have hZ94 : Z.Warmed39 (s.setVm T94.vm).vm := State.Warmed39.trans (t := s.setVm T62.vm) hZ62 hSa94.1
  have hown94 : (s.setVm T94.vm).vm.findClass "com/example/garter/garter/schema/TableNameEqualsPinLaw" = some m.cls := by rw [show (s.setVm T94.vm).vm = T94.vm from rfl, hSa94.1.alike.findClass]; exact hown62
  obtain ⟨rfl, N94q, K94, Eo94, Fd94, Ft94⟩ := hQ94
  have N94 := Fr.app N62 N94q
  have R96 := R83.trans C94
  have pre97 : ∀ tg, own_S p e below T94 m 86 #[iv i0, iv i1, iv i2, iv i3, iv i4, rv sb1, rv sb4, rv jb2x, rv jb3x, rv b50, rv b82, iv (((i4.toUInt32 >>> ((2 : Int32) &&& 31).toUInt32).toInt32) &&& (3 : Int32)), .unset] [] tg → Steps p.tables e below (s₁.setTop (entryFrame m #[(.int i0), (.int i1), (.int i2), (.int i3), (.int i4)] maxLocals)) tg := fun tg k => prej23 tg (by
    show own_S p e below Tj23 m 50 #[iv i0, iv i1, iv i2, iv i3, iv i4, rv sb1, rv sb4, rv jb2x, .unset, .unset, .unset, .unset, .unset] [(.ref jb3x)] _
    refine XS.astore Xj23.here hx rfl (hb hby at_50) rfl rfl (l' := #[iv i0, iv i1, iv i2, iv i3, iv i4, rv sb1, rv sb4, rv jb2x, rv jb3x, .unset, .unset, .unset, .unset]) rfl ?_
    refine st50 _ ?_
    refine XS.dup X50.here hx rfl (hb hby at_55) rfl rfl ?_
    show own_S p e below T50 m 56 #[iv i0, iv i1, iv i2, iv i3, iv i4, rv sb1, rv sb4, rv jb2x, rv jb3x, .unset, .unset, .unset, .unset] [(.ref b50), (.ref b50)] _
    refine XS.aload X50.here hx rfl (hb hby at_56) rfl rfl ?_
    refine XS.aload X50.here hx rfl (hb hby at_58) rfl rfl ?_
    refine st62.trans ?_
    show own_S p e below T62 m 63 #[iv i0, iv i1, iv i2, iv i3, iv i4, rv sb1, rv sb4, rv jb2x, rv jb3x, .unset, .unset, .unset, .unset] [(.ref b50)] _
    refine XS.astore X62.here hx rfl (hb hby at_63) rfl rfl (l' := #[iv i0, iv i1, iv i2, iv i3, iv i4, rv sb1, rv sb4, rv jb2x, rv jb3x, rv b50, .unset, .unset, .unset]) rfl ?_
    refine st82 _ ?_
    refine XS.dup X82.here hx rfl (hb hby at_68) rfl rfl ?_
    show own_S p e below T82 m 69 #[iv i0, iv i1, iv i2, iv i3, iv i4, rv sb1, rv sb4, rv jb2x, rv jb3x, rv b50, .unset, .unset, .unset] [(.ref b82), (.ref b82)] _
    refine XS.aload X82.here hx rfl (hb hby at_69) rfl rfl ?_
    refine XS.aload X82.here hx rfl (hb hby at_71) rfl rfl ?_
    refine st94.trans ?_
    show own_S p e below T94 m 76 #[iv i0, iv i1, iv i2, iv i3, iv i4, rv sb1, rv sb4, rv jb2x, rv jb3x, rv b50, .unset, .unset, .unset] [(.ref b82)] _
    refine XS.astore X94.here hx rfl (hb hby at_76) rfl rfl (l' := #[iv i0, iv i1, iv i2, iv i3, iv i4, rv sb1, rv sb4, rv jb2x, rv jb3x, rv b50, rv b82, .unset, .unset]) rfl ?_
    refine XS.iload X94.here hx rfl (hb hby at_78) rfl ?_
    refine XS.iconst X94.here hx rfl (hb hby at_80) ?_
    show own_S p e below T94 m 81 #[iv i0, iv i1, iv i2, iv i3, iv i4, rv sb1, rv sb4, rv jb2x, rv jb3x, rv b50, rv b82, .unset, .unset] [(.int (2 : Int32)), (.int i4)] _
    refine XS.iushr X94.here hx rfl (hb hby at_81) rfl ?_
    refine XS.iconst X94.here hx rfl (hb hby at_82) ?_
    refine XS.iand X94.here hx rfl (hb hby at_83) rfl ?_
    show own_S p e below T94 m 84 #[iv i0, iv i1, iv i2, iv i3, iv i4, rv sb1, rv sb4, rv jb2x, rv jb3x, rv b50, rv b82, .unset, .unset] [(.int (((i4.toUInt32 >>> ((2 : Int32) &&& 31).toUInt32).toInt32) &&& (3 : Int32)))] _
    refine XS.istore X94.here hx rfl (hb hby at_84) rfl (l' := #[iv i0, iv i1, iv i2, iv i3, iv i4, rv sb1, rv sb4, rv jb2x, rv jb3x, rv b50, rv b82, iv (((i4.toUInt32 >>> ((2 : Int32) &&& 31).toUInt32).toInt32) &&& (3 : Int32)), .unset]) rfl ?_
    exact k)
  have pre99 : ∀ tg, own_S p e below T94 m 88 #[iv i0, iv i1, iv i2, iv i3, iv i4, rv sb1, rv sb4, rv jb2x, rv jb3x, rv b50, rv b82, iv (((i4.toUInt32 >>> ((2 : Int32) &&& 31).toUInt32).toInt32) &&& (3 : Int32)), .unset] [(.int (((i4.toUInt32 >>> ((2 : Int32) &&& 31).toUInt32).toInt32) &&& (3 : Int32)))] tg → Steps p.tables e below (s₁.setTop (entryFrame m #[(.int i0), (.int i1), (.int i2), (.int i3), (.int i4)] maxLocals)) tg := fun tg k => pre97 tg (by
    show own_S p e below T94 m 86 #[iv i0, iv i1, iv i2, iv i3, iv i4, rv sb1, rv sb4, rv jb2x, rv jb3x, rv b50, rv b82, iv (((i4.toUInt32 >>> ((2 : Int32) &&& 31).toUInt32).toInt32) &&& (3 : Int32)), .unset] [] _
    refine XS.iload X94.here hx rfl (hb hby at_86) rfl ?_
    exact k)
  by_cases hc88_98 : (((i4.toUInt32 >>> ((2 : Int32) &&& 31).toUInt32).toInt32) &&& (3 : Int32)) = (0 : Int32)
  ·  -- pc 88 yes
    have pre100 : ∀ tg, own_S p e below T94 m 91 #[iv i0, iv i1, iv i2, iv i3, iv i4, rv sb1, rv sb4, rv jb2x, rv jb3x, rv b50, rv b82, iv (((i4.toUInt32 >>> ((2 : Int32) &&& 31).toUInt32).toInt32) &&& (3 : Int32)), .unset] [] tg → Steps p.tables e below (s₁.setTop (entryFrame m #[(.int i0), (.int i1), (.int i2), (.int i3), (.int i4)] maxLocals)) tg := fun tg k => pre99 tg (by
      show own_S p e below T94 m 88 #[iv i0, iv i1, iv i2, iv i3, iv i4, rv sb1, rv sb4, rv jb2x, rv jb3x, rv b50, rv b82, iv (((i4.toUInt32 >>> ((2 : Int32) &&& 31).toUInt32).toInt32) &&& (3 : Int32)), .unset] [(.int (((i4.toUInt32 >>> ((2 : Int32) &&& 31).toUInt32).toInt32) &&& (3 : Int32)))] _
      refine XS.ifNo X94.here hx rfl (hb hby at_88) rfl ((if0 _ _).trans (teq hc88_98).2) ?_
      exact k)
    by_cases hA : own_mk i0 = own_mk jp2x
    ·  -- case
      by_cases hB : own_mk i1 = own_mk jp3x
      ·  -- case
        have En_101 := ((En_66.ext E82).keep K94)
        have Fn_102 := ((Fn_67.ext E82).keep K94 (ninS ne_sb1_b82 nin0))
        have Fn_103 := ((Fn_68.ext E82).keep K94 (ninS ne_sb1_b82 nin0))
        have Vn_104 := ((Vn_69.ext E82).keep K94 (ninS ne_st1x_b82 nin0))
        have En_105 := (En_84.keep K94)
        have Fn_106 := (Fn_85.keep K94 (ninS ne_jb2x_b82 nin0))
        have Fn_107 := (Fn_86.keep K94 (ninS ne_jb2x_b82 nin0))
        have Vn_108 := (Vn_87.keep K94 (ninS ne_jt2x_b82 nin0))
        have Sn_109 := (own_sta_keep Sn_92 K94 A82)
        have Sn_110 := (own_sta_keep Sn_93 K94 A82)
        have Zs112 : n0 ≤ T94.heap.size := (Nat.le_trans Zs95 K94.1)
        obtain ⟨_, _, ⟨T111, L111, k111, n111⟩, -, X111, ⟨Lc111, hQ111, l111, y111, z111⟩, st111⟩ := Jvm.LawKit.callS X94 hx (y := (⟨"com/example/garter/garter/schema/TableNameEqualsPinLaw", "same", "(Ljava/lang/String;Ljava/lang/String;)Z"⟩ : MethodName)) hown94 (mvT hZ94 (hw _ (List.mem_of_getElem? (i := 120) rfl))) (mvT hZ94 (hw _ (List.mem_of_getElem? (i := 121) rfl))) (mvT hZ94 (hw _ (List.mem_of_getElem? (i := 2) rfl))) (mvT hZ94 (hw _ (List.mem_of_getElem? (i := 122) rfl))) (by decide) (backOf (W := 0) (rmSame l Z a0 hw [] sb1 st1x sk1 (own_mk i0) jb2x jt2x jk2x (own_mk jp2x) zc fm T94.heap n0 Zs112 En_101 Fn_102 Fn_103 Vn_104 En_105 Fn_106 Fn_107 Vn_108 Sn_109 hzc Sn_110 hfm (own_mk_ok _) (own_mk_ok _)) hZ94 (hw _ (List.mem_of_getElem? (i := 122) rfl)) (hw _ (List.mem_of_getElem? (i := 2) rfl)) (by decide) (by decide)) (g := (mkF m 95 #[iv i0, iv i1, iv i2, iv i3, iv i4, rv sb1, rv sb4, rv jb2x, rv jb3x, rv b50, rv b82, iv (((i4.toUInt32 >>> ((2 : Int32) &&& 31).toUInt32).toInt32) &&& (3 : Int32)), .unset] [(.ref jb2x), (.ref sb1)])) rfl (by rw [hml]; rfl) (argsL := [(.ref sb1), (.ref jb2x)]) (rest := []) (lenOf pd_15 rfl) rfl (by show 2 * 0 + _ ≤ _; exact Nat.le_of_eq rfl) (hb hby at_95) (fun _ _ => ⟨rfl, rfl, (by decide : 30 + 0 ≤ _), (by decide : 188 + 0 ≤ _)⟩)
        dsimp only [Pt.U, Pt.locs, Pt.cells, Pt.slots] at X111 l111 y111 z111 st111 hQ111
        subst l111 y111 z111
        obtain ⟨hv111, N111q, e111q⟩ := hQ111
        have N111 := Fr.app N94 N111q
        rw [if_pos hA] at hv111
        subst hv111
        have e111 : T111.heap = T94.heap := e111q
        have En_113 := ((En_70.ext E82).keep K94)
        have Fn_114 := ((Fn_71.ext E82).keep K94 (ninS ne_sb4_b82 nin0))
        have Fn_115 := ((Fn_72.ext E82).keep K94 (ninS ne_sb4_b82 nin0))
        have Vn_116 := ((Vn_73.ext E82).keep K94 (ninS ne_st4x_b82 nin0))
        have En_117 := (En_88.keep K94)
        have Fn_118 := (Fn_89.keep K94 (ninS ne_jb3x_b82 nin0))
        have Fn_119 := (Fn_90.keep K94 (ninS ne_jb3x_b82 nin0))
        have Vn_120 := (Vn_91.keep K94 (ninS ne_jt3x_b82 nin0))
        obtain ⟨_, _, ⟨T121, L121, k121, n121⟩, -, X121, ⟨Lc121, hQ121, l121, y121, z121⟩, st121⟩ := Jvm.LawKit.callS X111 hx (y := (⟨"com/example/garter/garter/schema/TableNameEqualsPinLaw", "same", "(Ljava/lang/String;Ljava/lang/String;)Z"⟩ : MethodName)) hown94 (mvT hZ94 (hw _ (List.mem_of_getElem? (i := 120) rfl))) (mvT hZ94 (hw _ (List.mem_of_getElem? (i := 121) rfl))) (mvT hZ94 (hw _ (List.mem_of_getElem? (i := 2) rfl))) (mvT hZ94 (hw _ (List.mem_of_getElem? (i := 122) rfl))) (by decide) (backOf (W := 0) (rmSame l Z a0 hw [] sb4 st4x sk4 (own_mk i1) jb3x jt3x jk3x (own_mk jp3x) zc fm T94.heap n0 Zs112 En_113 Fn_114 Fn_115 Vn_116 En_117 Fn_118 Fn_119 Vn_120 Sn_109 hzc Sn_110 hfm (own_mk_ok _) (own_mk_ok _)) hZ94 (hw _ (List.mem_of_getElem? (i := 122) rfl)) (hw _ (List.mem_of_getElem? (i := 2) rfl)) (by decide) (by decide)) (g := (mkF m 105 #[iv i0, iv i1, iv i2, iv i3, iv i4, rv sb1, rv sb4, rv jb2x, rv jb3x, rv b50, rv b82, iv (((i4.toUInt32 >>> ((2 : Int32) &&& 31).toUInt32).toInt32) &&& (3 : Int32)), .unset] [(.ref jb3x), (.ref sb4)])) rfl (by rw [hml]; rfl) (argsL := [(.ref sb4), (.ref jb3x)]) (rest := []) (lenOf pd_15 rfl) rfl (by show 2 * 0 + _ ≤ _; exact Nat.le_of_eq rfl) (hb hby at_105) (fun _ _ => ⟨rfl, e111, (by decide : 30 + 0 ≤ _), (by decide : 188 + 0 ≤ _)⟩)
        dsimp only [Pt.U, Pt.locs, Pt.cells, Pt.slots] at X121 l121 y121 z121 st121 hQ121
        subst l121 y121 z121
        obtain ⟨hv121, N121q, e121q⟩ := hQ121
        have N121 := Fr.app N111 N121q
        rw [if_pos hB] at hv121
        subst hv121
        have e121 : T121.heap = T94.heap := e121q
        have En_122 := ((Eo62.ext E82).keep K94)
        have Fn_123 := ((Fd62.ext E82).keep K94 (ninS ne_b50_b82 nin0))
        have Fn_124 := ((Ft62.ext E82).keep K94 (ninS ne_b50_b82 nin0))
        obtain ⟨cq125, kq125, q125a, q125b, q125c⟩ := isOf hZ94 e121 En_122
        obtain ⟨_, _, ⟨T125, L125, k125, n125⟩, -, X125, ⟨Lc125, hQ125, l125, y125, z125⟩, st125⟩ := X121.virtualBack hx (y := (⟨"com/example/garter/garter/schema/TableName", "equals", "(Ljava/lang/Object;)Z"⟩ : MethodName)) (z := (⟨"com/example/garter/garter/schema/TableName", "equals", "(Ljava/lang/Object;)Z"⟩ : MethodName)) hown94 (mvT hZ94 (hw _ (List.mem_of_getElem? (i := 125) rfl))) (mvT hZ94 (hw _ (List.mem_of_getElem? (i := 126) rfl))) (notFace_of_selects (args := #[]) (mvT hZ94 (hw _ (List.mem_of_getElem? (i := 128) rfl)))) (mvT hZ94 (hw _ (List.mem_of_getElem? (i := 128) rfl))) (mvT hZ94 (hw _ (List.mem_of_getElem? (i := 127) rfl))) (by decide) (backOf (W := 0) (rmEqT l Z a0 hw [] b50 b82 sb1 st1x sk1 (own_mk i0) sb4 st4x sk4 (own_mk i1) jb2x jt2x jk2x (own_mk jp2x) jb3x jt3x jk3x (own_mk jp3x) zc T94.heap n0 Zs112 En_122 Fn_123 Fn_124 Eo94 Fd94 Ft94 En_101 Fn_102 Fn_103 Vn_104 En_113 Fn_114 Fn_115 Vn_116 En_105 Fn_106 Fn_107 Vn_108 En_117 Fn_118 Fn_119 Vn_120 Sn_109 hzc (own_mk_ok _) (own_mk_ok _) (own_mk_ok _) (own_mk_ok _)) hZ94 (hw _ (List.mem_of_getElem? (i := 129) rfl)) (hw _ (List.mem_of_getElem? (i := 42) rfl)) (by decide) (by decide)) q125a q125c (g := (mkF m 122 #[iv i0, iv i1, iv i2, iv i3, iv i4, rv sb1, rv sb4, rv jb2x, rv jb3x, rv b50, rv b82, iv (((i4.toUInt32 >>> ((2 : Int32) &&& 31).toUInt32).toInt32) &&& (3 : Int32)), iv (1 : Int32)] [(.ref b82), (.ref b50)])) rfl (by rw [hml]; rfl) (Steps.refl _) (argsL := [(.ref b82)]) (rest := []) (lenOf pd_12 rfl) rfl (by show 2 * 0 + _ ≤ _; exact Nat.le_of_eq rfl) (hb hby at_122) (fun _ _ => ⟨rfl, e121, (by decide : 30 + 0 ≤ _), (by decide : 188 + 0 ≤ _)⟩)
        dsimp only [Pt.U, Pt.locs, Pt.cells, Pt.slots] at X125 l125 y125 z125 st125 hQ125
        subst l125 y125 z125
        obtain ⟨hv125, N125q, e125q⟩ := hQ125
        have N125 := Fr.app N121 N125q
        rw [if_pos ⟨hA, hB⟩] at hv125
        subst hv125
        have e125 : T125.heap = T94.heap := e125q
        obtain ⟨cq126, kq126, q126a, q126b, q126c⟩ := isOf hZ94 e125 Eo94
        obtain ⟨_, _, ⟨T126, L126, k126, n126⟩, -, X126, ⟨Lc126, hQ126, l126, y126, z126⟩, st126⟩ := X125.virtualBack hx (y := (⟨"com/example/garter/garter/schema/TableName", "equals", "(Ljava/lang/Object;)Z"⟩ : MethodName)) (z := (⟨"com/example/garter/garter/schema/TableName", "equals", "(Ljava/lang/Object;)Z"⟩ : MethodName)) hown94 (mvT hZ94 (hw _ (List.mem_of_getElem? (i := 125) rfl))) (mvT hZ94 (hw _ (List.mem_of_getElem? (i := 126) rfl))) (notFace_of_selects (args := #[]) (mvT hZ94 (hw _ (List.mem_of_getElem? (i := 128) rfl)))) (mvT hZ94 (hw _ (List.mem_of_getElem? (i := 128) rfl))) (mvT hZ94 (hw _ (List.mem_of_getElem? (i := 127) rfl))) (by decide) (backOf (W := 0) (rmEqT l Z a0 hw [] b82 b50 jb2x jt2x jk2x (own_mk jp2x) jb3x jt3x jk3x (own_mk jp3x) sb1 st1x sk1 (own_mk i0) sb4 st4x sk4 (own_mk i1) zc T94.heap n0 Zs112 Eo94 Fd94 Ft94 En_122 Fn_123 Fn_124 En_105 Fn_106 Fn_107 Vn_108 En_117 Fn_118 Fn_119 Vn_120 En_101 Fn_102 Fn_103 Vn_104 En_113 Fn_114 Fn_115 Vn_116 Sn_109 hzc (own_mk_ok _) (own_mk_ok _) (own_mk_ok _) (own_mk_ok _)) hZ94 (hw _ (List.mem_of_getElem? (i := 129) rfl)) (hw _ (List.mem_of_getElem? (i := 42) rfl)) (by decide) (by decide)) q126a q126c (g := (mkF m 134 #[iv i0, iv i1, iv i2, iv i3, iv i4, rv sb1, rv sb4, rv jb2x, rv jb3x, rv b50, rv b82, iv (((i4.toUInt32 >>> ((2 : Int32) &&& 31).toUInt32).toInt32) &&& (3 : Int32)), iv (1 : Int32)] [(.ref b50), (.ref b82)])) rfl (by rw [hml]; rfl) (Steps.refl _) (argsL := [(.ref b50)]) (rest := []) (lenOf pd_12 rfl) rfl (by show 2 * 0 + _ ≤ _; exact Nat.le_of_eq rfl) (hb hby at_134) (fun _ _ => ⟨rfl, e125, (by decide : 30 + 0 ≤ _), (by decide : 188 + 0 ≤ _)⟩)
        dsimp only [Pt.U, Pt.locs, Pt.cells, Pt.slots] at X126 l126 y126 z126 st126 hQ126
        subst l126 y126 z126
        obtain ⟨hv126, N126q, e126q⟩ := hQ126
        have N126 := Fr.app N125 N126q
        rw [if_pos ⟨hA.symm, hB.symm⟩] at hv126
        subst hv126
        have e126 : T126.heap = T94.heap := e126q
        have pre127 : ∀ tg, own_S p e below T126 m 147 #[iv i0, iv i1, iv i2, iv i3, iv i4, rv sb1, rv sb4, rv jb2x, rv jb3x, rv b50, rv b82, iv (((i4.toUInt32 >>> ((2 : Int32) &&& 31).toUInt32).toInt32) &&& (3 : Int32)), iv (1 : Int32)] [(.int (1 : Int32))] tg → Steps p.tables e below (s₁.setTop (entryFrame m #[(.int i0), (.int i1), (.int i2), (.int i3), (.int i4)] maxLocals)) tg := fun tg k => pre100 tg (by
          show own_S p e below T94 m 91 #[iv i0, iv i1, iv i2, iv i3, iv i4, rv sb1, rv sb4, rv jb2x, rv jb3x, rv b50, rv b82, iv (((i4.toUInt32 >>> ((2 : Int32) &&& 31).toUInt32).toInt32) &&& (3 : Int32)), .unset] [] _
          refine XS.aload X94.here hx rfl (hb hby at_91) rfl rfl ?_
          refine XS.aload X94.here hx rfl (hb hby at_93) rfl rfl ?_
          refine st111 _ ?_
          show own_S p e below T111 m 98 #[iv i0, iv i1, iv i2, iv i3, iv i4, rv sb1, rv sb4, rv jb2x, rv jb3x, rv b50, rv b82, iv (((i4.toUInt32 >>> ((2 : Int32) &&& 31).toUInt32).toInt32) &&& (3 : Int32)), .unset] [(.int (1 : Int32))] _
          refine XS.ifNo X111.here hx rfl (hb hby at_98) rfl ((if0 _ _).trans (feq (by decide : ¬ ((1 : Int32) = (0 : Int32)))).1) ?_
          refine XS.aload X111.here hx rfl (hb hby at_101) rfl rfl ?_
          refine XS.aload X111.here hx rfl (hb hby at_103) rfl rfl ?_
          show own_S p e below T111 m 105 #[iv i0, iv i1, iv i2, iv i3, iv i4, rv sb1, rv sb4, rv jb2x, rv jb3x, rv b50, rv b82, iv (((i4.toUInt32 >>> ((2 : Int32) &&& 31).toUInt32).toInt32) &&& (3 : Int32)), .unset] [(.ref jb3x), (.ref sb4)] _
          refine st121 _ ?_
          refine XS.ifNo X121.here hx rfl (hb hby at_108) rfl ((if0 _ _).trans (feq (by decide : ¬ ((1 : Int32) = (0 : Int32)))).1) ?_
          refine XS.iconst X121.here hx rfl (hb hby at_111) ?_
          show own_S p e below T121 m 112 #[iv i0, iv i1, iv i2, iv i3, iv i4, rv sb1, rv sb4, rv jb2x, rv jb3x, rv b50, rv b82, iv (((i4.toUInt32 >>> ((2 : Int32) &&& 31).toUInt32).toInt32) &&& (3 : Int32)), .unset] [(.int (1 : Int32))] _
          refine XS.goto X121.here hx rfl (pc0 := 112) (pc' := 116) rfl (hb hby at_112) (by decide) (by decide) ?_
          refine XS.istore X121.here hx rfl (hb hby at_116) rfl (l' := #[iv i0, iv i1, iv i2, iv i3, iv i4, rv sb1, rv sb4, rv jb2x, rv jb3x, rv b50, rv b82, iv (((i4.toUInt32 >>> ((2 : Int32) &&& 31).toUInt32).toInt32) &&& (3 : Int32)), iv (1 : Int32)]) rfl ?_
          refine XS.aload X121.here hx rfl (hb hby at_118) rfl rfl ?_
          show own_S p e below T121 m 120 #[iv i0, iv i1, iv i2, iv i3, iv i4, rv sb1, rv sb4, rv jb2x, rv jb3x, rv b50, rv b82, iv (((i4.toUInt32 >>> ((2 : Int32) &&& 31).toUInt32).toInt32) &&& (3 : Int32)), iv (1 : Int32)] [(.ref b50)] _
          refine XS.aload X121.here hx rfl (hb hby at_120) rfl rfl ?_
          refine st125.trans ?_
          refine XS.iload X125.here hx rfl (hb hby at_125) rfl ?_
          show own_S p e below T125 m 127 #[iv i0, iv i1, iv i2, iv i3, iv i4, rv sb1, rv sb4, rv jb2x, rv jb3x, rv b50, rv b82, iv (((i4.toUInt32 >>> ((2 : Int32) &&& 31).toUInt32).toInt32) &&& (3 : Int32)), iv (1 : Int32)] [(.int (1 : Int32)), (.int (1 : Int32))] _
          refine XS.icmpNo X125.here hx rfl (hb hby at_127) rfl (teq (by decide : (1 : Int32) = (1 : Int32))).2 ?_
          refine XS.aload X125.here hx rfl (hb hby at_130) rfl rfl ?_
          refine XS.aload X125.here hx rfl (hb hby at_132) rfl rfl ?_
          show own_S p e below T125 m 134 #[iv i0, iv i1, iv i2, iv i3, iv i4, rv sb1, rv sb4, rv jb2x, rv jb3x, rv b50, rv b82, iv (((i4.toUInt32 >>> ((2 : Int32) &&& 31).toUInt32).toInt32) &&& (3 : Int32)), iv (1 : Int32)] [(.ref b50), (.ref b82)] _
          refine st126.trans ?_
          refine XS.iload X126.here hx rfl (hb hby at_137) rfl ?_
          refine XS.icmpNo X126.here hx rfl (hb hby at_139) rfl (teq (by decide : (1 : Int32) = (1 : Int32))).2 ?_
          show own_S p e below T126 m 142 #[iv i0, iv i1, iv i2, iv i3, iv i4, rv sb1, rv sb4, rv jb2x, rv jb3x, rv b50, rv b82, iv (((i4.toUInt32 >>> ((2 : Int32) &&& 31).toUInt32).toInt32) &&& (3 : Int32)), iv (1 : Int32)] [] _
          refine XS.iconst X126.here hx rfl (hb hby at_142) ?_
          refine XS.goto X126.here hx rfl (pc0 := 143) (pc' := 147) rfl (hb hby at_143) (by decide) (by decide) ?_
          exact k)
        obtain ⟨fs, hr, hrun, hended, hEnd⟩ := Stand.leaveW (s := s) (vm₁ := T94.vm) X126 hS94 (show _ ≤ T126.heap.size by rw [e126]; exact hk94) (v := some (.int (nar .boolean (1 : Int32)))) (fun h => by rw [Bd.returns] at h; cases h)
        refine ⟨_, _, pre127 _ ?_, hrun, hended, _, _, rfl, ?_, ?_, hEnd.1, hEnd.2.1, hEnd.2.2.1, hEnd.2.2.2.mono (by decide) (by decide)⟩
        · show own_S p e below T126 m 147 #[iv i0, iv i1, iv i2, iv i3, iv i4, rv sb1, rv sb4, rv jb2x, rv jb3x, rv b50, rv b82, iv (((i4.toUInt32 >>> ((2 : Int32) &&& 31).toUInt32).toInt32) &&& (3 : Int32)), iv (1 : Int32)] [(.int (1 : Int32))] _
          exact retN X126 hx (t := .boolean) Bd.returns (by simp) (hb hby at_147) hr
        · show Q0 Z i0 i1 i2 i3 i4 zc fm h0 n0 _ T126.heap _
          rw [e126]
          exact ⟨rfl, N126⟩
        · show CHr Z consts_1 s.vm s.heap T126.vm T126.heap
          rw [hh]
          rw [e126]
          exact R96.trans (CHv.at (s := s) (vm0 := T94.vm) X126 hZ94 (own_EL hw) R96.1)
      ·  -- case
        have En_128 := ((En_66.ext E82).keep K94)
        have Fn_129 := ((Fn_67.ext E82).keep K94 (ninS ne_sb1_b82 nin0))
        have Fn_130 := ((Fn_68.ext E82).keep K94 (ninS ne_sb1_b82 nin0))
        have Vn_131 := ((Vn_69.ext E82).keep K94 (ninS ne_st1x_b82 nin0))
        have En_132 := (En_84.keep K94)
        have Fn_133 := (Fn_85.keep K94 (ninS ne_jb2x_b82 nin0))
        have Fn_134 := (Fn_86.keep K94 (ninS ne_jb2x_b82 nin0))
        have Vn_135 := (Vn_87.keep K94 (ninS ne_jt2x_b82 nin0))
        have Sn_136 := (own_sta_keep Sn_92 K94 A82)
        have Sn_137 := (own_sta_keep Sn_93 K94 A82)
        have Zs139 : n0 ≤ T94.heap.size := (Nat.le_trans Zs95 K94.1)
        obtain ⟨_, _, ⟨T138, L138, k138, n138⟩, -, X138, ⟨Lc138, hQ138, l138, y138, z138⟩, st138⟩ := Jvm.LawKit.callS X94 hx (y := (⟨"com/example/garter/garter/schema/TableNameEqualsPinLaw", "same", "(Ljava/lang/String;Ljava/lang/String;)Z"⟩ : MethodName)) hown94 (mvT hZ94 (hw _ (List.mem_of_getElem? (i := 120) rfl))) (mvT hZ94 (hw _ (List.mem_of_getElem? (i := 121) rfl))) (mvT hZ94 (hw _ (List.mem_of_getElem? (i := 2) rfl))) (mvT hZ94 (hw _ (List.mem_of_getElem? (i := 122) rfl))) (by decide) (backOf (W := 0) (rmSame l Z a0 hw [] sb1 st1x sk1 (own_mk i0) jb2x jt2x jk2x (own_mk jp2x) zc fm T94.heap n0 Zs139 En_128 Fn_129 Fn_130 Vn_131 En_132 Fn_133 Fn_134 Vn_135 Sn_136 hzc Sn_137 hfm (own_mk_ok _) (own_mk_ok _)) hZ94 (hw _ (List.mem_of_getElem? (i := 122) rfl)) (hw _ (List.mem_of_getElem? (i := 2) rfl)) (by decide) (by decide)) (g := (mkF m 95 #[iv i0, iv i1, iv i2, iv i3, iv i4, rv sb1, rv sb4, rv jb2x, rv jb3x, rv b50, rv b82, iv (((i4.toUInt32 >>> ((2 : Int32) &&& 31).toUInt32).toInt32) &&& (3 : Int32)), .unset] [(.ref jb2x), (.ref sb1)])) rfl (by rw [hml]; rfl) (argsL := [(.ref sb1), (.ref jb2x)]) (rest := []) (lenOf pd_15 rfl) rfl (by show 2 * 0 + _ ≤ _; exact Nat.le_of_eq rfl) (hb hby at_95) (fun _ _ => ⟨rfl, rfl, (by decide : 30 + 0 ≤ _), (by decide : 188 + 0 ≤ _)⟩)
        dsimp only [Pt.U, Pt.locs, Pt.cells, Pt.slots] at X138 l138 y138 z138 st138 hQ138
        subst l138 y138 z138
        obtain ⟨hv138, N138q, e138q⟩ := hQ138
        have N138 := Fr.app N94 N138q
        rw [if_pos hA] at hv138
        subst hv138
        have e138 : T138.heap = T94.heap := e138q
        have En_140 := ((En_70.ext E82).keep K94)
        have Fn_141 := ((Fn_71.ext E82).keep K94 (ninS ne_sb4_b82 nin0))
        have Fn_142 := ((Fn_72.ext E82).keep K94 (ninS ne_sb4_b82 nin0))
        have Vn_143 := ((Vn_73.ext E82).keep K94 (ninS ne_st4x_b82 nin0))
        have En_144 := (En_88.keep K94)
        have Fn_145 := (Fn_89.keep K94 (ninS ne_jb3x_b82 nin0))
        have Fn_146 := (Fn_90.keep K94 (ninS ne_jb3x_b82 nin0))
        have Vn_147 := (Vn_91.keep K94 (ninS ne_jt3x_b82 nin0))
        obtain ⟨_, _, ⟨T148, L148, k148, n148⟩, -, X148, ⟨Lc148, hQ148, l148, y148, z148⟩, st148⟩ := Jvm.LawKit.callS X138 hx (y := (⟨"com/example/garter/garter/schema/TableNameEqualsPinLaw", "same", "(Ljava/lang/String;Ljava/lang/String;)Z"⟩ : MethodName)) hown94 (mvT hZ94 (hw _ (List.mem_of_getElem? (i := 120) rfl))) (mvT hZ94 (hw _ (List.mem_of_getElem? (i := 121) rfl))) (mvT hZ94 (hw _ (List.mem_of_getElem? (i := 2) rfl))) (mvT hZ94 (hw _ (List.mem_of_getElem? (i := 122) rfl))) (by decide) (backOf (W := 0) (rmSame l Z a0 hw [] sb4 st4x sk4 (own_mk i1) jb3x jt3x jk3x (own_mk jp3x) zc fm T94.heap n0 Zs139 En_140 Fn_141 Fn_142 Vn_143 En_144 Fn_145 Fn_146 Vn_147 Sn_136 hzc Sn_137 hfm (own_mk_ok _) (own_mk_ok _)) hZ94 (hw _ (List.mem_of_getElem? (i := 122) rfl)) (hw _ (List.mem_of_getElem? (i := 2) rfl)) (by decide) (by decide)) (g := (mkF m 105 #[iv i0, iv i1, iv i2, iv i3, iv i4, rv sb1, rv sb4, rv jb2x, rv jb3x, rv b50, rv b82, iv (((i4.toUInt32 >>> ((2 : Int32) &&& 31).toUInt32).toInt32) &&& (3 : Int32)), .unset] [(.ref jb3x), (.ref sb4)])) rfl (by rw [hml]; rfl) (argsL := [(.ref sb4), (.ref jb3x)]) (rest := []) (lenOf pd_15 rfl) rfl (by show 2 * 0 + _ ≤ _; exact Nat.le_of_eq rfl) (hb hby at_105) (fun _ _ => ⟨rfl, e138, (by decide : 30 + 0 ≤ _), (by decide : 188 + 0 ≤ _)⟩)
        dsimp only [Pt.U, Pt.locs, Pt.cells, Pt.slots] at X148 l148 y148 z148 st148 hQ148
        subst l148 y148 z148
        obtain ⟨hv148, N148q, e148q⟩ := hQ148
        have N148 := Fr.app N138 N148q
        rw [if_neg hB] at hv148
        subst hv148
        have e148 : T148.heap = T94.heap := e148q
        have En_149 := ((Eo62.ext E82).keep K94)
        have Fn_150 := ((Fd62.ext E82).keep K94 (ninS ne_b50_b82 nin0))
        have Fn_151 := ((Ft62.ext E82).keep K94 (ninS ne_b50_b82 nin0))
        obtain ⟨cq152, kq152, q152a, q152b, q152c⟩ := isOf hZ94 e148 En_149
        obtain ⟨_, _, ⟨T152, L152, k152, n152⟩, -, X152, ⟨Lc152, hQ152, l152, y152, z152⟩, st152⟩ := X148.virtualBack hx (y := (⟨"com/example/garter/garter/schema/TableName", "equals", "(Ljava/lang/Object;)Z"⟩ : MethodName)) (z := (⟨"com/example/garter/garter/schema/TableName", "equals", "(Ljava/lang/Object;)Z"⟩ : MethodName)) hown94 (mvT hZ94 (hw _ (List.mem_of_getElem? (i := 125) rfl))) (mvT hZ94 (hw _ (List.mem_of_getElem? (i := 126) rfl))) (notFace_of_selects (args := #[]) (mvT hZ94 (hw _ (List.mem_of_getElem? (i := 128) rfl)))) (mvT hZ94 (hw _ (List.mem_of_getElem? (i := 128) rfl))) (mvT hZ94 (hw _ (List.mem_of_getElem? (i := 127) rfl))) (by decide) (backOf (W := 0) (rmEqT l Z a0 hw [] b50 b82 sb1 st1x sk1 (own_mk i0) sb4 st4x sk4 (own_mk i1) jb2x jt2x jk2x (own_mk jp2x) jb3x jt3x jk3x (own_mk jp3x) zc T94.heap n0 Zs139 En_149 Fn_150 Fn_151 Eo94 Fd94 Ft94 En_128 Fn_129 Fn_130 Vn_131 En_140 Fn_141 Fn_142 Vn_143 En_132 Fn_133 Fn_134 Vn_135 En_144 Fn_145 Fn_146 Vn_147 Sn_136 hzc (own_mk_ok _) (own_mk_ok _) (own_mk_ok _) (own_mk_ok _)) hZ94 (hw _ (List.mem_of_getElem? (i := 129) rfl)) (hw _ (List.mem_of_getElem? (i := 42) rfl)) (by decide) (by decide)) q152a q152c (g := (mkF m 122 #[iv i0, iv i1, iv i2, iv i3, iv i4, rv sb1, rv sb4, rv jb2x, rv jb3x, rv b50, rv b82, iv (((i4.toUInt32 >>> ((2 : Int32) &&& 31).toUInt32).toInt32) &&& (3 : Int32)), iv (0 : Int32)] [(.ref b82), (.ref b50)])) rfl (by rw [hml]; rfl) (Steps.refl _) (argsL := [(.ref b82)]) (rest := []) (lenOf pd_12 rfl) rfl (by show 2 * 0 + _ ≤ _; exact Nat.le_of_eq rfl) (hb hby at_122) (fun _ _ => ⟨rfl, e148, (by decide : 30 + 0 ≤ _), (by decide : 188 + 0 ≤ _)⟩)
        dsimp only [Pt.U, Pt.locs, Pt.cells, Pt.slots] at X152 l152 y152 z152 st152 hQ152
        subst l152 y152 z152
        obtain ⟨hv152, N152q, e152q⟩ := hQ152
        have N152 := Fr.app N148 N152q
        rw [if_neg (fun q => hB q.2)] at hv152
        subst hv152
        have e152 : T152.heap = T94.heap := e152q
        obtain ⟨cq153, kq153, q153a, q153b, q153c⟩ := isOf hZ94 e152 Eo94
        obtain ⟨_, _, ⟨T153, L153, k153, n153⟩, -, X153, ⟨Lc153, hQ153, l153, y153, z153⟩, st153⟩ := X152.virtualBack hx (y := (⟨"com/example/garter/garter/schema/TableName", "equals", "(Ljava/lang/Object;)Z"⟩ : MethodName)) (z := (⟨"com/example/garter/garter/schema/TableName", "equals", "(Ljava/lang/Object;)Z"⟩ : MethodName)) hown94 (mvT hZ94 (hw _ (List.mem_of_getElem? (i := 125) rfl))) (mvT hZ94 (hw _ (List.mem_of_getElem? (i := 126) rfl))) (notFace_of_selects (args := #[]) (mvT hZ94 (hw _ (List.mem_of_getElem? (i := 128) rfl)))) (mvT hZ94 (hw _ (List.mem_of_getElem? (i := 128) rfl))) (mvT hZ94 (hw _ (List.mem_of_getElem? (i := 127) rfl))) (by decide) (backOf (W := 0) (rmEqT l Z a0 hw [] b82 b50 jb2x jt2x jk2x (own_mk jp2x) jb3x jt3x jk3x (own_mk jp3x) sb1 st1x sk1 (own_mk i0) sb4 st4x sk4 (own_mk i1) zc T94.heap n0 Zs139 Eo94 Fd94 Ft94 En_149 Fn_150 Fn_151 En_132 Fn_133 Fn_134 Vn_135 En_144 Fn_145 Fn_146 Vn_147 En_128 Fn_129 Fn_130 Vn_131 En_140 Fn_141 Fn_142 Vn_143 Sn_136 hzc (own_mk_ok _) (own_mk_ok _) (own_mk_ok _) (own_mk_ok _)) hZ94 (hw _ (List.mem_of_getElem? (i := 129) rfl)) (hw _ (List.mem_of_getElem? (i := 42) rfl)) (by decide) (by decide)) q153a q153c (g := (mkF m 134 #[iv i0, iv i1, iv i2, iv i3, iv i4, rv sb1, rv sb4, rv jb2x, rv jb3x, rv b50, rv b82, iv (((i4.toUInt32 >>> ((2 : Int32) &&& 31).toUInt32).toInt32) &&& (3 : Int32)), iv (0 : Int32)] [(.ref b50), (.ref b82)])) rfl (by rw [hml]; rfl) (Steps.refl _) (argsL := [(.ref b50)]) (rest := []) (lenOf pd_12 rfl) rfl (by show 2 * 0 + _ ≤ _; exact Nat.le_of_eq rfl) (hb hby at_134) (fun _ _ => ⟨rfl, e152, (by decide : 30 + 0 ≤ _), (by decide : 188 + 0 ≤ _)⟩)
        dsimp only [Pt.U, Pt.locs, Pt.cells, Pt.slots] at X153 l153 y153 z153 st153 hQ153
        subst l153 y153 z153
        obtain ⟨hv153, N153q, e153q⟩ := hQ153
        have N153 := Fr.app N152 N153q
        rw [if_neg (fun q => hB q.2.symm)] at hv153
        subst hv153
        have e153 : T153.heap = T94.heap := e153q
        have pre154 : ∀ tg, own_S p e below T153 m 147 #[iv i0, iv i1, iv i2, iv i3, iv i4, rv sb1, rv sb4, rv jb2x, rv jb3x, rv b50, rv b82, iv (((i4.toUInt32 >>> ((2 : Int32) &&& 31).toUInt32).toInt32) &&& (3 : Int32)), iv (0 : Int32)] [(.int (1 : Int32))] tg → Steps p.tables e below (s₁.setTop (entryFrame m #[(.int i0), (.int i1), (.int i2), (.int i3), (.int i4)] maxLocals)) tg := fun tg k => pre100 tg (by
          show own_S p e below T94 m 91 #[iv i0, iv i1, iv i2, iv i3, iv i4, rv sb1, rv sb4, rv jb2x, rv jb3x, rv b50, rv b82, iv (((i4.toUInt32 >>> ((2 : Int32) &&& 31).toUInt32).toInt32) &&& (3 : Int32)), .unset] [] _
          refine XS.aload X94.here hx rfl (hb hby at_91) rfl rfl ?_
          refine XS.aload X94.here hx rfl (hb hby at_93) rfl rfl ?_
          refine st138 _ ?_
          show own_S p e below T138 m 98 #[iv i0, iv i1, iv i2, iv i3, iv i4, rv sb1, rv sb4, rv jb2x, rv jb3x, rv b50, rv b82, iv (((i4.toUInt32 >>> ((2 : Int32) &&& 31).toUInt32).toInt32) &&& (3 : Int32)), .unset] [(.int (1 : Int32))] _
          refine XS.ifNo X138.here hx rfl (hb hby at_98) rfl ((if0 _ _).trans (feq (by decide : ¬ ((1 : Int32) = (0 : Int32)))).1) ?_
          refine XS.aload X138.here hx rfl (hb hby at_101) rfl rfl ?_
          refine XS.aload X138.here hx rfl (hb hby at_103) rfl rfl ?_
          show own_S p e below T138 m 105 #[iv i0, iv i1, iv i2, iv i3, iv i4, rv sb1, rv sb4, rv jb2x, rv jb3x, rv b50, rv b82, iv (((i4.toUInt32 >>> ((2 : Int32) &&& 31).toUInt32).toInt32) &&& (3 : Int32)), .unset] [(.ref jb3x), (.ref sb4)] _
          refine st148 _ ?_
          refine XS.ifYes X148.here hx rfl (pc0 := 108) (pc' := 115) rfl (hb hby at_108) rfl ((if0 _ _).trans (teq (by decide : (0 : Int32) = (0 : Int32))).1) (by decide) (by decide) ?_
          refine XS.iconst X148.here hx rfl (hb hby at_115) ?_
          show own_S p e below T148 m 116 #[iv i0, iv i1, iv i2, iv i3, iv i4, rv sb1, rv sb4, rv jb2x, rv jb3x, rv b50, rv b82, iv (((i4.toUInt32 >>> ((2 : Int32) &&& 31).toUInt32).toInt32) &&& (3 : Int32)), .unset] [(.int (0 : Int32))] _
          refine XS.istore X148.here hx rfl (hb hby at_116) rfl (l' := #[iv i0, iv i1, iv i2, iv i3, iv i4, rv sb1, rv sb4, rv jb2x, rv jb3x, rv b50, rv b82, iv (((i4.toUInt32 >>> ((2 : Int32) &&& 31).toUInt32).toInt32) &&& (3 : Int32)), iv (0 : Int32)]) rfl ?_
          refine XS.aload X148.here hx rfl (hb hby at_118) rfl rfl ?_
          refine XS.aload X148.here hx rfl (hb hby at_120) rfl rfl ?_
          show own_S p e below T148 m 122 #[iv i0, iv i1, iv i2, iv i3, iv i4, rv sb1, rv sb4, rv jb2x, rv jb3x, rv b50, rv b82, iv (((i4.toUInt32 >>> ((2 : Int32) &&& 31).toUInt32).toInt32) &&& (3 : Int32)), iv (0 : Int32)] [(.ref b82), (.ref b50)] _
          refine st152.trans ?_
          refine XS.iload X152.here hx rfl (hb hby at_125) rfl ?_
          refine XS.icmpNo X152.here hx rfl (hb hby at_127) rfl (teq (by decide : (0 : Int32) = (0 : Int32))).2 ?_
          show own_S p e below T152 m 130 #[iv i0, iv i1, iv i2, iv i3, iv i4, rv sb1, rv sb4, rv jb2x, rv jb3x, rv b50, rv b82, iv (((i4.toUInt32 >>> ((2 : Int32) &&& 31).toUInt32).toInt32) &&& (3 : Int32)), iv (0 : Int32)] [] _
          refine XS.aload X152.here hx rfl (hb hby at_130) rfl rfl ?_
          refine XS.aload X152.here hx rfl (hb hby at_132) rfl rfl ?_
          refine st153.trans ?_
          show own_S p e below T153 m 137 #[iv i0, iv i1, iv i2, iv i3, iv i4, rv sb1, rv sb4, rv jb2x, rv jb3x, rv b50, rv b82, iv (((i4.toUInt32 >>> ((2 : Int32) &&& 31).toUInt32).toInt32) &&& (3 : Int32)), iv (0 : Int32)] [(.int (0 : Int32))] _
          refine XS.iload X153.here hx rfl (hb hby at_137) rfl ?_
          refine XS.icmpNo X153.here hx rfl (hb hby at_139) rfl (teq (by decide : (0 : Int32) = (0 : Int32))).2 ?_
          refine XS.iconst X153.here hx rfl (hb hby at_142) ?_
          show own_S p e below T153 m 143 #[iv i0, iv i1, iv i2, iv i3, iv i4, rv sb1, rv sb4, rv jb2x, rv jb3x, rv b50, rv b82, iv (((i4.toUInt32 >>> ((2 : Int32) &&& 31).toUInt32).toInt32) &&& (3 : Int32)), iv (0 : Int32)] [(.int (1 : Int32))] _
          refine XS.goto X153.here hx rfl (pc0 := 143) (pc' := 147) rfl (hb hby at_143) (by decide) (by decide) ?_
          exact k)
        obtain ⟨fs, hr, hrun, hended, hEnd⟩ := Stand.leaveW (s := s) (vm₁ := T94.vm) X153 hS94 (show _ ≤ T153.heap.size by rw [e153]; exact hk94) (v := some (.int (nar .boolean (1 : Int32)))) (fun h => by rw [Bd.returns] at h; cases h)
        refine ⟨_, _, pre154 _ ?_, hrun, hended, _, _, rfl, ?_, ?_, hEnd.1, hEnd.2.1, hEnd.2.2.1, hEnd.2.2.2.mono (by decide) (by decide)⟩
        · show own_S p e below T153 m 147 #[iv i0, iv i1, iv i2, iv i3, iv i4, rv sb1, rv sb4, rv jb2x, rv jb3x, rv b50, rv b82, iv (((i4.toUInt32 >>> ((2 : Int32) &&& 31).toUInt32).toInt32) &&& (3 : Int32)), iv (0 : Int32)] [(.int (1 : Int32))] _
          exact retN X153 hx (t := .boolean) Bd.returns (by simp) (hb hby at_147) hr
        · show Q0 Z i0 i1 i2 i3 i4 zc fm h0 n0 _ T153.heap _
          rw [e153]
          exact ⟨rfl, N153⟩
        · show CHr Z consts_1 s.vm s.heap T153.vm T153.heap
          rw [hh]
          rw [e153]
          exact R96.trans (CHv.at (s := s) (vm0 := T94.vm) X153 hZ94 (own_EL hw) R96.1)
    ·  -- case
      have En_155 := ((En_66.ext E82).keep K94)
      have Fn_156 := ((Fn_67.ext E82).keep K94 (ninS ne_sb1_b82 nin0))
      have Fn_157 := ((Fn_68.ext E82).keep K94 (ninS ne_sb1_b82 nin0))
      have Vn_158 := ((Vn_69.ext E82).keep K94 (ninS ne_st1x_b82 nin0))
      have En_159 := (En_84.keep K94)
      have Fn_160 := (Fn_85.keep K94 (ninS ne_jb2x_b82 nin0))
      have Fn_161 := (Fn_86.keep K94 (ninS ne_jb2x_b82 nin0))
      have Vn_162 := (Vn_87.keep K94 (ninS ne_jt2x_b82 nin0))
      have Sn_163 := (own_sta_keep Sn_92 K94 A82)
      have Sn_164 := (own_sta_keep Sn_93 K94 A82)
      have Zs166 : n0 ≤ T94.heap.size := (Nat.le_trans Zs95 K94.1)
      obtain ⟨_, _, ⟨T165, L165, k165, n165⟩, -, X165, ⟨Lc165, hQ165, l165, y165, z165⟩, st165⟩ := Jvm.LawKit.callS X94 hx (y := (⟨"com/example/garter/garter/schema/TableNameEqualsPinLaw", "same", "(Ljava/lang/String;Ljava/lang/String;)Z"⟩ : MethodName)) hown94 (mvT hZ94 (hw _ (List.mem_of_getElem? (i := 120) rfl))) (mvT hZ94 (hw _ (List.mem_of_getElem? (i := 121) rfl))) (mvT hZ94 (hw _ (List.mem_of_getElem? (i := 2) rfl))) (mvT hZ94 (hw _ (List.mem_of_getElem? (i := 122) rfl))) (by decide) (backOf (W := 0) (rmSame l Z a0 hw [] sb1 st1x sk1 (own_mk i0) jb2x jt2x jk2x (own_mk jp2x) zc fm T94.heap n0 Zs166 En_155 Fn_156 Fn_157 Vn_158 En_159 Fn_160 Fn_161 Vn_162 Sn_163 hzc Sn_164 hfm (own_mk_ok _) (own_mk_ok _)) hZ94 (hw _ (List.mem_of_getElem? (i := 122) rfl)) (hw _ (List.mem_of_getElem? (i := 2) rfl)) (by decide) (by decide)) (g := (mkF m 95 #[iv i0, iv i1, iv i2, iv i3, iv i4, rv sb1, rv sb4, rv jb2x, rv jb3x, rv b50, rv b82, iv (((i4.toUInt32 >>> ((2 : Int32) &&& 31).toUInt32).toInt32) &&& (3 : Int32)), .unset] [(.ref jb2x), (.ref sb1)])) rfl (by rw [hml]; rfl) (argsL := [(.ref sb1), (.ref jb2x)]) (rest := []) (lenOf pd_15 rfl) rfl (by show 2 * 0 + _ ≤ _; exact Nat.le_of_eq rfl) (hb hby at_95) (fun _ _ => ⟨rfl, rfl, (by decide : 30 + 0 ≤ _), (by decide : 188 + 0 ≤ _)⟩)
      dsimp only [Pt.U, Pt.locs, Pt.cells, Pt.slots] at X165 l165 y165 z165 st165 hQ165
      subst l165 y165 z165
      obtain ⟨hv165, N165q, e165q⟩ := hQ165
      have N165 := Fr.app N94 N165q
      rw [if_neg hA] at hv165
      subst hv165
      have e165 : T165.heap = T94.heap := e165q
      have En_167 := ((Eo62.ext E82).keep K94)
      have Fn_168 := ((Fd62.ext E82).keep K94 (ninS ne_b50_b82 nin0))
      have Fn_169 := ((Ft62.ext E82).keep K94 (ninS ne_b50_b82 nin0))
      have En_170 := ((En_70.ext E82).keep K94)
      have Fn_171 := ((Fn_71.ext E82).keep K94 (ninS ne_sb4_b82 nin0))
      have Fn_172 := ((Fn_72.ext E82).keep K94 (ninS ne_sb4_b82 nin0))
      have Vn_173 := ((Vn_73.ext E82).keep K94 (ninS ne_st4x_b82 nin0))
      have En_174 := (En_88.keep K94)
      have Fn_175 := (Fn_89.keep K94 (ninS ne_jb3x_b82 nin0))
      have Fn_176 := (Fn_90.keep K94 (ninS ne_jb3x_b82 nin0))
      have Vn_177 := (Vn_91.keep K94 (ninS ne_jt3x_b82 nin0))
      obtain ⟨cq178, kq178, q178a, q178b, q178c⟩ := isOf hZ94 e165 En_167
      obtain ⟨_, _, ⟨T178, L178, k178, n178⟩, -, X178, ⟨Lc178, hQ178, l178, y178, z178⟩, st178⟩ := X165.virtualBack hx (y := (⟨"com/example/garter/garter/schema/TableName", "equals", "(Ljava/lang/Object;)Z"⟩ : MethodName)) (z := (⟨"com/example/garter/garter/schema/TableName", "equals", "(Ljava/lang/Object;)Z"⟩ : MethodName)) hown94 (mvT hZ94 (hw _ (List.mem_of_getElem? (i := 125) rfl))) (mvT hZ94 (hw _ (List.mem_of_getElem? (i := 126) rfl))) (notFace_of_selects (args := #[]) (mvT hZ94 (hw _ (List.mem_of_getElem? (i := 128) rfl)))) (mvT hZ94 (hw _ (List.mem_of_getElem? (i := 128) rfl))) (mvT hZ94 (hw _ (List.mem_of_getElem? (i := 127) rfl))) (by decide) (backOf (W := 0) (rmEqT l Z a0 hw [] b50 b82 sb1 st1x sk1 (own_mk i0) sb4 st4x sk4 (own_mk i1) jb2x jt2x jk2x (own_mk jp2x) jb3x jt3x jk3x (own_mk jp3x) zc T94.heap n0 Zs166 En_167 Fn_168 Fn_169 Eo94 Fd94 Ft94 En_155 Fn_156 Fn_157 Vn_158 En_170 Fn_171 Fn_172 Vn_173 En_159 Fn_160 Fn_161 Vn_162 En_174 Fn_175 Fn_176 Vn_177 Sn_163 hzc (own_mk_ok _) (own_mk_ok _) (own_mk_ok _) (own_mk_ok _)) hZ94 (hw _ (List.mem_of_getElem? (i := 129) rfl)) (hw _ (List.mem_of_getElem? (i := 42) rfl)) (by decide) (by decide)) q178a q178c (g := (mkF m 122 #[iv i0, iv i1, iv i2, iv i3, iv i4, rv sb1, rv sb4, rv jb2x, rv jb3x, rv b50, rv b82, iv (((i4.toUInt32 >>> ((2 : Int32) &&& 31).toUInt32).toInt32) &&& (3 : Int32)), iv (0 : Int32)] [(.ref b82), (.ref b50)])) rfl (by rw [hml]; rfl) (Steps.refl _) (argsL := [(.ref b82)]) (rest := []) (lenOf pd_12 rfl) rfl (by show 2 * 0 + _ ≤ _; exact Nat.le_of_eq rfl) (hb hby at_122) (fun _ _ => ⟨rfl, e165, (by decide : 30 + 0 ≤ _), (by decide : 188 + 0 ≤ _)⟩)
      dsimp only [Pt.U, Pt.locs, Pt.cells, Pt.slots] at X178 l178 y178 z178 st178 hQ178
      subst l178 y178 z178
      obtain ⟨hv178, N178q, e178q⟩ := hQ178
      have N178 := Fr.app N165 N178q
      rw [if_neg (fun q => hA q.1)] at hv178
      subst hv178
      have e178 : T178.heap = T94.heap := e178q
      obtain ⟨cq179, kq179, q179a, q179b, q179c⟩ := isOf hZ94 e178 Eo94
      obtain ⟨_, _, ⟨T179, L179, k179, n179⟩, -, X179, ⟨Lc179, hQ179, l179, y179, z179⟩, st179⟩ := X178.virtualBack hx (y := (⟨"com/example/garter/garter/schema/TableName", "equals", "(Ljava/lang/Object;)Z"⟩ : MethodName)) (z := (⟨"com/example/garter/garter/schema/TableName", "equals", "(Ljava/lang/Object;)Z"⟩ : MethodName)) hown94 (mvT hZ94 (hw _ (List.mem_of_getElem? (i := 125) rfl))) (mvT hZ94 (hw _ (List.mem_of_getElem? (i := 126) rfl))) (notFace_of_selects (args := #[]) (mvT hZ94 (hw _ (List.mem_of_getElem? (i := 128) rfl)))) (mvT hZ94 (hw _ (List.mem_of_getElem? (i := 128) rfl))) (mvT hZ94 (hw _ (List.mem_of_getElem? (i := 127) rfl))) (by decide) (backOf (W := 0) (rmEqT l Z a0 hw [] b82 b50 jb2x jt2x jk2x (own_mk jp2x) jb3x jt3x jk3x (own_mk jp3x) sb1 st1x sk1 (own_mk i0) sb4 st4x sk4 (own_mk i1) zc T94.heap n0 Zs166 Eo94 Fd94 Ft94 En_167 Fn_168 Fn_169 En_159 Fn_160 Fn_161 Vn_162 En_174 Fn_175 Fn_176 Vn_177 En_155 Fn_156 Fn_157 Vn_158 En_170 Fn_171 Fn_172 Vn_173 Sn_163 hzc (own_mk_ok _) (own_mk_ok _) (own_mk_ok _) (own_mk_ok _)) hZ94 (hw _ (List.mem_of_getElem? (i := 129) rfl)) (hw _ (List.mem_of_getElem? (i := 42) rfl)) (by decide) (by decide)) q179a q179c (g := (mkF m 134 #[iv i0, iv i1, iv i2, iv i3, iv i4, rv sb1, rv sb4, rv jb2x, rv jb3x, rv b50, rv b82, iv (((i4.toUInt32 >>> ((2 : Int32) &&& 31).toUInt32).toInt32) &&& (3 : Int32)), iv (0 : Int32)] [(.ref b50), (.ref b82)])) rfl (by rw [hml]; rfl) (Steps.refl _) (argsL := [(.ref b50)]) (rest := []) (lenOf pd_12 rfl) rfl (by show 2 * 0 + _ ≤ _; exact Nat.le_of_eq rfl) (hb hby at_134) (fun _ _ => ⟨rfl, e178, (by decide : 30 + 0 ≤ _), (by decide : 188 + 0 ≤ _)⟩)
      dsimp only [Pt.U, Pt.locs, Pt.cells, Pt.slots] at X179 l179 y179 z179 st179 hQ179
      subst l179 y179 z179
      obtain ⟨hv179, N179q, e179q⟩ := hQ179
      have N179 := Fr.app N178 N179q
      rw [if_neg (fun q => hA q.1.symm)] at hv179
      subst hv179
      have e179 : T179.heap = T94.heap := e179q
      have pre180 : ∀ tg, own_S p e below T179 m 147 #[iv i0, iv i1, iv i2, iv i3, iv i4, rv sb1, rv sb4, rv jb2x, rv jb3x, rv b50, rv b82, iv (((i4.toUInt32 >>> ((2 : Int32) &&& 31).toUInt32).toInt32) &&& (3 : Int32)), iv (0 : Int32)] [(.int (1 : Int32))] tg → Steps p.tables e below (s₁.setTop (entryFrame m #[(.int i0), (.int i1), (.int i2), (.int i3), (.int i4)] maxLocals)) tg := fun tg k => pre100 tg (by
        show own_S p e below T94 m 91 #[iv i0, iv i1, iv i2, iv i3, iv i4, rv sb1, rv sb4, rv jb2x, rv jb3x, rv b50, rv b82, iv (((i4.toUInt32 >>> ((2 : Int32) &&& 31).toUInt32).toInt32) &&& (3 : Int32)), .unset] [] _
        refine XS.aload X94.here hx rfl (hb hby at_91) rfl rfl ?_
        refine XS.aload X94.here hx rfl (hb hby at_93) rfl rfl ?_
        refine st165 _ ?_
        show own_S p e below T165 m 98 #[iv i0, iv i1, iv i2, iv i3, iv i4, rv sb1, rv sb4, rv jb2x, rv jb3x, rv b50, rv b82, iv (((i4.toUInt32 >>> ((2 : Int32) &&& 31).toUInt32).toInt32) &&& (3 : Int32)), .unset] [(.int (0 : Int32))] _
        refine XS.ifYes X165.here hx rfl (pc0 := 98) (pc' := 115) rfl (hb hby at_98) rfl ((if0 _ _).trans (teq (by decide : (0 : Int32) = (0 : Int32))).1) (by decide) (by decide) ?_
        refine XS.iconst X165.here hx rfl (hb hby at_115) ?_
        refine XS.istore X165.here hx rfl (hb hby at_116) rfl (l' := #[iv i0, iv i1, iv i2, iv i3, iv i4, rv sb1, rv sb4, rv jb2x, rv jb3x, rv b50, rv b82, iv (((i4.toUInt32 >>> ((2 : Int32) &&& 31).toUInt32).toInt32) &&& (3 : Int32)), iv (0 : Int32)]) rfl ?_
        show own_S p e below T165 m 118 #[iv i0, iv i1, iv i2, iv i3, iv i4, rv sb1, rv sb4, rv jb2x, rv jb3x, rv b50, rv b82, iv (((i4.toUInt32 >>> ((2 : Int32) &&& 31).toUInt32).toInt32) &&& (3 : Int32)), iv (0 : Int32)] [] _
        refine XS.aload X165.here hx rfl (hb hby at_118) rfl rfl ?_
        refine XS.aload X165.here hx rfl (hb hby at_120) rfl rfl ?_
        refine st178.trans ?_
        show own_S p e below T178 m 125 #[iv i0, iv i1, iv i2, iv i3, iv i4, rv sb1, rv sb4, rv jb2x, rv jb3x, rv b50, rv b82, iv (((i4.toUInt32 >>> ((2 : Int32) &&& 31).toUInt32).toInt32) &&& (3 : Int32)), iv (0 : Int32)] [(.int (0 : Int32))] _
        refine XS.iload X178.here hx rfl (hb hby at_125) rfl ?_
        refine XS.icmpNo X178.here hx rfl (hb hby at_127) rfl (teq (by decide : (0 : Int32) = (0 : Int32))).2 ?_
        refine XS.aload X178.here hx rfl (hb hby at_130) rfl rfl ?_
        show own_S p e below T178 m 132 #[iv i0, iv i1, iv i2, iv i3, iv i4, rv sb1, rv sb4, rv jb2x, rv jb3x, rv b50, rv b82, iv (((i4.toUInt32 >>> ((2 : Int32) &&& 31).toUInt32).toInt32) &&& (3 : Int32)), iv (0 : Int32)] [(.ref b82)] _
        refine XS.aload X178.here hx rfl (hb hby at_132) rfl rfl ?_
        refine st179.trans ?_
        refine XS.iload X179.here hx rfl (hb hby at_137) rfl ?_
        show own_S p e below T179 m 139 #[iv i0, iv i1, iv i2, iv i3, iv i4, rv sb1, rv sb4, rv jb2x, rv jb3x, rv b50, rv b82, iv (((i4.toUInt32 >>> ((2 : Int32) &&& 31).toUInt32).toInt32) &&& (3 : Int32)), iv (0 : Int32)] [(.int (0 : Int32)), (.int (0 : Int32))] _
        refine XS.icmpNo X179.here hx rfl (hb hby at_139) rfl (teq (by decide : (0 : Int32) = (0 : Int32))).2 ?_
        refine XS.iconst X179.here hx rfl (hb hby at_142) ?_
        refine XS.goto X179.here hx rfl (pc0 := 143) (pc' := 147) rfl (hb hby at_143) (by decide) (by decide) ?_
        exact k)
      obtain ⟨fs, hr, hrun, hended, hEnd⟩ := Stand.leaveW (s := s) (vm₁ := T94.vm) X179 hS94 (show _ ≤ T179.heap.size by rw [e179]; exact hk94) (v := some (.int (nar .boolean (1 : Int32)))) (fun h => by rw [Bd.returns] at h; cases h)
      refine ⟨_, _, pre180 _ ?_, hrun, hended, _, _, rfl, ?_, ?_, hEnd.1, hEnd.2.1, hEnd.2.2.1, hEnd.2.2.2.mono (by decide) (by decide)⟩
      · show own_S p e below T179 m 147 #[iv i0, iv i1, iv i2, iv i3, iv i4, rv sb1, rv sb4, rv jb2x, rv jb3x, rv b50, rv b82, iv (((i4.toUInt32 >>> ((2 : Int32) &&& 31).toUInt32).toInt32) &&& (3 : Int32)), iv (0 : Int32)] [(.int (1 : Int32))] _
        exact retN X179 hx (t := .boolean) Bd.returns (by simp) (hb hby at_147) hr
      · show Q0 Z i0 i1 i2 i3 i4 zc fm h0 n0 _ T179.heap _
        rw [e179]
        exact ⟨rfl, N179⟩
      · show CHr Z consts_1 s.vm s.heap T179.vm T179.heap
        rw [hh]
        rw [e179]
        exact R96.trans (CHv.at (s := s) (vm0 := T94.vm) X179 hZ94 (own_EL hw) R96.1)
  ·  -- pc 88 no
    have pre182 : ∀ tg, own_S p e below T94 m 151 #[iv i0, iv i1, iv i2, iv i3, iv i4, rv sb1, rv sb4, rv jb2x, rv jb3x, rv b50, rv b82, iv (((i4.toUInt32 >>> ((2 : Int32) &&& 31).toUInt32).toInt32) &&& (3 : Int32)), .unset] [(.int (1 : Int32)), (.int (((i4.toUInt32 >>> ((2 : Int32) &&& 31).toUInt32).toInt32) &&& (3 : Int32)))] tg → Steps p.tables e below (s₁.setTop (entryFrame m #[(.int i0), (.int i1), (.int i2), (.int i3), (.int i4)] maxLocals)) tg := fun tg k => pre99 tg (by
      show own_S p e below T94 m 88 #[iv i0, iv i1, iv i2, iv i3, iv i4, rv sb1, rv sb4, rv jb2x, rv jb3x, rv b50, rv b82, iv (((i4.toUInt32 >>> ((2 : Int32) &&& 31).toUInt32).toInt32) &&& (3 : Int32)), .unset] [(.int (((i4.toUInt32 >>> ((2 : Int32) &&& 31).toUInt32).toInt32) &&& (3 : Int32)))] _
      refine XS.ifYes X94.here hx rfl (pc0 := 88) (pc' := 148) rfl (hb hby at_88) rfl ((if0 _ _).trans (feq hc88_98).2) (by decide) (by decide) ?_
      refine XS.iload X94.here hx rfl (hb hby at_148) rfl ?_
      refine XS.iconst X94.here hx rfl (hb hby at_150) ?_
      exact k)
    by_cases hc151_181 : (((i4.toUInt32 >>> ((2 : Int32) &&& 31).toUInt32).toInt32) &&& (3 : Int32)) = (1 : Int32)
    ·  -- pc 151 yes
      have Zs184 : n0 ≤ T94.heap.size := (Nat.le_trans Zs95 K94.1)
      have En_185 := ((Eo62.ext E82).keep K94)
      obtain ⟨cq183, kq183, q183a, q183b, q183c⟩ := isOf hZ94 rfl En_185
      obtain ⟨_, _, ⟨T183, L183, k183, n183⟩, -, X183, ⟨Lc183, hQ183, l183, y183, z183⟩, st183⟩ := X94.virtualBack hx (y := (⟨"com/example/garter/garter/schema/TableName", "equals", "(Ljava/lang/Object;)Z"⟩ : MethodName)) (z := (⟨"com/example/garter/garter/schema/TableName", "equals", "(Ljava/lang/Object;)Z"⟩ : MethodName)) hown94 (mvT hZ94 (hw _ (List.mem_of_getElem? (i := 125) rfl))) (mvT hZ94 (hw _ (List.mem_of_getElem? (i := 126) rfl))) (notFace_of_selects (args := #[]) (mvT hZ94 (hw _ (List.mem_of_getElem? (i := 128) rfl)))) (mvT hZ94 (hw _ (List.mem_of_getElem? (i := 128) rfl))) (mvT hZ94 (hw _ (List.mem_of_getElem? (i := 127) rfl))) (by decide) (backOf (W := 0) (rmEqN l Z a0 hw [] b50 T94.heap n0 Zs184 ) hZ94 (hw _ (List.mem_of_getElem? (i := 129) rfl)) (hw _ (List.mem_of_getElem? (i := 42) rfl)) (by decide) (by decide)) q183a q183c (g := (mkF m 157 #[iv i0, iv i1, iv i2, iv i3, iv i4, rv sb1, rv sb4, rv jb2x, rv jb3x, rv b50, rv b82, iv (((i4.toUInt32 >>> ((2 : Int32) &&& 31).toUInt32).toInt32) &&& (3 : Int32)), .unset] [.null, (.ref b50)])) rfl (by rw [hml]; rfl) (Steps.refl _) (argsL := [.null]) (rest := []) (lenOf pd_12 rfl) rfl (by show 2 * 0 + _ ≤ _; exact Nat.le_of_eq rfl) (hb hby at_157) (fun _ _ => ⟨rfl, rfl, (by decide : 30 + 0 ≤ _), (by decide : 188 + 0 ≤ _)⟩)
      dsimp only [Pt.U, Pt.locs, Pt.cells, Pt.slots] at X183 l183 y183 z183 st183 hQ183
      subst l183 y183 z183
      obtain ⟨rfl, N183q, e183q⟩ := hQ183
      have N183 := Fr.app N94 N183q
      have e183 : T183.heap = T94.heap := e183q
      have pre186 : ∀ tg, own_S p e below T183 m 168 #[iv i0, iv i1, iv i2, iv i3, iv i4, rv sb1, rv sb4, rv jb2x, rv jb3x, rv b50, rv b82, iv (((i4.toUInt32 >>> ((2 : Int32) &&& 31).toUInt32).toInt32) &&& (3 : Int32)), .unset] [(.int (1 : Int32))] tg → Steps p.tables e below (s₁.setTop (entryFrame m #[(.int i0), (.int i1), (.int i2), (.int i3), (.int i4)] maxLocals)) tg := fun tg k => pre182 tg (by
        show own_S p e below T94 m 151 #[iv i0, iv i1, iv i2, iv i3, iv i4, rv sb1, rv sb4, rv jb2x, rv jb3x, rv b50, rv b82, iv (((i4.toUInt32 >>> ((2 : Int32) &&& 31).toUInt32).toInt32) &&& (3 : Int32)), .unset] [(.int (1 : Int32)), (.int (((i4.toUInt32 >>> ((2 : Int32) &&& 31).toUInt32).toInt32) &&& (3 : Int32)))] _
        refine XS.icmpNo X94.here hx rfl (hb hby at_151) rfl (teq hc151_181).2 ?_
        refine XS.aload X94.here hx rfl (hb hby at_154) rfl rfl ?_
        refine XS.aconstNull X94.here hx rfl (hb hby at_156) ?_
        show own_S p e below T94 m 157 #[iv i0, iv i1, iv i2, iv i3, iv i4, rv sb1, rv sb4, rv jb2x, rv jb3x, rv b50, rv b82, iv (((i4.toUInt32 >>> ((2 : Int32) &&& 31).toUInt32).toInt32) &&& (3 : Int32)), .unset] [.null, (.ref b50)] _
        refine st183.trans ?_
        refine XS.ifNo X183.here hx rfl (hb hby at_160) rfl ((if0 _ _).trans (teq (by decide : (0 : Int32) = (0 : Int32))).2) ?_
        refine XS.iconst X183.here hx rfl (hb hby at_163) ?_
        show own_S p e below T183 m 164 #[iv i0, iv i1, iv i2, iv i3, iv i4, rv sb1, rv sb4, rv jb2x, rv jb3x, rv b50, rv b82, iv (((i4.toUInt32 >>> ((2 : Int32) &&& 31).toUInt32).toInt32) &&& (3 : Int32)), .unset] [(.int (1 : Int32))] _
        refine XS.goto X183.here hx rfl (pc0 := 164) (pc' := 168) rfl (hb hby at_164) (by decide) (by decide) ?_
        exact k)
      obtain ⟨fs, hr, hrun, hended, hEnd⟩ := Stand.leaveW (s := s) (vm₁ := T94.vm) X183 hS94 (show _ ≤ T183.heap.size by rw [e183]; exact hk94) (v := some (.int (nar .boolean (1 : Int32)))) (fun h => by rw [Bd.returns] at h; cases h)
      refine ⟨_, _, pre186 _ ?_, hrun, hended, _, _, rfl, ?_, ?_, hEnd.1, hEnd.2.1, hEnd.2.2.1, hEnd.2.2.2.mono (by decide) (by decide)⟩
      · show own_S p e below T183 m 168 #[iv i0, iv i1, iv i2, iv i3, iv i4, rv sb1, rv sb4, rv jb2x, rv jb3x, rv b50, rv b82, iv (((i4.toUInt32 >>> ((2 : Int32) &&& 31).toUInt32).toInt32) &&& (3 : Int32)), .unset] [(.int (1 : Int32))] _
        exact retN X183 hx (t := .boolean) Bd.returns (by simp) (hb hby at_168) hr
      · show Q0 Z i0 i1 i2 i3 i4 zc fm h0 n0 _ T183.heap _
        rw [e183]
        exact ⟨rfl, N183⟩
      · show CHr Z consts_1 s.vm s.heap T183.vm T183.heap
        rw [hh]
        rw [e183]
        exact R96.trans (CHv.at (s := s) (vm0 := T94.vm) X183 hZ94 (own_EL hw) R96.1)
    ·  -- pc 151 no
      have pre188 : ∀ tg, own_S p e below T94 m 172 #[iv i0, iv i1, iv i2, iv i3, iv i4, rv sb1, rv sb4, rv jb2x, rv jb3x, rv b50, rv b82, iv (((i4.toUInt32 >>> ((2 : Int32) &&& 31).toUInt32).toInt32) &&& (3 : Int32)), .unset] [(.int (2 : Int32)), (.int (((i4.toUInt32 >>> ((2 : Int32) &&& 31).toUInt32).toInt32) &&& (3 : Int32)))] tg → Steps p.tables e below (s₁.setTop (entryFrame m #[(.int i0), (.int i1), (.int i2), (.int i3), (.int i4)] maxLocals)) tg := fun tg k => pre182 tg (by
        show own_S p e below T94 m 151 #[iv i0, iv i1, iv i2, iv i3, iv i4, rv sb1, rv sb4, rv jb2x, rv jb3x, rv b50, rv b82, iv (((i4.toUInt32 >>> ((2 : Int32) &&& 31).toUInt32).toInt32) &&& (3 : Int32)), .unset] [(.int (1 : Int32)), (.int (((i4.toUInt32 >>> ((2 : Int32) &&& 31).toUInt32).toInt32) &&& (3 : Int32)))] _
        refine XS.icmpYes X94.here hx rfl (pc0 := 151) (pc' := 169) rfl (hb hby at_151) rfl (feq hc151_181).2 (by decide) (by decide) ?_
        refine XS.iload X94.here hx rfl (hb hby at_169) rfl ?_
        refine XS.iconst X94.here hx rfl (hb hby at_171) ?_
        exact k)
      by_cases hc172_187 : (((i4.toUInt32 >>> ((2 : Int32) &&& 31).toUInt32).toInt32) &&& (3 : Int32)) = (2 : Int32)
      ·  -- pc 172 yes
        have En_189 := ((En_66.ext E82).keep K94)
        have Zs191 : n0 ≤ T94.heap.size := (Nat.le_trans Zs95 K94.1)
        have En_192 := ((Eo62.ext E82).keep K94)
        obtain ⟨cq190, kq190, q190a, q190b, q190c⟩ := isOf hZ94 rfl En_192
        obtain ⟨_, _, ⟨T190, L190, k190, n190⟩, -, X190, ⟨Lc190, hQ190, l190, y190, z190⟩, st190⟩ := X94.virtualBack hx (y := (⟨"com/example/garter/garter/schema/TableName", "equals", "(Ljava/lang/Object;)Z"⟩ : MethodName)) (z := (⟨"com/example/garter/garter/schema/TableName", "equals", "(Ljava/lang/Object;)Z"⟩ : MethodName)) hown94 (mvT hZ94 (hw _ (List.mem_of_getElem? (i := 125) rfl))) (mvT hZ94 (hw _ (List.mem_of_getElem? (i := 126) rfl))) (notFace_of_selects (args := #[]) (mvT hZ94 (hw _ (List.mem_of_getElem? (i := 128) rfl)))) (mvT hZ94 (hw _ (List.mem_of_getElem? (i := 128) rfl))) (mvT hZ94 (hw _ (List.mem_of_getElem? (i := 127) rfl))) (by decide) (backOf (W := 0) (rmEqS l Z a0 hw [] b50 sb1 T94.heap n0 Zs191 En_189) hZ94 (hw _ (List.mem_of_getElem? (i := 129) rfl)) (hw _ (List.mem_of_getElem? (i := 42) rfl)) (by decide) (by decide)) q190a q190c (g := (mkF m 179 #[iv i0, iv i1, iv i2, iv i3, iv i4, rv sb1, rv sb4, rv jb2x, rv jb3x, rv b50, rv b82, iv (((i4.toUInt32 >>> ((2 : Int32) &&& 31).toUInt32).toInt32) &&& (3 : Int32)), .unset] [(.ref sb1), (.ref b50)])) rfl (by rw [hml]; rfl) (Steps.refl _) (argsL := [(.ref sb1)]) (rest := []) (lenOf pd_12 rfl) rfl (by show 2 * 0 + _ ≤ _; exact Nat.le_of_eq rfl) (hb hby at_179) (fun _ _ => ⟨rfl, rfl, (by decide : 30 + 0 ≤ _), (by decide : 188 + 0 ≤ _)⟩)
        dsimp only [Pt.U, Pt.locs, Pt.cells, Pt.slots] at X190 l190 y190 z190 st190 hQ190
        subst l190 y190 z190
        obtain ⟨rfl, N190q, e190q⟩ := hQ190
        have N190 := Fr.app N94 N190q
        have e190 : T190.heap = T94.heap := e190q
        have pre193 : ∀ tg, own_S p e below T190 m 190 #[iv i0, iv i1, iv i2, iv i3, iv i4, rv sb1, rv sb4, rv jb2x, rv jb3x, rv b50, rv b82, iv (((i4.toUInt32 >>> ((2 : Int32) &&& 31).toUInt32).toInt32) &&& (3 : Int32)), .unset] [(.int (1 : Int32))] tg → Steps p.tables e below (s₁.setTop (entryFrame m #[(.int i0), (.int i1), (.int i2), (.int i3), (.int i4)] maxLocals)) tg := fun tg k => pre188 tg (by
          show own_S p e below T94 m 172 #[iv i0, iv i1, iv i2, iv i3, iv i4, rv sb1, rv sb4, rv jb2x, rv jb3x, rv b50, rv b82, iv (((i4.toUInt32 >>> ((2 : Int32) &&& 31).toUInt32).toInt32) &&& (3 : Int32)), .unset] [(.int (2 : Int32)), (.int (((i4.toUInt32 >>> ((2 : Int32) &&& 31).toUInt32).toInt32) &&& (3 : Int32)))] _
          refine XS.icmpNo X94.here hx rfl (hb hby at_172) rfl (teq hc172_187).2 ?_
          refine XS.aload X94.here hx rfl (hb hby at_175) rfl rfl ?_
          refine XS.aload X94.here hx rfl (hb hby at_177) rfl rfl ?_
          show own_S p e below T94 m 179 #[iv i0, iv i1, iv i2, iv i3, iv i4, rv sb1, rv sb4, rv jb2x, rv jb3x, rv b50, rv b82, iv (((i4.toUInt32 >>> ((2 : Int32) &&& 31).toUInt32).toInt32) &&& (3 : Int32)), .unset] [(.ref sb1), (.ref b50)] _
          refine st190.trans ?_
          refine XS.ifNo X190.here hx rfl (hb hby at_182) rfl ((if0 _ _).trans (teq (by decide : (0 : Int32) = (0 : Int32))).2) ?_
          refine XS.iconst X190.here hx rfl (hb hby at_185) ?_
          show own_S p e below T190 m 186 #[iv i0, iv i1, iv i2, iv i3, iv i4, rv sb1, rv sb4, rv jb2x, rv jb3x, rv b50, rv b82, iv (((i4.toUInt32 >>> ((2 : Int32) &&& 31).toUInt32).toInt32) &&& (3 : Int32)), .unset] [(.int (1 : Int32))] _
          refine XS.goto X190.here hx rfl (pc0 := 186) (pc' := 190) rfl (hb hby at_186) (by decide) (by decide) ?_
          exact k)
        obtain ⟨fs, hr, hrun, hended, hEnd⟩ := Stand.leaveW (s := s) (vm₁ := T94.vm) X190 hS94 (show _ ≤ T190.heap.size by rw [e190]; exact hk94) (v := some (.int (nar .boolean (1 : Int32)))) (fun h => by rw [Bd.returns] at h; cases h)
        refine ⟨_, _, pre193 _ ?_, hrun, hended, _, _, rfl, ?_, ?_, hEnd.1, hEnd.2.1, hEnd.2.2.1, hEnd.2.2.2.mono (by decide) (by decide)⟩
        · show own_S p e below T190 m 190 #[iv i0, iv i1, iv i2, iv i3, iv i4, rv sb1, rv sb4, rv jb2x, rv jb3x, rv b50, rv b82, iv (((i4.toUInt32 >>> ((2 : Int32) &&& 31).toUInt32).toInt32) &&& (3 : Int32)), .unset] [(.int (1 : Int32))] _
          exact retN X190 hx (t := .boolean) Bd.returns (by simp) (hb hby at_190) hr
        · show Q0 Z i0 i1 i2 i3 i4 zc fm h0 n0 _ T190.heap _
          rw [e190]
          exact ⟨rfl, N190⟩
        · show CHr Z consts_1 s.vm s.heap T190.vm T190.heap
          rw [hh]
          rw [e190]
          exact R96.trans (CHv.at (s := s) (vm0 := T94.vm) X190 hZ94 (own_EL hw) R96.1)
      ·  -- pc 172 no
        have En_194 := ((Eo62.ext E82).keep K94)
        have Fn_195 := ((Fd62.ext E82).keep K94 (ninS ne_b50_b82 nin0))
        have Fn_196 := ((Ft62.ext E82).keep K94 (ninS ne_b50_b82 nin0))
        have En_197 := ((En_66.ext E82).keep K94)
        have Fn_198 := ((Fn_67.ext E82).keep K94 (ninS ne_sb1_b82 nin0))
        have Fn_199 := ((Fn_68.ext E82).keep K94 (ninS ne_sb1_b82 nin0))
        have Vn_200 := ((Vn_69.ext E82).keep K94 (ninS ne_st1x_b82 nin0))
        have En_201 := ((En_70.ext E82).keep K94)
        have Fn_202 := ((Fn_71.ext E82).keep K94 (ninS ne_sb4_b82 nin0))
        have Fn_203 := ((Fn_72.ext E82).keep K94 (ninS ne_sb4_b82 nin0))
        have Vn_204 := ((Vn_73.ext E82).keep K94 (ninS ne_st4x_b82 nin0))
        have Sn_205 := (own_sta_keep Sn_92 K94 A82)
        have Zs207 : n0 ≤ T94.heap.size := (Nat.le_trans Zs95 K94.1)
        obtain ⟨cq206, kq206, q206a, q206b, q206c⟩ := isOf hZ94 rfl En_194
        obtain ⟨_, _, ⟨T206, L206, k206, n206⟩, -, X206, ⟨Lc206, hQ206, l206, y206, z206⟩, st206⟩ := X94.virtualBack hx (y := (⟨"com/example/garter/garter/schema/TableName", "equals", "(Ljava/lang/Object;)Z"⟩ : MethodName)) (z := (⟨"com/example/garter/garter/schema/TableName", "equals", "(Ljava/lang/Object;)Z"⟩ : MethodName)) hown94 (mvT hZ94 (hw _ (List.mem_of_getElem? (i := 125) rfl))) (mvT hZ94 (hw _ (List.mem_of_getElem? (i := 126) rfl))) (notFace_of_selects (args := #[]) (mvT hZ94 (hw _ (List.mem_of_getElem? (i := 128) rfl)))) (mvT hZ94 (hw _ (List.mem_of_getElem? (i := 128) rfl))) (mvT hZ94 (hw _ (List.mem_of_getElem? (i := 127) rfl))) (by decide) (backOf (W := 0) (rmEqT l Z a0 hw [] b50 b50 sb1 st1x sk1 (own_mk i0) sb4 st4x sk4 (own_mk i1) sb1 st1x sk1 (own_mk i0) sb4 st4x sk4 (own_mk i1) zc T94.heap n0 Zs207 En_194 Fn_195 Fn_196 En_194 Fn_195 Fn_196 En_197 Fn_198 Fn_199 Vn_200 En_201 Fn_202 Fn_203 Vn_204 En_197 Fn_198 Fn_199 Vn_200 En_201 Fn_202 Fn_203 Vn_204 Sn_205 hzc (own_mk_ok _) (own_mk_ok _) (own_mk_ok _) (own_mk_ok _)) hZ94 (hw _ (List.mem_of_getElem? (i := 129) rfl)) (hw _ (List.mem_of_getElem? (i := 42) rfl)) (by decide) (by decide)) q206a q206c (g := (mkF m 195 #[iv i0, iv i1, iv i2, iv i3, iv i4, rv sb1, rv sb4, rv jb2x, rv jb3x, rv b50, rv b82, iv (((i4.toUInt32 >>> ((2 : Int32) &&& 31).toUInt32).toInt32) &&& (3 : Int32)), .unset] [(.ref b50), (.ref b50)])) rfl (by rw [hml]; rfl) (Steps.refl _) (argsL := [(.ref b50)]) (rest := []) (lenOf pd_12 rfl) rfl (by show 2 * 0 + _ ≤ _; exact Nat.le_of_eq rfl) (hb hby at_195) (fun _ _ => ⟨rfl, rfl, (by decide : 30 + 0 ≤ _), (by decide : 188 + 0 ≤ _)⟩)
        dsimp only [Pt.U, Pt.locs, Pt.cells, Pt.slots] at X206 l206 y206 z206 st206 hQ206
        subst l206 y206 z206
        obtain ⟨hv206, N206q, e206q⟩ := hQ206
        have N206 := Fr.app N94 N206q
        rw [if_pos ⟨rfl, rfl⟩] at hv206
        subst hv206
        have e206 : T206.heap = T94.heap := e206q
        have pre208 : ∀ tg, own_S p e below T206 m 198 #[iv i0, iv i1, iv i2, iv i3, iv i4, rv sb1, rv sb4, rv jb2x, rv jb3x, rv b50, rv b82, iv (((i4.toUInt32 >>> ((2 : Int32) &&& 31).toUInt32).toInt32) &&& (3 : Int32)), .unset] [(.int (1 : Int32))] tg → Steps p.tables e below (s₁.setTop (entryFrame m #[(.int i0), (.int i1), (.int i2), (.int i3), (.int i4)] maxLocals)) tg := fun tg k => pre188 tg (by
          show own_S p e below T94 m 172 #[iv i0, iv i1, iv i2, iv i3, iv i4, rv sb1, rv sb4, rv jb2x, rv jb3x, rv b50, rv b82, iv (((i4.toUInt32 >>> ((2 : Int32) &&& 31).toUInt32).toInt32) &&& (3 : Int32)), .unset] [(.int (2 : Int32)), (.int (((i4.toUInt32 >>> ((2 : Int32) &&& 31).toUInt32).toInt32) &&& (3 : Int32)))] _
          refine XS.icmpYes X94.here hx rfl (pc0 := 172) (pc' := 191) rfl (hb hby at_172) rfl (feq hc172_187).2 (by decide) (by decide) ?_
          refine XS.aload X94.here hx rfl (hb hby at_191) rfl rfl ?_
          refine XS.aload X94.here hx rfl (hb hby at_193) rfl rfl ?_
          show own_S p e below T94 m 195 #[iv i0, iv i1, iv i2, iv i3, iv i4, rv sb1, rv sb4, rv jb2x, rv jb3x, rv b50, rv b82, iv (((i4.toUInt32 >>> ((2 : Int32) &&& 31).toUInt32).toInt32) &&& (3 : Int32)), .unset] [(.ref b50), (.ref b50)] _
          refine st206.trans ?_
          exact k)
        obtain ⟨fs, hr, hrun, hended, hEnd⟩ := Stand.leaveW (s := s) (vm₁ := T94.vm) X206 hS94 (show _ ≤ T206.heap.size by rw [e206]; exact hk94) (v := some (.int (nar .boolean (1 : Int32)))) (fun h => by rw [Bd.returns] at h; cases h)
        refine ⟨_, _, pre208 _ ?_, hrun, hended, _, _, rfl, ?_, ?_, hEnd.1, hEnd.2.1, hEnd.2.2.1, hEnd.2.2.2.mono (by decide) (by decide)⟩
        · show own_S p e below T206 m 198 #[iv i0, iv i1, iv i2, iv i3, iv i4, rv sb1, rv sb4, rv jb2x, rv jb3x, rv b50, rv b82, iv (((i4.toUInt32 >>> ((2 : Int32) &&& 31).toUInt32).toInt32) &&& (3 : Int32)), .unset] [(.int (1 : Int32))] _
          exact retN X206 hx (t := .boolean) Bd.returns (by simp) (hb hby at_198) hr
        · show Q0 Z i0 i1 i2 i3 i4 zc fm h0 n0 _ T206.heap _
          rw [e206]
          exact ⟨rfl, N206⟩
        · show CHr Z consts_1 s.vm s.heap T206.vm T206.heap
          rw [hh]
          rw [e206]
          exact R96.trans (CHv.at (s := s) (vm0 := T94.vm) X206 hZ94 (own_EL hw) R96.1)
set_option maxRecDepth 65536 in
set_option maxHeartbeats 40000000 in
theorem comes_1 {Post : Tables → Env → Array Value → State → Outcome → State → Prop} (hpost : ∀ tb e args s v u, (limb_1_1.after args s (.returned v) u = true ∧ limb_1_2.after args s (.returned v) u = true ∧ True) → FramedW s (.returned v) u (Jvm.fieldLocs frame_1_writes args s ++ Jvm.arrayLocs frame_1_arrays args s ++ Jvm.staticLocs frame_1_statics s) 48 3264 → Post tb e args s (.returned v) u) :
    ArmFor flags0 classFile x code maxLocals ret World_1 tables_1 room_1 Calls_1 rest_1 Pre_1 Post := by
  intro l hfl _ _ p e ha hc hk s m args below hf hA hF happ hP
  obtain ⟨hcalls, hrest, hpre⟩ := hP
  obtain ⟨-, -, -, hnamed, -, -, -, hat⟩ := (Spec.applies_iff hf).mp happ
  obtain ⟨hg, hn⟩ := and_e (Cond.before_iff.mp (show (Jvm.Cond.and given_1 narrow_1).before args s = true from hpre))
  obtain ⟨g1, g2⟩ := and_e hg
  obtain ⟨g3, g4⟩ := and_e g2
  obtain ⟨g5, g6⟩ := and_e g4
  obtain ⟨g7, g8⟩ := and_e g6
  obtain ⟨g9, g10⟩ := and_e g8
  obtain ⟨w0, w1, w2, w3, w4, rfl⟩ : ∃ w0 w1 w2 w3 w4 : Value, args = #[w0, w1, w2, w3, w4] := by
    have hs : args.size = 5 := by simpa [Cond.value, given_1] using g1
    obtain ⟨L⟩ := args
    match L, hs with
    | [w0, w1, w2, w3, w4], _ => exact ⟨w0, w1, w2, w3, w4, rfl⟩
  have hw := fun d (hd : d ∈ tables_1) => atoms_spec (ws := Jvm.Cond.code x code maxLocals ret :: tables_1) hat d (List.mem_cons_of_mem _ hd)
  have hfit : Fit s := fun {y c} hc i hi => by
    obtain ⟨ha, rfl⟩ := Array.getElem?_eq_some_iff.mp hc
    have q := List.all_eq_true.mp ((Array.all_eq_true_iff_forall_mem.mp hF) _ (Array.getElem_mem ha)) i (List.mem_range.mpr hi)
    simpa [Array.getElem?_eq_getElem hi] using q
  obtain ⟨i0, ei0⟩ := is_v g3
  obtain rfl : w0 = (.int i0) := Option.some.inj ei0
  obtain ⟨i1, ei1⟩ := is_v g5
  obtain rfl : w1 = (.int i1) := Option.some.inj ei1
  obtain ⟨i2, ei2⟩ := is_v g7
  obtain rfl : w2 = (.int i2) := Option.some.inj ei2
  obtain ⟨i3, ei3⟩ := is_v g9
  obtain rfl : w3 = (.int i3) := Option.some.inj ei3
  obtain ⟨i4, ei4⟩ := is_v g10
  obtain rfl : w4 = (.int i4) := Option.some.inj ei4
  obtain ⟨hsets, hown0⟩ := atoms_of _ (rest_1_c_eq ▸ (show rest_1_c.before _ s = true from hrest))
  have n3 := not_v (Cond.before_iff.mp (hsets _ (List.mem_of_getElem? (i := 2) rfl)))
  obtain ⟨zc, e6⟩ := is_v (Cond.before_iff.mp (hsets _ (List.mem_of_getElem? (i := 1) rfl)))
  have S_c : Sta s s.heap "java/lang/String" "COMPACT_STRINGS" "Z" (.int zc) := Sta.start e6 (Or.inl (hsets _ (List.mem_of_getElem? (i := 0) rfl)))
  obtain ⟨fm, e10, hfm⟩ := isR_v (Cond.before_iff.mp (hsets _ (List.mem_of_getElem? (i := 8) rfl)))
  have S_f : Sta s s.heap "jdk/internal/util/Preconditions" "SIOOBE_FORMATTER" "Ljava/util/function/BiFunction;" fm := Sta.start e10 (Or.inl (hsets _ (List.mem_of_getElem? (i := 7) rfl)))
  have hzc : ¬ (zc = (0 : Int32)) := gotF (Cond.eq_ints e6 (Term.int_eval (0))) n3
  have hCH : CHv s consts_1 s.vm s.heap := CHv.start (own_EL hw) hcalls.1 (hsets _ (List.mem_of_getElem? (i := 2) rfl)) (hw _ (List.mem_of_getElem? (i := 29) rfl)) (hw _ (List.mem_of_getElem? (i := 12) rfl))
  obtain ⟨n, o, h1, h2, h3, _, L, rfl, ⟨rfl, N⟩, hq⟩ := rm0 l s _ hw tables_1 i0 i1 i2 i3 i4 zc fm s.heap s.heap.size (Nat.le_refl _) S_c hzc S_f hfm p e ha hc hk s m _ below hf ((Spec.applies_iff_loose hf).mp happ).1 ⟨rfl, State.Warmed39.refl s, rfl, hCH⟩ trivial
  refine ⟨n, _, h1, h2, h3, hpost _ _ _ _ _ _ ⟨Cond.after_iff.mpr rfl, Cond.after_iff.mpr (eq_i res_at (Term.int_eval (1)) rfl), trivial⟩ ⟨hq.2.1, hq.2.2.1, hq.2.2.2.1, (hq.2.2.2.2.sift fun y hy => Or.inr (N y hy)).mono (by decide) (by decide)⟩⟩
theorem main_1_1 : Claimed_1_1 := comes_1 fun _ _ _ _ _ _ h hF => ⟨h.1, hF⟩
theorem main_1_2 : Claimed_1_2 := comes_1 fun _ _ _ _ _ _ h hF => ⟨h.2.1, hF⟩
end Jvm.Pilot.@@N@@
namespace Jvm.Pilot.@@N@@
open Jvm Jvm.ClassFile Sem Op Lib Jvm.Free Jvm.Stand Jvm.Pilot.@@N@@.Jvm.D
/-! MADE BY PROGRAM (witnessworld.py) out of the Statement's table words and the real class files: 22 classes; the members and pool entries that the words name. The judged class is class 1, her method 5. -/
namespace start1
open Jvm.ClassFile
def u (s : String) : CpInfo := .utf8 (stringToUtf16 s)
/-- a pool by its gaps: so many unusable entries, then the entry; so many at the end -/
def gap : Nat → List CpInfo → List CpInfo
  | 0, r => r
  | n + 1, r => .unusable :: gap n r
def poolList (es : List (Nat × CpInfo)) (last : Nat) : List CpInfo := es.foldr (fun e r => gap e.1 (e.2 :: r)) (gap last [])
def pool (es : List (Nat × CpInfo)) (last : Nat) : Array CpInfo := ⟨poolList es last⟩
def fileOf (pool : Array CpInfo) (this : Nat) (attrs : Array Attribute := #[]) (ms : Array MethodInfo := #[]) (fl : Nat := 33) (sup : Nat := 0) (ifs : Array Nat := #[]) (fds : Array FieldInfo := #[]) : ClassFile where
  minorVersion := 0
  majorVersion := 65
  constantPool := pool
  accessFlags := fl
  thisClass := this
  superClass := sup
  interfaces := ifs
  fields := fds
  methods := ms
  attributes := attrs
def plain (name : String) (sup : Option ClassId) : Class where
  name := name
  kind := .ordinary
  loader := none
  accessFlags := 33
  super := sup
  interfaces := #[]
  cf := none
  fields := #[]
  methods := #[]
  instanceTypes := #[]
  staticTypes := #[]
  resolved := #[]
  callSites := []
  init := .initialized
  statics := none
  mirror := none

def pool0 : Array CpInfo := pool [(5, u "<init>"), (0, u "()V"), (1, .class_ 10), (1, u "java/lang/Object")] 113

def k0c0 : Code := { maxStack := 0, maxLocals := 1, code := object_method_1_code, exceptionTable := #[], attributes := #[] }
def k0m0 : Method := { name := "<init>", desc := "()V", sig := { parameters := [], returnType := none }, accessFlags := 1, code := some k0c0 }
/-- java/lang/Object -/
def k0 : Class := { plain "java/lang/Object" none with
  accessFlags := 33
  interfaces := #[]
  cf := some (fileOf pool0 8 #[] #[{ accessFlags := 1, nameIndex := 5, descriptorIndex := 6, attributes := #[] }] 33 0 #[] #[])
  fields := #[]
  methods := #[k0m0]
  instanceTypes := #[]
  staticTypes := #[]
  resolved := Array.replicate 124 none
  statics := none }

def pool1 : Array CpInfo := pool [(2, .class_ 4), (1, u "java/lang/Object"), (0, u "<init>"), (0, u "()V"), (0, .methodref 8 9), (0, .class_ 10), (0, .nameAndType 11 12), (0, u "com/example/garter/garter/schema/TableNameEqualsPinLaw"), (0, u "ch"), (0, u "(I)C"), (0, .methodref 8 14), (0, .nameAndType 15 16), (0, u "last"), (0, u "(C)C"), (0, .class_ 18), (0, u "java/lang/String"), (0, .methodref 17 20), (0, .nameAndType 5 21), (0, u "([C)V"), (0, .methodref 17 23), (0, .nameAndType 24 25), (0, u "length"), (0, u "()I"), (0, .methodref 17 27), (0, .nameAndType 28 12), (0, u "charAt"), (0, .methodref 8 30), (0, .nameAndType 31 32), (0, u "mk"), (0, u "(I)Ljava/lang/String;"), (0, .class_ 34), (0, u "com/example/garter/garter/schema/TableName"), (0, .methodref 33 36), (0, .nameAndType 5 37), (0, u "(Ljava/lang/String;Ljava/lang/String;)V"), (0, .methodref 8 39), (0, .nameAndType 40 41), (0, u "same"), (0, u "(Ljava/lang/String;Ljava/lang/String;)Z"), (0, .methodref 33 43), (0, .nameAndType 44 45), (0, u "equals"), (0, u "(Ljava/lang/Object;)Z"), (3, u "law"), (0, u "(IIIII)Z")] 2

def k1m0 : Method := { name := "<init>", desc := "()V", sig := { parameters := [], returnType := none }, accessFlags := 1, code := none }
def k1c1 : Code := { maxStack := 2, maxLocals := 2, code := method_2_code, exceptionTable := #[], attributes := #[] }
def k1m1 : Method := { name := "ch", desc := "(I)C", sig := { parameters := [.int], returnType := some .char }, accessFlags := 10, code := some k1c1 }
def k1c2 : Code := { maxStack := 2, maxLocals := 1, code := method_3_code, exceptionTable := #[], attributes := #[] }
def k1m2 : Method := { name := "last", desc := "(C)C", sig := { parameters := [.char], returnType := some .char }, accessFlags := 10, code := some k1c2 }
def k1c3 : Code := { maxStack := 3, maxLocals := 5, code := method_4_code, exceptionTable := #[], attributes := #[] }
def k1m3 : Method := { name := "mk", desc := "(I)Ljava/lang/String;", sig := { parameters := [.int], returnType := some (.object "java/lang/String") }, accessFlags := 10, code := some k1c3 }
def k1c4 : Code := { maxStack := 3, maxLocals := 2, code := method_5_code, exceptionTable := #[], attributes := #[] }
def k1m4 : Method := { name := "same", desc := "(Ljava/lang/String;Ljava/lang/String;)Z", sig := { parameters := [(.object "java/lang/String"), (.object "java/lang/String")], returnType := some .boolean }, accessFlags := 10, code := some k1c4 }
def k1c5 : Code := { maxStack := 4, maxLocals := 13, code := code, exceptionTable := #[], attributes := #[] }
def k1m5 : Method := { name := "law", desc := "(IIIII)Z", sig := { parameters := [.int, .int, .int, .int, .int], returnType := some .boolean }, accessFlags := 9, code := some k1c5 }
/-- com/example/garter/garter/schema/TableNameEqualsPinLaw -/
def k1 : Class := { plain "com/example/garter/garter/schema/TableNameEqualsPinLaw" (some 0) with
  accessFlags := 49
  interfaces := #[]
  cf := some (fileOf pool1 8 #[] #[{ accessFlags := 1, nameIndex := 5, descriptorIndex := 6, attributes := #[] }, { accessFlags := 10, nameIndex := 11, descriptorIndex := 12, attributes := #[] }, { accessFlags := 10, nameIndex := 15, descriptorIndex := 16, attributes := #[] }, { accessFlags := 10, nameIndex := 31, descriptorIndex := 32, attributes := #[] }, { accessFlags := 10, nameIndex := 40, descriptorIndex := 41, attributes := #[] }, { accessFlags := 9, nameIndex := 49, descriptorIndex := 50, attributes := #[] }] 49 2 #[] #[])
  fields := #[]
  methods := #[k1m0, k1m1, k1m2, k1m3, k1m4, k1m5]
  instanceTypes := #[]
  staticTypes := #[]
  resolved := Array.replicate 53 none
  statics := none }

def pool2 : Array CpInfo := pool [(1, .class_ 2), (0, u "java/io/Serializable"), (0, .class_ 4), (0, u "java/lang/Object")] 2

/-- java/io/Serializable -/
def k2 : Class := { plain "java/io/Serializable" (some 0) with
  accessFlags := 1537
  interfaces := #[]
  cf := some (fileOf pool2 1 #[] #[] 1537 3 #[] #[])
  fields := #[]
  methods := #[]
  instanceTypes := #[]
  staticTypes := #[]
  resolved := Array.replicate 7 none
  statics := none }

def pool3 : Array CpInfo := pool [(1, .class_ 2), (0, u "java/lang/Comparable"), (0, .class_ 4), (0, u "java/lang/Object")] 7

/-- java/lang/Comparable -/
def k3 : Class := { plain "java/lang/Comparable" (some 0) with
  accessFlags := 1537
  interfaces := #[]
  cf := some (fileOf pool3 1 #[] #[] 1537 3 #[] #[])
  fields := #[]
  methods := #[]
  instanceTypes := #[]
  staticTypes := #[]
  resolved := Array.replicate 12 none
  statics := none }

def pool4 : Array CpInfo := pool [(2, .class_ 4), (1, u "java/lang/CharSequence"), (42, .class_ 48), (0, u "java/lang/CharSequence$1CodePointIterator"), (10, .class_ 60), (0, u "java/lang/CharSequence$1CharIterator"), (5, .class_ 67), (0, u "java/lang/Object")] 63

/-- java/lang/CharSequence -/
def k4 : Class := { plain "java/lang/CharSequence" (some 0) with
  accessFlags := 1537
  interfaces := #[]
  cf := some (fileOf pool4 2 #[.nestMembers #[47, 59]] #[] 1537 66 #[] #[])
  fields := #[]
  methods := #[]
  instanceTypes := #[]
  staticTypes := #[]
  resolved := Array.replicate 131 none
  statics := none }

def pool5 : Array CpInfo := pool [(1, .class_ 2), (0, u "java/lang/constant/Constable"), (0, .class_ 4), (0, u "java/lang/Object")] 6

/-- java/lang/constant/Constable -/
def k5 : Class := { plain "java/lang/constant/Constable" (some 0) with
  accessFlags := 1537
  interfaces := #[]
  cf := some (fileOf pool5 1 #[] #[] 1537 3 #[] #[])
  fields := #[]
  methods := #[]
  instanceTypes := #[]
  staticTypes := #[]
  resolved := Array.replicate 11 none
  statics := none }

def pool6 : Array CpInfo := pool [(1, .class_ 2), (0, u "java/lang/constant/ConstantDesc"), (0, .class_ 4), (0, u "java/lang/Object")] 32

/-- java/lang/constant/ConstantDesc -/
def k6 : Class := { plain "java/lang/constant/ConstantDesc" (some 0) with
  accessFlags := 1537
  interfaces := #[]
  cf := some (fileOf pool6 1 #[] #[] 1537 3 #[] #[])
  fields := #[]
  methods := #[]
  instanceTypes := #[]
  staticTypes := #[]
  resolved := Array.replicate 37 none
  statics := none }

def pool7 : Array CpInfo := pool [(1, .methodref 2 3), (0, .class_ 4), (0, .nameAndType 5 6), (0, u "java/lang/Object"), (0, u "<init>"), (0, u "()V"), (2, .fieldref 10 11), (0, .class_ 12), (0, .nameAndType 13 14), (0, u "java/lang/String"), (0, u "value"), (0, u "[B"), (0, .fieldref 10 16), (0, .nameAndType 17 18), (0, u "coder"), (0, u "B"), (2, u "hash"), (0, u "I"), (2, u "hashIsZero"), (0, u "Z"), (0, .methodref 10 28), (0, .nameAndType 5 29), (0, u "([CIILjava/lang/Void;)V"), (8, .fieldref 10 39), (0, .nameAndType 40 26), (0, u "COMPACT_STRINGS"), (1, .class_ 44), (1, u "java/lang/StringUTF16"), (0, u "compress"), (1, .methodref 42 48), (0, .nameAndType 49 50), (0, u "coderFromArrayLen"), (0, u "([BI)B"), (56, .class_ 109), (1, u "java/lang/StringLatin1"), (32, u "()Z"), (34, .methodref 42 178), (0, .nameAndType 45 179), (0, u "([CII)[B"), (154, u "()I"), (0, .methodref 10 336), (0, .nameAndType 17 337), (0, u "()B"), (25, u "([BI)C"), (12, u "([BI[BII)I"), (14, u "(II)V"), (35, u "(I)C"), (64, .methodref 10 493), (0, .nameAndType 494 142), (0, u "isLatin1"), (0, .methodref 107 496), (0, .nameAndType 497 363), (0, u "charAt"), (3, u "checkIndex"), (3, .methodref 10 506), (0, .nameAndType 507 334), (0, u "length"), (33, .methodref 107 542), (0, .nameAndType 543 544), (0, u "equals"), (0, u "([B[B)Z"), (14, .class_ 561), (1, u "jdk/internal/util/ArraysSupport"), (0, u "mismatch"), (10, u "(Ljava/lang/Object;)Z"), (1, .class_ 576), (0, u "java/lang/CharSequence"), (22, u "CASE_INSENSITIVE_ORDER"), (0, u "Ljava/util/Comparator;"), (6, .methodref 559 608), (0, .nameAndType 562 376), (15, .methodref 10 625), (0, .nameAndType 626 627), (0, u "startsWith"), (0, u "(Ljava/lang/String;I)Z"), (64, u "isEmpty"), (317, u "([C)V"), (42, .fieldref 1054 1055), (0, .class_ 1056), (0, .nameAndType 1057 1058), (0, u "jdk/internal/util/Preconditions"), (0, u "SIOOBE_FORMATTER"), (0, u "Ljava/util/function/BiFunction;"), (0, .methodref 1054 1060), (0, .nameAndType 501 1061), (0, u "(IILjava/util/function/BiFunction;)I"), (39, u "serialPersistentFields"), (0, u "[Ljava/io/ObjectStreamField;"), (0, .class_ 1104), (0, u "java/lang/String$CaseInsensitiveComparator"), (1, .class_ 1107), (0, u "java/io/Serializable"), (0, .class_ 1109), (0, u "java/lang/Comparable"), (0, .class_ 1111), (0, u "java/lang/constant/Constable"), (0, .class_ 1113), (0, u "java/lang/constant/ConstantDesc"), (2, u "serialVersionUID"), (0, u "J"), (3, u "REPL"), (0, u "C"), (2, u "LATIN1"), (1, u "UTF16"), (129, u "(Ljava/lang/String;)Z"), (14, u "endsWith")] 178

def k7m0 : Method := { name := "<init>", desc := "()V", sig := { parameters := [], returnType := none }, accessFlags := 1, code := none }
def k7c1 : Code := { maxStack := 5, maxLocals := 2, code := jdk_42_method_3_code, exceptionTable := #[], attributes := #[] }
def k7m1 : Method := { name := "<init>", desc := "([C)V", sig := { parameters := [(.array .char)], returnType := none }, accessFlags := 1, code := some k7c1 }
def k7c2 : Code := { maxStack := 2, maxLocals := 1, code := jdk_42_method_54_code, exceptionTable := #[], attributes := #[] }
def k7m2 : Method := { name := "length", desc := "()I", sig := { parameters := [], returnType := some .int }, accessFlags := 1, code := some k7c2 }
def k7c3 : Code := { maxStack := 1, maxLocals := 1, code := jdk_42_method_55_code, exceptionTable := #[], attributes := #[] }
def k7m3 : Method := { name := "isEmpty", desc := "()Z", sig := { parameters := [], returnType := some .boolean }, accessFlags := 1, code := some k7c3 }
def k7c4 : Code := { maxStack := 2, maxLocals := 2, code := jdk_42_method_56_code, exceptionTable := #[], attributes := #[] }
def k7m4 : Method := { name := "charAt", desc := "(I)C", sig := { parameters := [.int], returnType := some .char }, accessFlags := 1, code := some k7c4 }
def k7c5 : Code := { maxStack := 2, maxLocals := 3, code := jdk_42_method_66_code, exceptionTable := #[], attributes := #[] }
def k7m5 : Method := { name := "equals", desc := "(Ljava/lang/Object;)Z", sig := { parameters := [(.object "java/lang/Object")], returnType := some .boolean }, accessFlags := 1, code := some k7c5 }
def k7c6 : Code := { maxStack := 5, maxLocals := 8, code := jdk_42_method_75_code, exceptionTable := #[], attributes := #[] }
def k7m6 : Method := { name := "startsWith", desc := "(Ljava/lang/String;I)Z", sig := { parameters := [(.object "java/lang/String"), .int], returnType := some .boolean }, accessFlags := 1, code := some k7c6 }
def k7c7 : Code := { maxStack := 4, maxLocals := 2, code := jdk_42_method_77_code, exceptionTable := #[], attributes := #[] }
def k7m7 : Method := { name := "endsWith", desc := "(Ljava/lang/String;)Z", sig := { parameters := [(.object "java/lang/String")], returnType := some .boolean }, accessFlags := 1, code := some k7c7 }
def k7c8 : Code := { maxStack := 4, maxLocals := 6, code := jdk_42_method_149_code, exceptionTable := #[], attributes := #[] }
def k7m8 : Method := { name := "<init>", desc := "([CIILjava/lang/Void;)V", sig := { parameters := [(.array .char), .int, .int, (.object "java/lang/Void")], returnType := none }, accessFlags := 2, code := some k7c8 }
def k7c9 : Code := { maxStack := 1, maxLocals := 1, code := jdk_42_method_152_code, exceptionTable := #[], attributes := #[] }
def k7m9 : Method := { name := "coder", desc := "()B", sig := { parameters := [], returnType := some .byte }, accessFlags := 0, code := some k7c9 }
def k7c10 : Code := { maxStack := 1, maxLocals := 1, code := jdk_42_method_154_code, exceptionTable := #[], attributes := #[] }
def k7m10 : Method := { name := "isLatin1", desc := "()Z", sig := { parameters := [], returnType := some .boolean }, accessFlags := 0, code := some k7c10 }
def k7c11 : Code := { maxStack := 3, maxLocals := 2, code := jdk_42_method_155_code, exceptionTable := #[], attributes := #[] }
def k7m11 : Method := { name := "checkIndex", desc := "(II)V", sig := { parameters := [.int, .int], returnType := none }, accessFlags := 8, code := some k7c11 }
/-- java/lang/String -/
def k7 : Class := { plain "java/lang/String" (some 0) with
  accessFlags := 49
  interfaces := #[2, 3, 4, 5, 6]
  cf := some (fileOf pool7 10 #[.nestMembers #[1103]] #[{ accessFlags := 1, nameIndex := 5, descriptorIndex := 6, attributes := #[] }, { accessFlags := 1, nameIndex := 5, descriptorIndex := 1010, attributes := #[] }, { accessFlags := 1, nameIndex := 507, descriptorIndex := 334, attributes := #[] }, { accessFlags := 1, nameIndex := 692, descriptorIndex := 142, attributes := #[] }, { accessFlags := 1, nameIndex := 497, descriptorIndex := 427, attributes := #[] }, { accessFlags := 1, nameIndex := 543, descriptorIndex := 573, attributes := #[] }, { accessFlags := 1, nameIndex := 626, descriptorIndex := 627, attributes := #[] }, { accessFlags := 1, nameIndex := 1272, descriptorIndex := 1257, attributes := #[] }, { accessFlags := 2, nameIndex := 5, descriptorIndex := 29, attributes := #[] }, { accessFlags := 0, nameIndex := 17, descriptorIndex := 337, attributes := #[] }, { accessFlags := 0, nameIndex := 494, descriptorIndex := 142, attributes := #[] }, { accessFlags := 8, nameIndex := 501, descriptorIndex := 391, attributes := #[] }] 49 2 #[1106, 1108, 575, 1110, 1112] #[{ accessFlags := 18, nameIndex := 13, descriptorIndex := 14, attributes := #[] }, { accessFlags := 18, nameIndex := 17, descriptorIndex := 18, attributes := #[] }, { accessFlags := 2, nameIndex := 21, descriptorIndex := 22, attributes := #[] }, { accessFlags := 2, nameIndex := 25, descriptorIndex := 26, attributes := #[] }, { accessFlags := 26, nameIndex := 1116, descriptorIndex := 1117, attributes := #[] }, { accessFlags := 24, nameIndex := 40, descriptorIndex := 26, attributes := #[] }, { accessFlags := 26, nameIndex := 1101, descriptorIndex := 1102, attributes := #[] }, { accessFlags := 26, nameIndex := 1121, descriptorIndex := 1122, attributes := #[] }, { accessFlags := 25, nameIndex := 599, descriptorIndex := 600, attributes := #[] }, { accessFlags := 24, nameIndex := 1125, descriptorIndex := 18, attributes := #[] }, { accessFlags := 24, nameIndex := 1127, descriptorIndex := 18, attributes := #[] }])
  fields := #[{ name := "value", type := (.array .byte), accessFlags := 18, slot := 0, constantValue := 0 }, { name := "coder", type := .byte, accessFlags := 18, slot := 1, constantValue := 0 }, { name := "hash", type := .int, accessFlags := 2, slot := 2, constantValue := 0 }, { name := "hashIsZero", type := .boolean, accessFlags := 2, slot := 3, constantValue := 0 }, { name := "serialVersionUID", type := .long, accessFlags := 26, slot := 0, constantValue := 0 }, { name := "COMPACT_STRINGS", type := .boolean, accessFlags := 24, slot := 1, constantValue := 0 }, { name := "serialPersistentFields", type := (.array (.object "java/io/ObjectStreamField")), accessFlags := 26, slot := 2, constantValue := 0 }, { name := "REPL", type := .char, accessFlags := 26, slot := 3, constantValue := 0 }, { name := "CASE_INSENSITIVE_ORDER", type := (.object "java/util/Comparator"), accessFlags := 25, slot := 4, constantValue := 0 }, { name := "LATIN1", type := .byte, accessFlags := 24, slot := 5, constantValue := 0 }, { name := "UTF16", type := .byte, accessFlags := 24, slot := 6, constantValue := 0 }]
  methods := #[k7m0, k7m1, k7m2, k7m3, k7m4, k7m5, k7m6, k7m7, k7m8, k7m9, k7m10, k7m11]
  instanceTypes := #[(.array .byte), .byte, .int, .boolean]
  staticTypes := #[.long, .boolean, (.array (.object "java/io/ObjectStreamField")), .char, (.object "java/util/Comparator"), .byte, .byte]
  resolved := Array.replicate 1451 none
  statics := some 0 }

def pool8 : Array CpInfo := pool [(6, .class_ 8), (1, u "java/lang/Object"), (0, u "<init>"), (0, u "()V"), (1, .class_ 14), (1, u "java/lang/StringUTF16"), (31, u "$assertionsDisabled"), (0, u "Z"), (13, u "HI_BYTE_SHIFT"), (0, u "I"), (2, u "LO_BYTE_SHIFT"), (49, .methodref 12 116), (0, .nameAndType 117 118), (0, u "compress"), (0, u "([CI[BII)I"), (3, u "([CII)[B"), (138, u "coderFromArrayLen"), (0, u "([BI)B"), (106, .class_ 371), (1, u "java/lang/StringUTF16$LinesSpliterator"), (58, u "MAX_LENGTH"), (196, .class_ 628), (0, u "java/lang/StringUTF16$CodePointsSpliterator"), (0, .class_ 630), (0, u "java/lang/StringUTF16$CharsSpliterator")] 4

def k8m0 : Method := { name := "<init>", desc := "()V", sig := { parameters := [], returnType := none }, accessFlags := 0, code := none }
def k8c1 : Code := { maxStack := 2, maxLocals := 2, code := jdk_52_method_15_code, exceptionTable := #[], attributes := #[] }
def k8m1 : Method := { name := "coderFromArrayLen", desc := "([BI)B", sig := { parameters := [(.array .byte), .int], returnType := some .byte }, accessFlags := 8, code := some k8c1 }
def k8c2 : Code := { maxStack := 5, maxLocals := 6, code := jdk_52_method_16_code, exceptionTable := #[], attributes := #[] }
def k8m2 : Method := { name := "compress", desc := "([CII)[B", sig := { parameters := [(.array .char), .int, .int], returnType := some (.array .byte) }, accessFlags := 9, code := some k8c2 }
def k8c3 : Code := { maxStack := 3, maxLocals := 7, code := jdk_52_method_21_code, exceptionTable := #[], attributes := #[] }
def k8m3 : Method := { name := "compress", desc := "([CI[BII)I", sig := { parameters := [(.array .char), .int, (.array .byte), .int, .int], returnType := some .int }, accessFlags := 9, code := some k8c3 }
/-- java/lang/StringUTF16 -/
def k8 : Class := { plain "java/lang/StringUTF16" (some 0) with
  accessFlags := 48
  interfaces := #[]
  cf := some (fileOf pool8 12 #[.nestMembers #[627, 629, 369]] #[{ accessFlags := 0, nameIndex := 9, descriptorIndex := 10, attributes := #[] }, { accessFlags := 8, nameIndex := 261, descriptorIndex := 262, attributes := #[] }, { accessFlags := 9, nameIndex := 117, descriptorIndex := 122, attributes := #[] }, { accessFlags := 9, nameIndex := 117, descriptorIndex := 118, attributes := #[] }] 48 6 #[] #[{ accessFlags := 26, nameIndex := 61, descriptorIndex := 62, attributes := #[] }, { accessFlags := 26, nameIndex := 65, descriptorIndex := 62, attributes := #[] }, { accessFlags := 24, nameIndex := 430, descriptorIndex := 62, attributes := #[] }, { accessFlags := 4120, nameIndex := 46, descriptorIndex := 47, attributes := #[] }])
  fields := #[{ name := "HI_BYTE_SHIFT", type := .int, accessFlags := 26, slot := 0, constantValue := 0 }, { name := "LO_BYTE_SHIFT", type := .int, accessFlags := 26, slot := 1, constantValue := 0 }, { name := "MAX_LENGTH", type := .int, accessFlags := 24, slot := 2, constantValue := 0 }, { name := "$assertionsDisabled", type := .boolean, accessFlags := 4120, slot := 3, constantValue := 0 }]
  methods := #[k8m0, k8m1, k8m2, k8m3]
  instanceTypes := #[]
  staticTypes := #[.int, .int, .int, .boolean]
  resolved := Array.replicate 635 none
  statics := none }

def pool9 : Array CpInfo := pool [(1, .methodref 2 3), (0, .class_ 4), (0, .nameAndType 5 6), (0, u "java/lang/Object"), (0, u "<init>"), (0, u "()V"), (0, .string 8), (0, u "database"), (0, .methodref 10 11), (0, .class_ 12), (0, .nameAndType 13 14), (0, u "com/example/garter/garter/schema/TableName"), (0, u "checkIdentifier"), (0, u "(Ljava/lang/String;Ljava/lang/String;)Ljava/lang/String;"), (0, .fieldref 10 16), (0, .nameAndType 8 17), (0, u "Ljava/lang/String;"), (0, .string 19), (0, u "table"), (0, .fieldref 10 21), (0, .nameAndType 19 17), (2, .methodref 25 26), (0, .class_ 27), (0, .nameAndType 28 29), (0, u "java/util/Objects"), (0, u "requireNonNull"), (0, u "(Ljava/lang/Object;Ljava/lang/String;)Ljava/lang/Object;"), (6, .methodref 37 38), (0, .class_ 39), (0, .nameAndType 40 41), (0, u "java/lang/String"), (0, u "length"), (0, u "()I"), (0, .methodref 37 43), (0, .nameAndType 44 45), (0, u "charAt"), (0, u "(I)C"), (18, u "(Ljava/lang/Object;)Z"), (18, u "(Ljava/lang/String;Ljava/lang/String;)V"), (5, .methodref 37 90), (0, .nameAndType 91 64), (0, u "equals"), (16, u "(C)Z"), (7, .methodref 37 117), (0, .nameAndType 118 119), (0, u "isEmpty"), (0, u "()Z"), (7, .string 128), (0, u " "), (0, .methodref 37 130), (0, .nameAndType 131 132), (0, u "endsWith"), (0, u "(Ljava/lang/String;)Z"), (2, .methodref 136 137), (0, .class_ 138), (0, .nameAndType 139 108), (0, u "java/lang/Character"), (0, u "isSurrogate")] 43

def k9c0 : Code := { maxStack := 3, maxLocals := 3, code := prog_117_method_1_code, exceptionTable := #[], attributes := #[] }
def k9m0 : Method := { name := "<init>", desc := "(Ljava/lang/String;Ljava/lang/String;)V", sig := { parameters := [(.object "java/lang/String"), (.object "java/lang/String")], returnType := none }, accessFlags := 1, code := some k9c0 }
def k9c1 : Code := { maxStack := 2, maxLocals := 3, code := prog_117_method_6_code, exceptionTable := #[], attributes := #[] }
def k9m1 : Method := { name := "equals", desc := "(Ljava/lang/Object;)Z", sig := { parameters := [(.object "java/lang/Object")], returnType := some .boolean }, accessFlags := 1, code := some k9c1 }
def k9c2 : Code := { maxStack := 5, maxLocals := 4, code := prog_117_method_11_code, exceptionTable := #[], attributes := #[] }
def k9m2 : Method := { name := "checkIdentifier", desc := "(Ljava/lang/String;Ljava/lang/String;)Ljava/lang/String;", sig := { parameters := [(.object "java/lang/String"), (.object "java/lang/String")], returnType := some (.object "java/lang/String") }, accessFlags := 10, code := some k9c2 }
/-- com/example/garter/garter/schema/TableName -/
def k9 : Class := { plain "com/example/garter/garter/schema/TableName" (some 0) with
  accessFlags := 49
  interfaces := #[]
  cf := some (fileOf pool9 10 #[] #[{ accessFlags := 1, nameIndex := 5, descriptorIndex := 83, attributes := #[] }, { accessFlags := 1, nameIndex := 91, descriptorIndex := 64, attributes := #[] }, { accessFlags := 10, nameIndex := 13, descriptorIndex := 14, attributes := #[] }] 49 2 #[] #[{ accessFlags := 18, nameIndex := 8, descriptorIndex := 17, attributes := #[] }, { accessFlags := 18, nameIndex := 19, descriptorIndex := 17, attributes := #[] }])
  fields := #[{ name := "database", type := (.object "java/lang/String"), accessFlags := 18, slot := 0, constantValue := 0 }, { name := "table", type := (.object "java/lang/String"), accessFlags := 18, slot := 1, constantValue := 0 }]
  methods := #[k9m0, k9m1, k9m2]
  instanceTypes := #[(.object "java/lang/String"), (.object "java/lang/String")]
  staticTypes := #[]
  resolved := Array.replicate 183 none
  statics := none }

def pool10 : Array CpInfo := pool [(2, .class_ 4), (1, u "java/lang/Object"), (0, u "<init>"), (0, u "()V"), (35, .class_ 44), (1, u "java/util/Objects"), (0, u "requireNonNull"), (48, u "(Ljava/lang/Object;Ljava/lang/String;)Ljava/lang/Object;")] 89

def k10m0 : Method := { name := "<init>", desc := "()V", sig := { parameters := [], returnType := none }, accessFlags := 2, code := none }
def k10c1 : Code := { maxStack := 3, maxLocals := 2, code := jdk_31_method_11_code, exceptionTable := #[], attributes := #[] }
def k10m1 : Method := { name := "requireNonNull", desc := "(Ljava/lang/Object;Ljava/lang/String;)Ljava/lang/Object;", sig := { parameters := [(.object "java/lang/Object"), (.object "java/lang/String")], returnType := some (.object "java/lang/Object") }, accessFlags := 9, code := some k10c1 }
/-- java/util/Objects -/
def k10 : Class := { plain "java/util/Objects" (some 0) with
  accessFlags := 49
  interfaces := #[]
  cf := some (fileOf pool10 42 #[] #[{ accessFlags := 2, nameIndex := 5, descriptorIndex := 6, attributes := #[] }, { accessFlags := 9, nameIndex := 45, descriptorIndex := 94, attributes := #[] }] 49 2 #[] #[])
  fields := #[]
  methods := #[k10m0, k10m1]
  instanceTypes := #[]
  staticTypes := #[]
  resolved := Array.replicate 184 none
  statics := none }

def pool11 : Array CpInfo := pool [(9, u "<init>"), (6, .class_ 18), (1, u "java/lang/Object"), (0, u "()V"), (1, .class_ 23), (1, u "jdk/internal/util/ArraysSupport"), (0, u "LOG2_ARRAY_LONG_INDEX_SCALE"), (0, u "I"), (2, u "U"), (0, u "Ljdk/internal/misc/Unsafe;"), (8, u "BIG_ENDIAN"), (0, u "Z"), (8, u "LOG2_BYTE_BIT_SIZE"), (4, u "LOG2_ARRAY_INT_INDEX_SCALE"), (54, u "JLA"), (0, u "Ljdk/internal/access/JavaLangAccess;"), (11, u "LOG2_ARRAY_BOOLEAN_INDEX_SCALE"), (9, u "LOG2_ARRAY_BYTE_INDEX_SCALE"), (5, u "LOG2_ARRAY_CHAR_INDEX_SCALE"), (5, u "LOG2_ARRAY_SHORT_INDEX_SCALE"), (5, u "mismatch"), (12, u "LOG2_ARRAY_FLOAT_INDEX_SCALE"), (24, u "LOG2_ARRAY_DOUBLE_INDEX_SCALE"), (89, u "T_BOOLEAN"), (2, u "T_CHAR"), (1, u "T_FLOAT"), (1, u "T_DOUBLE"), (1, u "T_BYTE"), (1, u "T_SHORT"), (1, u "T_INT"), (1, u "T_LONG"), (1, u "SOFT_MAX_ARRAY_LENGTH"), (42, u "([BI[BII)I")] 40

def k11m0 : Method := { name := "<init>", desc := "()V", sig := { parameters := [], returnType := none }, accessFlags := 2, code := none }
def k11c1 : Code := { maxStack := 8, maxLocals := 8, code := jdk_48_method_14_code, exceptionTable := #[], attributes := #[] }
def k11m1 : Method := { name := "mismatch", desc := "([BI[BII)I", sig := { parameters := [(.array .byte), .int, (.array .byte), .int, .int], returnType := some .int }, accessFlags := 9, code := some k11c1 }
/-- jdk/internal/util/ArraysSupport -/
def k11 : Class := { plain "jdk/internal/util/ArraysSupport" (some 0) with
  accessFlags := 33
  interfaces := #[]
  cf := some (fileOf pool11 21 #[] #[{ accessFlags := 2, nameIndex := 9, descriptorIndex := 19, attributes := #[] }, { accessFlags := 9, nameIndex := 149, descriptorIndex := 337, attributes := #[] }] 33 16 #[] #[{ accessFlags := 24, nameIndex := 28, descriptorIndex := 29, attributes := #[] }, { accessFlags := 26, nameIndex := 38, descriptorIndex := 39, attributes := #[] }, { accessFlags := 25, nameIndex := 121, descriptorIndex := 25, attributes := #[] }, { accessFlags := 25, nameIndex := 131, descriptorIndex := 25, attributes := #[] }, { accessFlags := 25, nameIndex := 137, descriptorIndex := 25, attributes := #[] }, { accessFlags := 25, nameIndex := 143, descriptorIndex := 25, attributes := #[] }, { accessFlags := 25, nameIndex := 53, descriptorIndex := 25, attributes := #[] }, { accessFlags := 25, nameIndex := 24, descriptorIndex := 25, attributes := #[] }, { accessFlags := 25, nameIndex := 162, descriptorIndex := 25, attributes := #[] }, { accessFlags := 25, nameIndex := 187, descriptorIndex := 25, attributes := #[] }, { accessFlags := 26, nameIndex := 48, descriptorIndex := 25, attributes := #[] }, { accessFlags := 25, nameIndex := 277, descriptorIndex := 25, attributes := #[] }, { accessFlags := 25, nameIndex := 280, descriptorIndex := 25, attributes := #[] }, { accessFlags := 25, nameIndex := 282, descriptorIndex := 25, attributes := #[] }, { accessFlags := 25, nameIndex := 284, descriptorIndex := 25, attributes := #[] }, { accessFlags := 25, nameIndex := 286, descriptorIndex := 25, attributes := #[] }, { accessFlags := 25, nameIndex := 288, descriptorIndex := 25, attributes := #[] }, { accessFlags := 25, nameIndex := 290, descriptorIndex := 25, attributes := #[] }, { accessFlags := 25, nameIndex := 292, descriptorIndex := 25, attributes := #[] }, { accessFlags := 26, nameIndex := 108, descriptorIndex := 109, attributes := #[] }, { accessFlags := 25, nameIndex := 294, descriptorIndex := 25, attributes := #[] }])
  fields := #[{ name := "U", type := (.object "jdk/internal/misc/Unsafe"), accessFlags := 24, slot := 0, constantValue := 0 }, { name := "BIG_ENDIAN", type := .boolean, accessFlags := 26, slot := 1, constantValue := 0 }, { name := "LOG2_ARRAY_BOOLEAN_INDEX_SCALE", type := .int, accessFlags := 25, slot := 2, constantValue := 0 }, { name := "LOG2_ARRAY_BYTE_INDEX_SCALE", type := .int, accessFlags := 25, slot := 3, constantValue := 0 }, { name := "LOG2_ARRAY_CHAR_INDEX_SCALE", type := .int, accessFlags := 25, slot := 4, constantValue := 0 }, { name := "LOG2_ARRAY_SHORT_INDEX_SCALE", type := .int, accessFlags := 25, slot := 5, constantValue := 0 }, { name := "LOG2_ARRAY_INT_INDEX_SCALE", type := .int, accessFlags := 25, slot := 6, constantValue := 0 }, { name := "LOG2_ARRAY_LONG_INDEX_SCALE", type := .int, accessFlags := 25, slot := 7, constantValue := 0 }, { name := "LOG2_ARRAY_FLOAT_INDEX_SCALE", type := .int, accessFlags := 25, slot := 8, constantValue := 0 }, { name := "LOG2_ARRAY_DOUBLE_INDEX_SCALE", type := .int, accessFlags := 25, slot := 9, constantValue := 0 }, { name := "LOG2_BYTE_BIT_SIZE", type := .int, accessFlags := 26, slot := 10, constantValue := 0 }, { name := "T_BOOLEAN", type := .int, accessFlags := 25, slot := 11, constantValue := 0 }, { name := "T_CHAR", type := .int, accessFlags := 25, slot := 12, constantValue := 0 }, { name := "T_FLOAT", type := .int, accessFlags := 25, slot := 13, constantValue := 0 }, { name := "T_DOUBLE", type := .int, accessFlags := 25, slot := 14, constantValue := 0 }, { name := "T_BYTE", type := .int, accessFlags := 25, slot := 15, constantValue := 0 }, { name := "T_SHORT", type := .int, accessFlags := 25, slot := 16, constantValue := 0 }, { name := "T_INT", type := .int, accessFlags := 25, slot := 17, constantValue := 0 }, { name := "T_LONG", type := .int, accessFlags := 25, slot := 18, constantValue := 0 }, { name := "JLA", type := (.object "jdk/internal/access/JavaLangAccess"), accessFlags := 26, slot := 19, constantValue := 0 }, { name := "SOFT_MAX_ARRAY_LENGTH", type := .int, accessFlags := 25, slot := 20, constantValue := 0 }]
  methods := #[k11m0, k11m1]
  instanceTypes := #[]
  staticTypes := #[(.object "jdk/internal/misc/Unsafe"), .boolean, .int, .int, .int, .int, .int, .int, .int, .int, .int, .int, .int, .int, .int, .int, .int, .int, .int, (.object "jdk/internal/access/JavaLangAccess"), .int]
  resolved := Array.replicate 378 none
  statics := none }

def pool12 : Array CpInfo := pool [(1, .class_ 2), (0, u "java/lang/String"), (1, .class_ 6), (1, u "java/lang/Object"), (0, u "<init>"), (0, u "()V"), (0, .methodref 1 10), (0, .nameAndType 11 12), (0, u "checkIndex"), (0, u "(II)V"), (1, .class_ 16), (1, u "java/lang/StringLatin1"), (36, u "([BI)C"), (67, u "$assertionsDisabled"), (0, u "Z"), (98, .class_ 223), (1, u "java/lang/StringLatin1$LinesSpliterator"), (28, u "charAt"), (28, u "equals"), (0, u "([B[B)Z"), (107, .class_ 391), (0, u "java/lang/StringLatin1$CharsSpliterator")] 3

def k12m0 : Method := { name := "<init>", desc := "()V", sig := { parameters := [], returnType := none }, accessFlags := 0, code := none }
def k12c1 : Code := { maxStack := 2, maxLocals := 2, code := jdk_43_method_2_code, exceptionTable := #[], attributes := #[] }
def k12m1 : Method := { name := "charAt", desc := "([BI)C", sig := { parameters := [(.array .byte), .int], returnType := some .char }, accessFlags := 9, code := some k12c1 }
def k12c2 : Code := { maxStack := 3, maxLocals := 3, code := jdk_43_method_13_code, exceptionTable := #[], attributes := #[] }
def k12m2 : Method := { name := "equals", desc := "([B[B)Z", sig := { parameters := [(.array .byte), (.array .byte)], returnType := some .boolean }, accessFlags := 9, code := some k12c2 }
/-- java/lang/StringLatin1 -/
def k12 : Class := { plain "java/lang/StringLatin1" (some 0) with
  accessFlags := 48
  interfaces := #[]
  cf := some (fileOf pool12 14 #[.nestMembers #[390, 221]] #[{ accessFlags := 0, nameIndex := 7, descriptorIndex := 8, attributes := #[] }, { accessFlags := 9, nameIndex := 252, descriptorIndex := 53, attributes := #[] }, { accessFlags := 9, nameIndex := 281, descriptorIndex := 282, attributes := #[] }] 48 4 #[] #[{ accessFlags := 4120, nameIndex := 121, descriptorIndex := 122, attributes := #[] }])
  fields := #[{ name := "$assertionsDisabled", type := .boolean, accessFlags := 4120, slot := 0, constantValue := 0 }]
  methods := #[k12m0, k12m1, k12m2]
  instanceTypes := #[]
  staticTypes := #[.boolean]
  resolved := Array.replicate 395 none
  statics := none }

def pool13 : Array CpInfo := pool [(2, .class_ 4), (1, u "java/lang/Object"), (0, u "<init>"), (0, u "()V"), (17, .class_ 26), (1, u "jdk/internal/util/Preconditions"), (6, u "checkIndex"), (21, .class_ 56), (0, u "jdk/internal/util/Preconditions$4"), (57, .class_ 115), (0, u "jdk/internal/util/Preconditions$1"), (7, u "SIOOBE_FORMATTER"), (0, u "Ljava/util/function/BiFunction;"), (0, .class_ 126), (0, u "jdk/internal/util/Preconditions$2"), (3, u "AIOOBE_FORMATTER"), (0, .class_ 132), (0, u "jdk/internal/util/Preconditions$3"), (3, u "IOOBE_FORMATTER"), (41, u "(IILjava/util/function/BiFunction;)I")] 15

def k13m0 : Method := { name := "<init>", desc := "()V", sig := { parameters := [], returnType := none }, accessFlags := 1, code := none }
def k13c1 : Code := { maxStack := 3, maxLocals := 3, code := jdk_41_method_11_code, exceptionTable := #[], attributes := #[] }
def k13m1 : Method := { name := "checkIndex", desc := "(IILjava/util/function/BiFunction;)I", sig := { parameters := [.int, .int, (.object "java/util/function/BiFunction")], returnType := some .int }, accessFlags := 9, code := some k13c1 }
/-- jdk/internal/util/Preconditions -/
def k13 : Class := { plain "jdk/internal/util/Preconditions" (some 0) with
  accessFlags := 33
  interfaces := #[]
  cf := some (fileOf pool13 24 #[.nestMembers #[55, 131, 125, 114]] #[{ accessFlags := 1, nameIndex := 5, descriptorIndex := 6, attributes := #[] }, { accessFlags := 9, nameIndex := 33, descriptorIndex := 178, attributes := #[] }] 33 2 #[] #[{ accessFlags := 25, nameIndex := 123, descriptorIndex := 124, attributes := #[] }, { accessFlags := 25, nameIndex := 130, descriptorIndex := 124, attributes := #[] }, { accessFlags := 25, nameIndex := 136, descriptorIndex := 124, attributes := #[] }])
  fields := #[{ name := "SIOOBE_FORMATTER", type := (.object "java/util/function/BiFunction"), accessFlags := 25, slot := 0, constantValue := 0 }, { name := "AIOOBE_FORMATTER", type := (.object "java/util/function/BiFunction"), accessFlags := 25, slot := 1, constantValue := 0 }, { name := "IOOBE_FORMATTER", type := (.object "java/util/function/BiFunction"), accessFlags := 25, slot := 2, constantValue := 0 }]
  methods := #[k13m0, k13m1]
  instanceTypes := #[]
  staticTypes := #[(.object "java/util/function/BiFunction"), (.object "java/util/function/BiFunction"), (.object "java/util/function/BiFunction")]
  resolved := Array.replicate 194 none
  statics := some 1 }

def pool14 : Array CpInfo := pool [(1, .class_ 2), (0, u "java/lang/Character"), (18, u "value"), (0, u "C"), (19, .class_ 44), (1, u "java/lang/Object"), (3, .class_ 50), (1, u "java/lang/Character$CharacterCache"), (24, .integer 55296), (5, u "(C)Z"), (202, u "$assertionsDisabled"), (0, u "Z"), (21, .class_ 309), (1, u "java/lang/Character$UnicodeBlock"), (73, u "TYPE"), (0, u "Ljava/lang/Class;"), (0, .class_ 386), (0, u "java/io/Serializable"), (0, .class_ 388), (0, u "java/lang/Comparable"), (0, .class_ 390), (0, u "java/lang/constant/Constable"), (0, u "MIN_RADIX"), (0, u "I"), (2, u "MAX_RADIX"), (1, u "MIN_VALUE"), (1, u "MAX_VALUE"), (3, u "UNASSIGNED"), (0, u "B"), (0, u "UPPERCASE_LETTER"), (1, u "LOWERCASE_LETTER"), (0, u "TITLECASE_LETTER"), (1, u "MODIFIER_LETTER"), (1, u "OTHER_LETTER"), (1, u "NON_SPACING_MARK"), (1, u "ENCLOSING_MARK"), (1, u "COMBINING_SPACING_MARK"), (1, u "DECIMAL_DIGIT_NUMBER"), (1, u "LETTER_NUMBER"), (1, u "OTHER_NUMBER"), (1, u "SPACE_SEPARATOR"), (1, u "LINE_SEPARATOR"), (1, u "PARAGRAPH_SEPARATOR"), (1, u "CONTROL"), (1, u "FORMAT"), (1, u "PRIVATE_USE"), (1, u "SURROGATE"), (1, u "DASH_PUNCTUATION"), (1, u "START_PUNCTUATION"), (1, u "END_PUNCTUATION"), (1, u "CONNECTOR_PUNCTUATION"), (1, u "OTHER_PUNCTUATION"), (1, u "MATH_SYMBOL"), (1, u "CURRENCY_SYMBOL"), (1, u "MODIFIER_SYMBOL"), (1, u "OTHER_SYMBOL"), (1, u "INITIAL_QUOTE_PUNCTUATION"), (1, u "FINAL_QUOTE_PUNCTUATION"), (1, u "ERROR"), (1, u "DIRECTIONALITY_UNDEFINED"), (0, u "DIRECTIONALITY_LEFT_TO_RIGHT"), (0, u "DIRECTIONALITY_RIGHT_TO_LEFT"), (0, u "DIRECTIONALITY_RIGHT_TO_LEFT_ARABIC"), (0, u "DIRECTIONALITY_EUROPEAN_NUMBER"), (0, u "DIRECTIONALITY_EUROPEAN_NUMBER_SEPARATOR"), (0, u "DIRECTIONALITY_EUROPEAN_NUMBER_TERMINATOR"), (0, u "DIRECTIONALITY_ARABIC_NUMBER"), (0, u "DIRECTIONALITY_COMMON_NUMBER_SEPARATOR"), (0, u "DIRECTIONALITY_NONSPACING_MARK"), (0, u "DIRECTIONALITY_BOUNDARY_NEUTRAL"), (0, u "DIRECTIONALITY_PARAGRAPH_SEPARATOR"), (0, u "DIRECTIONALITY_SEGMENT_SEPARATOR"), (0, u "DIRECTIONALITY_WHITESPACE"), (0, u "DIRECTIONALITY_OTHER_NEUTRALS"), (0, u "DIRECTIONALITY_LEFT_TO_RIGHT_EMBEDDING"), (0, u "DIRECTIONALITY_LEFT_TO_RIGHT_OVERRIDE"), (0, u "DIRECTIONALITY_RIGHT_TO_LEFT_EMBEDDING"), (0, u "DIRECTIONALITY_RIGHT_TO_LEFT_OVERRIDE"), (1, u "DIRECTIONALITY_POP_DIRECTIONAL_FORMAT"), (0, u "DIRECTIONALITY_LEFT_TO_RIGHT_ISOLATE"), (0, u "DIRECTIONALITY_RIGHT_TO_LEFT_ISOLATE"), (0, u "DIRECTIONALITY_FIRST_STRONG_ISOLATE"), (0, u "DIRECTIONALITY_POP_DIRECTIONAL_ISOLATE"), (0, u "MIN_HIGH_SURROGATE"), (0, u "MAX_HIGH_SURROGATE"), (1, u "MIN_LOW_SURROGATE"), (0, u "MAX_LOW_SURROGATE"), (1, u "MIN_SURROGATE"), (0, u "MAX_SURROGATE"), (0, u "MIN_SUPPLEMENTARY_CODE_POINT"), (0, u "MIN_CODE_POINT"), (0, u "MAX_CODE_POINT"), (1, u "serialVersionUID"), (0, u "J"), (2, u "SIZE"), (0, u "BYTES"), (24, u "isSurrogate"), (63, .class_ 596), (0, u "java/lang/Character$UnicodeScript"), (0, .class_ 598), (0, u "java/lang/Character$Subset")] 5

def k14c0 : Code := { maxStack := 2, maxLocals := 1, code := jdk_89_method_16_code, exceptionTable := #[], attributes := #[] }
def k14m0 : Method := { name := "isSurrogate", desc := "(C)Z", sig := { parameters := [.char], returnType := some .boolean }, accessFlags := 9, code := some k14c0 }
/-- java/lang/Character -/
def k14 : Class := { plain "java/lang/Character" (some 0) with
  accessFlags := 49
  interfaces := #[2, 3, 5]
  cf := some (fileOf pool14 1 #[.nestMembers #[48, 595, 307, 597]] #[{ accessFlags := 9, nameIndex := 531, descriptorIndex := 81, attributes := #[] }] 49 42 #[385, 387, 389] #[{ accessFlags := 25, nameIndex := 391, descriptorIndex := 392, attributes := #[] }, { accessFlags := 25, nameIndex := 395, descriptorIndex := 392, attributes := #[] }, { accessFlags := 25, nameIndex := 397, descriptorIndex := 22, attributes := #[] }, { accessFlags := 25, nameIndex := 399, descriptorIndex := 22, attributes := #[] }, { accessFlags := 25, nameIndex := 383, descriptorIndex := 384, attributes := #[] }, { accessFlags := 25, nameIndex := 403, descriptorIndex := 404, attributes := #[] }, { accessFlags := 25, nameIndex := 405, descriptorIndex := 404, attributes := #[] }, { accessFlags := 25, nameIndex := 407, descriptorIndex := 404, attributes := #[] }, { accessFlags := 25, nameIndex := 408, descriptorIndex := 404, attributes := #[] }, { accessFlags := 25, nameIndex := 410, descriptorIndex := 404, attributes := #[] }, { accessFlags := 25, nameIndex := 412, descriptorIndex := 404, attributes := #[] }, { accessFlags := 25, nameIndex := 414, descriptorIndex := 404, attributes := #[] }, { accessFlags := 25, nameIndex := 416, descriptorIndex := 404, attributes := #[] }, { accessFlags := 25, nameIndex := 418, descriptorIndex := 404, attributes := #[] }, { accessFlags := 25, nameIndex := 420, descriptorIndex := 404, attributes := #[] }, { accessFlags := 25, nameIndex := 422, descriptorIndex := 404, attributes := #[] }, { accessFlags := 25, nameIndex := 424, descriptorIndex := 404, attributes := #[] }, { accessFlags := 25, nameIndex := 426, descriptorIndex := 404, attributes := #[] }, { accessFlags := 25, nameIndex := 428, descriptorIndex := 404, attributes := #[] }, { accessFlags := 25, nameIndex := 430, descriptorIndex := 404, attributes := #[] }, { accessFlags := 25, nameIndex := 432, descriptorIndex := 404, attributes := #[] }, { accessFlags := 25, nameIndex := 434, descriptorIndex := 404, attributes := #[] }, { accessFlags := 25, nameIndex := 436, descriptorIndex := 404, attributes := #[] }, { accessFlags := 25, nameIndex := 438, descriptorIndex := 404, attributes := #[] }, { accessFlags := 25, nameIndex := 440, descriptorIndex := 404, attributes := #[] }, { accessFlags := 25, nameIndex := 442, descriptorIndex := 404, attributes := #[] }, { accessFlags := 25, nameIndex := 444, descriptorIndex := 404, attributes := #[] }, { accessFlags := 25, nameIndex := 446, descriptorIndex := 404, attributes := #[] }, { accessFlags := 25, nameIndex := 448, descriptorIndex := 404, attributes := #[] }, { accessFlags := 25, nameIndex := 450, descriptorIndex := 404, attributes := #[] }, { accessFlags := 25, nameIndex := 452, descriptorIndex := 404, attributes := #[] }, { accessFlags := 25, nameIndex := 454, descriptorIndex := 404, attributes := #[] }, { accessFlags := 25, nameIndex := 456, descriptorIndex := 404, attributes := #[] }, { accessFlags := 25, nameIndex := 458, descriptorIndex := 404, attributes := #[] }, { accessFlags := 25, nameIndex := 460, descriptorIndex := 404, attributes := #[] }, { accessFlags := 24, nameIndex := 462, descriptorIndex := 392, attributes := #[] }, { accessFlags := 25, nameIndex := 464, descriptorIndex := 404, attributes := #[] }, { accessFlags := 25, nameIndex := 465, descriptorIndex := 404, attributes := #[] }, { accessFlags := 25, nameIndex := 466, descriptorIndex := 404, attributes := #[] }, { accessFlags := 25, nameIndex := 467, descriptorIndex := 404, attributes := #[] }, { accessFlags := 25, nameIndex := 468, descriptorIndex := 404, attributes := #[] }, { accessFlags := 25, nameIndex := 469, descriptorIndex := 404, attributes := #[] }, { accessFlags := 25, nameIndex := 470, descriptorIndex := 404, attributes := #[] }, { accessFlags := 25, nameIndex := 471, descriptorIndex := 404, attributes := #[] }, { accessFlags := 25, nameIndex := 472, descriptorIndex := 404, attributes := #[] }, { accessFlags := 25, nameIndex := 473, descriptorIndex := 404, attributes := #[] }, { accessFlags := 25, nameIndex := 474, descriptorIndex := 404, attributes := #[] }, { accessFlags := 25, nameIndex := 475, descriptorIndex := 404, attributes := #[] }, { accessFlags := 25, nameIndex := 476, descriptorIndex := 404, attributes := #[] }, { accessFlags := 25, nameIndex := 477, descriptorIndex := 404, attributes := #[] }, { accessFlags := 25, nameIndex := 478, descriptorIndex := 404, attributes := #[] }, { accessFlags := 25, nameIndex := 479, descriptorIndex := 404, attributes := #[] }, { accessFlags := 25, nameIndex := 480, descriptorIndex := 404, attributes := #[] }, { accessFlags := 25, nameIndex := 481, descriptorIndex := 404, attributes := #[] }, { accessFlags := 25, nameIndex := 482, descriptorIndex := 404, attributes := #[] }, { accessFlags := 25, nameIndex := 484, descriptorIndex := 404, attributes := #[] }, { accessFlags := 25, nameIndex := 485, descriptorIndex := 404, attributes := #[] }, { accessFlags := 25, nameIndex := 486, descriptorIndex := 404, attributes := #[] }, { accessFlags := 25, nameIndex := 487, descriptorIndex := 404, attributes := #[] }, { accessFlags := 25, nameIndex := 488, descriptorIndex := 404, attributes := #[] }, { accessFlags := 25, nameIndex := 489, descriptorIndex := 22, attributes := #[] }, { accessFlags := 25, nameIndex := 490, descriptorIndex := 22, attributes := #[] }, { accessFlags := 25, nameIndex := 492, descriptorIndex := 22, attributes := #[] }, { accessFlags := 25, nameIndex := 493, descriptorIndex := 22, attributes := #[] }, { accessFlags := 25, nameIndex := 495, descriptorIndex := 22, attributes := #[] }, { accessFlags := 25, nameIndex := 496, descriptorIndex := 22, attributes := #[] }, { accessFlags := 25, nameIndex := 497, descriptorIndex := 392, attributes := #[] }, { accessFlags := 25, nameIndex := 498, descriptorIndex := 392, attributes := #[] }, { accessFlags := 25, nameIndex := 499, descriptorIndex := 392, attributes := #[] }, { accessFlags := 18, nameIndex := 21, descriptorIndex := 22, attributes := #[] }, { accessFlags := 26, nameIndex := 501, descriptorIndex := 502, attributes := #[] }, { accessFlags := 25, nameIndex := 505, descriptorIndex := 392, attributes := #[] }, { accessFlags := 25, nameIndex := 506, descriptorIndex := 392, attributes := #[] }, { accessFlags := 4120, nameIndex := 284, descriptorIndex := 285, attributes := #[] }])
  fields := #[{ name := "MIN_RADIX", type := .int, accessFlags := 25, slot := 0, constantValue := 0 }, { name := "MAX_RADIX", type := .int, accessFlags := 25, slot := 1, constantValue := 0 }, { name := "MIN_VALUE", type := .char, accessFlags := 25, slot := 2, constantValue := 0 }, { name := "MAX_VALUE", type := .char, accessFlags := 25, slot := 3, constantValue := 0 }, { name := "TYPE", type := (.object "java/lang/Class"), accessFlags := 25, slot := 4, constantValue := 0 }, { name := "UNASSIGNED", type := .byte, accessFlags := 25, slot := 5, constantValue := 0 }, { name := "UPPERCASE_LETTER", type := .byte, accessFlags := 25, slot := 6, constantValue := 0 }, { name := "LOWERCASE_LETTER", type := .byte, accessFlags := 25, slot := 7, constantValue := 0 }, { name := "TITLECASE_LETTER", type := .byte, accessFlags := 25, slot := 8, constantValue := 0 }, { name := "MODIFIER_LETTER", type := .byte, accessFlags := 25, slot := 9, constantValue := 0 }, { name := "OTHER_LETTER", type := .byte, accessFlags := 25, slot := 10, constantValue := 0 }, { name := "NON_SPACING_MARK", type := .byte, accessFlags := 25, slot := 11, constantValue := 0 }, { name := "ENCLOSING_MARK", type := .byte, accessFlags := 25, slot := 12, constantValue := 0 }, { name := "COMBINING_SPACING_MARK", type := .byte, accessFlags := 25, slot := 13, constantValue := 0 }, { name := "DECIMAL_DIGIT_NUMBER", type := .byte, accessFlags := 25, slot := 14, constantValue := 0 }, { name := "LETTER_NUMBER", type := .byte, accessFlags := 25, slot := 15, constantValue := 0 }, { name := "OTHER_NUMBER", type := .byte, accessFlags := 25, slot := 16, constantValue := 0 }, { name := "SPACE_SEPARATOR", type := .byte, accessFlags := 25, slot := 17, constantValue := 0 }, { name := "LINE_SEPARATOR", type := .byte, accessFlags := 25, slot := 18, constantValue := 0 }, { name := "PARAGRAPH_SEPARATOR", type := .byte, accessFlags := 25, slot := 19, constantValue := 0 }, { name := "CONTROL", type := .byte, accessFlags := 25, slot := 20, constantValue := 0 }, { name := "FORMAT", type := .byte, accessFlags := 25, slot := 21, constantValue := 0 }, { name := "PRIVATE_USE", type := .byte, accessFlags := 25, slot := 22, constantValue := 0 }, { name := "SURROGATE", type := .byte, accessFlags := 25, slot := 23, constantValue := 0 }, { name := "DASH_PUNCTUATION", type := .byte, accessFlags := 25, slot := 24, constantValue := 0 }, { name := "START_PUNCTUATION", type := .byte, accessFlags := 25, slot := 25, constantValue := 0 }, { name := "END_PUNCTUATION", type := .byte, accessFlags := 25, slot := 26, constantValue := 0 }, { name := "CONNECTOR_PUNCTUATION", type := .byte, accessFlags := 25, slot := 27, constantValue := 0 }, { name := "OTHER_PUNCTUATION", type := .byte, accessFlags := 25, slot := 28, constantValue := 0 }, { name := "MATH_SYMBOL", type := .byte, accessFlags := 25, slot := 29, constantValue := 0 }, { name := "CURRENCY_SYMBOL", type := .byte, accessFlags := 25, slot := 30, constantValue := 0 }, { name := "MODIFIER_SYMBOL", type := .byte, accessFlags := 25, slot := 31, constantValue := 0 }, { name := "OTHER_SYMBOL", type := .byte, accessFlags := 25, slot := 32, constantValue := 0 }, { name := "INITIAL_QUOTE_PUNCTUATION", type := .byte, accessFlags := 25, slot := 33, constantValue := 0 }, { name := "FINAL_QUOTE_PUNCTUATION", type := .byte, accessFlags := 25, slot := 34, constantValue := 0 }, { name := "ERROR", type := .int, accessFlags := 24, slot := 35, constantValue := 0 }, { name := "DIRECTIONALITY_UNDEFINED", type := .byte, accessFlags := 25, slot := 36, constantValue := 0 }, { name := "DIRECTIONALITY_LEFT_TO_RIGHT", type := .byte, accessFlags := 25, slot := 37, constantValue := 0 }, { name := "DIRECTIONALITY_RIGHT_TO_LEFT", type := .byte, accessFlags := 25, slot := 38, constantValue := 0 }, { name := "DIRECTIONALITY_RIGHT_TO_LEFT_ARABIC", type := .byte, accessFlags := 25, slot := 39, constantValue := 0 }, { name := "DIRECTIONALITY_EUROPEAN_NUMBER", type := .byte, accessFlags := 25, slot := 40, constantValue := 0 }, { name := "DIRECTIONALITY_EUROPEAN_NUMBER_SEPARATOR", type := .byte, accessFlags := 25, slot := 41, constantValue := 0 }, { name := "DIRECTIONALITY_EUROPEAN_NUMBER_TERMINATOR", type := .byte, accessFlags := 25, slot := 42, constantValue := 0 }, { name := "DIRECTIONALITY_ARABIC_NUMBER", type := .byte, accessFlags := 25, slot := 43, constantValue := 0 }, { name := "DIRECTIONALITY_COMMON_NUMBER_SEPARATOR", type := .byte, accessFlags := 25, slot := 44, constantValue := 0 }, { name := "DIRECTIONALITY_NONSPACING_MARK", type := .byte, accessFlags := 25, slot := 45, constantValue := 0 }, { name := "DIRECTIONALITY_BOUNDARY_NEUTRAL", type := .byte, accessFlags := 25, slot := 46, constantValue := 0 }, { name := "DIRECTIONALITY_PARAGRAPH_SEPARATOR", type := .byte, accessFlags := 25, slot := 47, constantValue := 0 }, { name := "DIRECTIONALITY_SEGMENT_SEPARATOR", type := .byte, accessFlags := 25, slot := 48, constantValue := 0 }, { name := "DIRECTIONALITY_WHITESPACE", type := .byte, accessFlags := 25, slot := 49, constantValue := 0 }, { name := "DIRECTIONALITY_OTHER_NEUTRALS", type := .byte, accessFlags := 25, slot := 50, constantValue := 0 }, { name := "DIRECTIONALITY_LEFT_TO_RIGHT_EMBEDDING", type := .byte, accessFlags := 25, slot := 51, constantValue := 0 }, { name := "DIRECTIONALITY_LEFT_TO_RIGHT_OVERRIDE", type := .byte, accessFlags := 25, slot := 52, constantValue := 0 }, { name := "DIRECTIONALITY_RIGHT_TO_LEFT_EMBEDDING", type := .byte, accessFlags := 25, slot := 53, constantValue := 0 }, { name := "DIRECTIONALITY_RIGHT_TO_LEFT_OVERRIDE", type := .byte, accessFlags := 25, slot := 54, constantValue := 0 }, { name := "DIRECTIONALITY_POP_DIRECTIONAL_FORMAT", type := .byte, accessFlags := 25, slot := 55, constantValue := 0 }, { name := "DIRECTIONALITY_LEFT_TO_RIGHT_ISOLATE", type := .byte, accessFlags := 25, slot := 56, constantValue := 0 }, { name := "DIRECTIONALITY_RIGHT_TO_LEFT_ISOLATE", type := .byte, accessFlags := 25, slot := 57, constantValue := 0 }, { name := "DIRECTIONALITY_FIRST_STRONG_ISOLATE", type := .byte, accessFlags := 25, slot := 58, constantValue := 0 }, { name := "DIRECTIONALITY_POP_DIRECTIONAL_ISOLATE", type := .byte, accessFlags := 25, slot := 59, constantValue := 0 }, { name := "MIN_HIGH_SURROGATE", type := .char, accessFlags := 25, slot := 60, constantValue := 0 }, { name := "MAX_HIGH_SURROGATE", type := .char, accessFlags := 25, slot := 61, constantValue := 0 }, { name := "MIN_LOW_SURROGATE", type := .char, accessFlags := 25, slot := 62, constantValue := 0 }, { name := "MAX_LOW_SURROGATE", type := .char, accessFlags := 25, slot := 63, constantValue := 0 }, { name := "MIN_SURROGATE", type := .char, accessFlags := 25, slot := 64, constantValue := 0 }, { name := "MAX_SURROGATE", type := .char, accessFlags := 25, slot := 65, constantValue := 0 }, { name := "MIN_SUPPLEMENTARY_CODE_POINT", type := .int, accessFlags := 25, slot := 66, constantValue := 0 }, { name := "MIN_CODE_POINT", type := .int, accessFlags := 25, slot := 67, constantValue := 0 }, { name := "MAX_CODE_POINT", type := .int, accessFlags := 25, slot := 68, constantValue := 0 }, { name := "value", type := .char, accessFlags := 18, slot := 0, constantValue := 0 }, { name := "serialVersionUID", type := .long, accessFlags := 26, slot := 69, constantValue := 0 }, { name := "SIZE", type := .int, accessFlags := 25, slot := 70, constantValue := 0 }, { name := "BYTES", type := .int, accessFlags := 25, slot := 71, constantValue := 0 }, { name := "$assertionsDisabled", type := .boolean, accessFlags := 4120, slot := 72, constantValue := 0 }]
  methods := #[k14m0]
  instanceTypes := #[.char]
  staticTypes := #[.int, .int, .char, .char, (.object "java/lang/Class"), .byte, .byte, .byte, .byte, .byte, .byte, .byte, .byte, .byte, .byte, .byte, .byte, .byte, .byte, .byte, .byte, .byte, .byte, .byte, .byte, .byte, .byte, .byte, .byte, .byte, .byte, .byte, .byte, .byte, .byte, .int, .byte, .byte, .byte, .byte, .byte, .byte, .byte, .byte, .byte, .byte, .byte, .byte, .byte, .byte, .byte, .byte, .byte, .byte, .byte, .byte, .byte, .byte, .byte, .byte, .char, .char, .char, .char, .char, .char, .int, .int, .int, .long, .int, .int, .boolean]
  resolved := Array.replicate 604 none
  statics := none }

def pool15 : Array CpInfo := pool [(1, u "java/lang/Cloneable"), (0, .class_ 1), (0, u "java/lang/Object"), (0, .class_ 3)] 3

/-- java/lang/Cloneable -/
def k15 : Class := { plain "java/lang/Cloneable" (some 0) with
  accessFlags := 1537
  interfaces := #[]
  cf := some (fileOf pool15 2 #[] #[] 1537 4 #[] #[])
  fields := #[]
  methods := #[]
  instanceTypes := #[]
  staticTypes := #[]
  resolved := Array.replicate 8 none
  statics := none }

/-- the primitive byte -/
def k16 : Class := { plain "byte" none with kind := .primitive 'B', accessFlags := 0x411 }
/-- [B -/
def k17 : Class := { plain "[B" (some 0) with kind := .array 16 .byte, interfaces := #[15, 2], accessFlags := 1041 }

/-- the primitive char -/
def k18 : Class := { plain "char" none with kind := .primitive 'C', accessFlags := 0x411 }
/-- [C -/
def k19 : Class := { plain "[C" (some 0) with kind := .array 18 .char, interfaces := #[15, 2], accessFlags := 1041 }

/-- the primitive int -/
def k20 : Class := { plain "int" none with kind := .primitive 'I', accessFlags := 0x411 }
/-- [I -/
def k21 : Class := { plain "[I" (some 0) with kind := .array 20 .int, interfaces := #[15, 2], accessFlags := 1041 }

def heap : Heap := #[{ cls := 7, slots := #[.long 0, .int 1, .null, .int 0, .null, .int 0, .int 0], vm := .statics 7 },
  { cls := 13, slots := #[.null, .null, .null], vm := .statics 13 }]
def classes : Array Class := #[k0, k1, k2, k3, k4, k5, k6, k7, k8, k9, k10, k11, k12, k13, k14, k15, k16, k17, k18, k19, k20, k21]
def interned : List (Array UInt16 × Addr) := []
def slotsUsed : Nat := 10
def theMethod : MethodId := ⟨1, 5⟩
def args0 : Array Value := #[.int 1, .int 2, .int 3, .int 4, .int 5]
def aboutOver (below : List Frame) : State where
  vm := { classes := classes, interned := interned.toArray }
  heap := heap
  slotsUsed := slotsUsed
  threads := #[{ frames := .invoking theMethod args0 :: below }]
def below0 : List Frame := [.native { method := ⟨0, 0⟩, args := #[] }]
def about1 : State := aboutOver below0
def p0 : Program := .bare "" "" ""
def e0 : Env := launch0.env 0 0 0
theorem w_frames : about1.frames = Frame.invoking theMethod args0 :: below0 := rfl
set_option maxRecDepth 65536 in
theorem w_args : argsFit about1.vm theMethod args0 = true := by decide +kernel
set_option maxRecDepth 65536 in
theorem w_heap : heapFits about1 = true := by decide +kernel
set_option maxRecDepth 65536 in
theorem w_runnable : about1.curStatus? = some .runnable := by decide +kernel
set_option maxRecDepth 65536 in
theorem w_alone : about1.alone = true := by decide +kernel
set_option maxRecDepth 65536 in
theorem w_named : about1.methodNamed? x = some theMethod := by decide +kernel
set_option maxRecDepth 65536 in
theorem w_hears : about1.hears theMethod below0 = true := by decide +kernel
set_option maxRecDepth 65536 in
theorem w_ripe : about1.ripe theMethod args0 below0 = true := by decide +kernel
theorem w_running : about1.status = .running := rfl
set_option maxRecDepth 65536 in
theorem w_room : about1.hasRoom e0.platform room_1 = true :=
  launch0.hasRoom_least _ room_1 (by decide +kernel) (by decide +kernel) (by decide +kernel) (by decide +kernel) (by decide +kernel) (by decide +kernel)
theorem allAtoms_all (ts : List Jvm.Cond) (a : Array Jvm.Value) (st : Jvm.State) : (allAtoms ts).before a st = ts.all (fun c => c.before a st) := by
  induction ts with
  | nil => rfl
  | cons c t ih =>
    show (Jvm.Cond.and c (allAtoms t)).before a st = _
    rw [Jvm.Cond.before_and, ih, List.all_cons]
def words1 : List Jvm.Cond := Jvm.Cond.code x code maxLocals ret :: tables_1
/-- a 'code' word, met by the world's own term for the bytes: nothing is compared byte by byte -/
theorem code_word {y : MethodName} {bytes : ByteArray} {mx : Nat} {rt : Option FieldType} {a : Array Value} {s : State} {m : MethodId} {meth : Method} {c : Code} (h1 : s.methodNamed? y = some m) (h2 : s.vm.method? m = some meth) (h3 : meth.code = some c) (h4 : c.code = bytes)
    (h5 : (c.maxLocals == mx && c.exceptionTable.isEmpty && decide (c.maxStack ≤ mostOperands) && decide (meth.sig.returnType = rt) && !meth.locks && decide (parseMethodDescriptor y.desc = some meth.sig)) = true) : (Jvm.Cond.code y bytes mx rt).before a s = true := by
  simp only [Bool.and_eq_true, beq_iff_eq, Bool.not_eq_true', decide_eq_true_eq] at h5
  obtain ⟨⟨⟨⟨⟨g1, g2⟩, g3⟩, g4⟩, g5⟩, g6⟩ := h5
  simp [Cond.before, Cond.holds, Cond.value, h1, h2, h3, h4, g1, g2, g3, g4, g5, g6]
def isCode : Jvm.Cond → Bool
  | .code _ _ _ _ => true
  | _ => false
theorem all_split {L : List Jvm.Cond} {P : Jvm.Cond → Bool} (h1 : L.all (fun c => isCode c || P c) = true) (h2 : ∀ c ∈ L.filter isCode, P c = true) : L.all P = true := by
  refine List.all_eq_true.mpr fun c hc => ?_
  have h := List.all_eq_true.mp h1 c hc
  rcases Bool.eq_false_or_eq_true (isCode c) with hi | hi
  · exact h2 c (List.mem_filter.mpr ⟨hc, hi⟩)
  · simpa [hi] using h
set_option maxRecDepth 65536 in
theorem w_c0 : (Jvm.Cond.code x code maxLocals ret).before args0 about1 = true := code_word (m := ⟨1, 5⟩) (meth := k1m5) (c := k1c5) (by decide +kernel) rfl rfl rfl (by decide +kernel)
set_option maxRecDepth 65536 in
theorem w_c1 : (Jvm.Cond.code ({ cls := "com/example/garter/garter/schema/TableNameEqualsPinLaw", name := "mk", desc := "(I)Ljava/lang/String;" } : Jvm.MethodName) method_4_code (5 : Nat) (Option.some (Jvm.ClassFile.FieldType.object "java/lang/String"))).before args0 about1 = true := code_word (m := ⟨1, 3⟩) (meth := k1m3) (c := k1c3) (by decide +kernel) rfl rfl rfl (by decide +kernel)
set_option maxRecDepth 65536 in
theorem w_c2 : (Jvm.Cond.code ({ cls := "com/example/garter/garter/schema/TableNameEqualsPinLaw", name := "ch", desc := "(I)C" } : Jvm.MethodName) method_2_code (2 : Nat) (Option.some Jvm.ClassFile.FieldType.char)).before args0 about1 = true := code_word (m := ⟨1, 1⟩) (meth := k1m1) (c := k1c1) (by decide +kernel) rfl rfl rfl (by decide +kernel)
set_option maxRecDepth 65536 in
theorem w_c3 : (Jvm.Cond.code ({ cls := "com/example/garter/garter/schema/TableNameEqualsPinLaw", name := "last", desc := "(C)C" } : Jvm.MethodName) method_3_code (1 : Nat) (Option.some Jvm.ClassFile.FieldType.char)).before args0 about1 = true := code_word (m := ⟨1, 2⟩) (meth := k1m2) (c := k1c2) (by decide +kernel) rfl rfl rfl (by decide +kernel)
set_option maxRecDepth 65536 in
theorem w_c4 : (Jvm.Cond.code ({ cls := "java/lang/String", name := "<init>", desc := "([C)V" } : Jvm.MethodName) jdk_42_method_3_code (2 : Nat) (Option.none : Option Jvm.ClassFile.FieldType)).before args0 about1 = true := code_word (m := ⟨7, 1⟩) (meth := k7m1) (c := k7c1) (by decide +kernel) rfl rfl rfl (by decide +kernel)
set_option maxRecDepth 65536 in
theorem w_c5 : (Jvm.Cond.code ({ cls := "java/lang/String", name := "<init>", desc := "([CIILjava/lang/Void;)V" } : Jvm.MethodName) jdk_42_method_149_code (6 : Nat) (Option.none : Option Jvm.ClassFile.FieldType)).before args0 about1 = true := code_word (m := ⟨7, 8⟩) (meth := k7m8) (c := k7c8) (by decide +kernel) rfl rfl rfl (by decide +kernel)
set_option maxRecDepth 65536 in
theorem w_c6 : (Jvm.Cond.code ({ cls := "java/lang/Object", name := "<init>", desc := "()V" } : Jvm.MethodName) object_method_1_code (1 : Nat) (Option.none : Option Jvm.ClassFile.FieldType)).before args0 about1 = true := code_word (m := ⟨0, 0⟩) (meth := k0m0) (c := k0c0) (by decide +kernel) rfl rfl rfl (by decide +kernel)
set_option maxRecDepth 65536 in
theorem w_c7 : (Jvm.Cond.code ({ cls := "java/lang/StringUTF16", name := "compress", desc := "([CII)[B" } : Jvm.MethodName) jdk_52_method_16_code (6 : Nat) (Option.some (Jvm.ClassFile.FieldType.array Jvm.ClassFile.FieldType.byte))).before args0 about1 = true := code_word (m := ⟨8, 2⟩) (meth := k8m2) (c := k8c2) (by decide +kernel) rfl rfl rfl (by decide +kernel)
set_option maxRecDepth 65536 in
theorem w_c8 : (Jvm.Cond.code ({ cls := "java/lang/StringUTF16", name := "compress", desc := "([CI[BII)I" } : Jvm.MethodName) jdk_52_method_21_code (7 : Nat) (Option.some Jvm.ClassFile.FieldType.int)).before args0 about1 = true := code_word (m := ⟨8, 3⟩) (meth := k8m3) (c := k8c3) (by decide +kernel) rfl rfl rfl (by decide +kernel)
set_option maxRecDepth 65536 in
theorem w_c9 : (Jvm.Cond.code ({ cls := "java/lang/StringUTF16", name := "coderFromArrayLen", desc := "([BI)B" } : Jvm.MethodName) jdk_52_method_15_code (2 : Nat) (Option.some Jvm.ClassFile.FieldType.byte)).before args0 about1 = true := code_word (m := ⟨8, 1⟩) (meth := k8m1) (c := k8c1) (by decide +kernel) rfl rfl rfl (by decide +kernel)
set_option maxRecDepth 65536 in
theorem w_c10 : (Jvm.Cond.code ({ cls := "com/example/garter/garter/schema/TableName", name := "<init>", desc := "(Ljava/lang/String;Ljava/lang/String;)V" } : Jvm.MethodName) prog_117_method_1_code (3 : Nat) (Option.none : Option Jvm.ClassFile.FieldType)).before args0 about1 = true := code_word (m := ⟨9, 0⟩) (meth := k9m0) (c := k9c0) (by decide +kernel) rfl rfl rfl (by decide +kernel)
set_option maxRecDepth 65536 in
theorem w_c11 : (Jvm.Cond.code ({ cls := "com/example/garter/garter/schema/TableName", name := "checkIdentifier", desc := "(Ljava/lang/String;Ljava/lang/String;)Ljava/lang/String;" } : Jvm.MethodName) prog_117_method_11_code (4 : Nat) (Option.some (Jvm.ClassFile.FieldType.object "java/lang/String"))).before args0 about1 = true := code_word (m := ⟨9, 2⟩) (meth := k9m2) (c := k9c2) (by decide +kernel) rfl rfl rfl (by decide +kernel)
set_option maxRecDepth 65536 in
theorem w_c12 : (Jvm.Cond.code ({ cls := "java/util/Objects", name := "requireNonNull", desc := "(Ljava/lang/Object;Ljava/lang/String;)Ljava/lang/Object;" } : Jvm.MethodName) jdk_31_method_11_code (2 : Nat) (Option.some (Jvm.ClassFile.FieldType.object "java/lang/Object"))).before args0 about1 = true := code_word (m := ⟨10, 1⟩) (meth := k10m1) (c := k10c1) (by decide +kernel) rfl rfl rfl (by decide +kernel)
set_option maxRecDepth 65536 in
theorem w_c13 : (Jvm.Cond.code ({ cls := "java/lang/String", name := "isEmpty", desc := "()Z" } : Jvm.MethodName) jdk_42_method_55_code (1 : Nat) (Option.some Jvm.ClassFile.FieldType.boolean)).before args0 about1 = true := code_word (m := ⟨7, 3⟩) (meth := k7m3) (c := k7c3) (by decide +kernel) rfl rfl rfl (by decide +kernel)
set_option maxRecDepth 65536 in
theorem w_c14 : (Jvm.Cond.code ({ cls := "java/lang/String", name := "length", desc := "()I" } : Jvm.MethodName) jdk_42_method_54_code (1 : Nat) (Option.some Jvm.ClassFile.FieldType.int)).before args0 about1 = true := code_word (m := ⟨7, 2⟩) (meth := k7m2) (c := k7c2) (by decide +kernel) rfl rfl rfl (by decide +kernel)
set_option maxRecDepth 65536 in
theorem w_c15 : (Jvm.Cond.code ({ cls := "java/lang/String", name := "coder", desc := "()B" } : Jvm.MethodName) jdk_42_method_152_code (1 : Nat) (Option.some Jvm.ClassFile.FieldType.byte)).before args0 about1 = true := code_word (m := ⟨7, 9⟩) (meth := k7m9) (c := k7c9) (by decide +kernel) rfl rfl rfl (by decide +kernel)
set_option maxRecDepth 65536 in
theorem w_c16 : (Jvm.Cond.code ({ cls := "java/lang/String", name := "endsWith", desc := "(Ljava/lang/String;)Z" } : Jvm.MethodName) jdk_42_method_77_code (2 : Nat) (Option.some Jvm.ClassFile.FieldType.boolean)).before args0 about1 = true := code_word (m := ⟨7, 7⟩) (meth := k7m7) (c := k7c7) (by decide +kernel) rfl rfl rfl (by decide +kernel)
set_option maxRecDepth 65536 in
theorem w_c17 : (Jvm.Cond.code ({ cls := "java/lang/String", name := "startsWith", desc := "(Ljava/lang/String;I)Z" } : Jvm.MethodName) jdk_42_method_75_code (8 : Nat) (Option.some Jvm.ClassFile.FieldType.boolean)).before args0 about1 = true := code_word (m := ⟨7, 6⟩) (meth := k7m6) (c := k7c6) (by decide +kernel) rfl rfl rfl (by decide +kernel)
set_option maxRecDepth 65536 in
theorem w_c18 : (Jvm.Cond.code ({ cls := "jdk/internal/util/ArraysSupport", name := "mismatch", desc := "([BI[BII)I" } : Jvm.MethodName) jdk_48_method_14_code (8 : Nat) (Option.some Jvm.ClassFile.FieldType.int)).before args0 about1 = true := code_word (m := ⟨11, 1⟩) (meth := k11m1) (c := k11c1) (by decide +kernel) rfl rfl rfl (by decide +kernel)
set_option maxRecDepth 65536 in
theorem w_c19 : (Jvm.Cond.code ({ cls := "java/lang/String", name := "charAt", desc := "(I)C" } : Jvm.MethodName) jdk_42_method_56_code (2 : Nat) (Option.some Jvm.ClassFile.FieldType.char)).before args0 about1 = true := code_word (m := ⟨7, 4⟩) (meth := k7m4) (c := k7c4) (by decide +kernel) rfl rfl rfl (by decide +kernel)
set_option maxRecDepth 65536 in
theorem w_c20 : (Jvm.Cond.code ({ cls := "java/lang/String", name := "isLatin1", desc := "()Z" } : Jvm.MethodName) jdk_42_method_154_code (1 : Nat) (Option.some Jvm.ClassFile.FieldType.boolean)).before args0 about1 = true := code_word (m := ⟨7, 10⟩) (meth := k7m10) (c := k7c10) (by decide +kernel) rfl rfl rfl (by decide +kernel)
set_option maxRecDepth 65536 in
theorem w_c21 : (Jvm.Cond.code ({ cls := "java/lang/StringLatin1", name := "charAt", desc := "([BI)C" } : Jvm.MethodName) jdk_43_method_2_code (2 : Nat) (Option.some Jvm.ClassFile.FieldType.char)).before args0 about1 = true := code_word (m := ⟨12, 1⟩) (meth := k12m1) (c := k12c1) (by decide +kernel) rfl rfl rfl (by decide +kernel)
set_option maxRecDepth 65536 in
theorem w_c22 : (Jvm.Cond.code ({ cls := "java/lang/String", name := "checkIndex", desc := "(II)V" } : Jvm.MethodName) jdk_42_method_155_code (2 : Nat) (Option.none : Option Jvm.ClassFile.FieldType)).before args0 about1 = true := code_word (m := ⟨7, 11⟩) (meth := k7m11) (c := k7c11) (by decide +kernel) rfl rfl rfl (by decide +kernel)
set_option maxRecDepth 65536 in
theorem w_c23 : (Jvm.Cond.code ({ cls := "jdk/internal/util/Preconditions", name := "checkIndex", desc := "(IILjava/util/function/BiFunction;)I" } : Jvm.MethodName) jdk_41_method_11_code (3 : Nat) (Option.some Jvm.ClassFile.FieldType.int)).before args0 about1 = true := code_word (m := ⟨13, 1⟩) (meth := k13m1) (c := k13c1) (by decide +kernel) rfl rfl rfl (by decide +kernel)
set_option maxRecDepth 65536 in
theorem w_c24 : (Jvm.Cond.code ({ cls := "java/lang/Character", name := "isSurrogate", desc := "(C)Z" } : Jvm.MethodName) jdk_89_method_16_code (1 : Nat) (Option.some Jvm.ClassFile.FieldType.boolean)).before args0 about1 = true := code_word (m := ⟨14, 0⟩) (meth := k14m0) (c := k14c0) (by decide +kernel) rfl rfl rfl (by decide +kernel)
set_option maxRecDepth 65536 in
theorem w_c25 : (Jvm.Cond.code ({ cls := "com/example/garter/garter/schema/TableNameEqualsPinLaw", name := "same", desc := "(Ljava/lang/String;Ljava/lang/String;)Z" } : Jvm.MethodName) method_5_code (2 : Nat) (Option.some Jvm.ClassFile.FieldType.boolean)).before args0 about1 = true := code_word (m := ⟨1, 4⟩) (meth := k1m4) (c := k1c4) (by decide +kernel) rfl rfl rfl (by decide +kernel)
set_option maxRecDepth 65536 in
theorem w_c26 : (Jvm.Cond.code ({ cls := "com/example/garter/garter/schema/TableName", name := "equals", desc := "(Ljava/lang/Object;)Z" } : Jvm.MethodName) prog_117_method_6_code (3 : Nat) (Option.some Jvm.ClassFile.FieldType.boolean)).before args0 about1 = true := code_word (m := ⟨9, 1⟩) (meth := k9m1) (c := k9c1) (by decide +kernel) rfl rfl rfl (by decide +kernel)
set_option maxRecDepth 65536 in
theorem w_c27 : (Jvm.Cond.code ({ cls := "java/lang/String", name := "equals", desc := "(Ljava/lang/Object;)Z" } : Jvm.MethodName) jdk_42_method_66_code (3 : Nat) (Option.some Jvm.ClassFile.FieldType.boolean)).before args0 about1 = true := code_word (m := ⟨7, 5⟩) (meth := k7m5) (c := k7c5) (by decide +kernel) rfl rfl rfl (by decide +kernel)
set_option maxRecDepth 65536 in
theorem w_c28 : (Jvm.Cond.code ({ cls := "java/lang/StringLatin1", name := "equals", desc := "([B[B)Z" } : Jvm.MethodName) jdk_43_method_13_code (3 : Nat) (Option.some Jvm.ClassFile.FieldType.boolean)).before args0 about1 = true := code_word (m := ⟨12, 2⟩) (meth := k12m2) (c := k12c2) (by decide +kernel) rfl rfl rfl (by decide +kernel)
def codes1 : List Jvm.Cond := [Jvm.Cond.code x code maxLocals ret, Jvm.Cond.code ({ cls := "com/example/garter/garter/schema/TableNameEqualsPinLaw", name := "mk", desc := "(I)Ljava/lang/String;" } : Jvm.MethodName) method_4_code (5 : Nat) (Option.some (Jvm.ClassFile.FieldType.object "java/lang/String")), Jvm.Cond.code ({ cls := "com/example/garter/garter/schema/TableNameEqualsPinLaw", name := "ch", desc := "(I)C" } : Jvm.MethodName) method_2_code (2 : Nat) (Option.some Jvm.ClassFile.FieldType.char), Jvm.Cond.code ({ cls := "com/example/garter/garter/schema/TableNameEqualsPinLaw", name := "last", desc := "(C)C" } : Jvm.MethodName) method_3_code (1 : Nat) (Option.some Jvm.ClassFile.FieldType.char), Jvm.Cond.code ({ cls := "java/lang/String", name := "<init>", desc := "([C)V" } : Jvm.MethodName) jdk_42_method_3_code (2 : Nat) (Option.none : Option Jvm.ClassFile.FieldType), Jvm.Cond.code ({ cls := "java/lang/String", name := "<init>", desc := "([CIILjava/lang/Void;)V" } : Jvm.MethodName) jdk_42_method_149_code (6 : Nat) (Option.none : Option Jvm.ClassFile.FieldType), Jvm.Cond.code ({ cls := "java/lang/Object", name := "<init>", desc := "()V" } : Jvm.MethodName) object_method_1_code (1 : Nat) (Option.none : Option Jvm.ClassFile.FieldType), Jvm.Cond.code ({ cls := "java/lang/StringUTF16", name := "compress", desc := "([CII)[B" } : Jvm.MethodName) jdk_52_method_16_code (6 : Nat) (Option.some (Jvm.ClassFile.FieldType.array Jvm.ClassFile.FieldType.byte)), Jvm.Cond.code ({ cls := "java/lang/StringUTF16", name := "compress", desc := "([CI[BII)I" } : Jvm.MethodName) jdk_52_method_21_code (7 : Nat) (Option.some Jvm.ClassFile.FieldType.int), Jvm.Cond.code ({ cls := "java/lang/StringUTF16", name := "coderFromArrayLen", desc := "([BI)B" } : Jvm.MethodName) jdk_52_method_15_code (2 : Nat) (Option.some Jvm.ClassFile.FieldType.byte), Jvm.Cond.code ({ cls := "com/example/garter/garter/schema/TableName", name := "<init>", desc := "(Ljava/lang/String;Ljava/lang/String;)V" } : Jvm.MethodName) prog_117_method_1_code (3 : Nat) (Option.none : Option Jvm.ClassFile.FieldType), Jvm.Cond.code ({ cls := "com/example/garter/garter/schema/TableName", name := "checkIdentifier", desc := "(Ljava/lang/String;Ljava/lang/String;)Ljava/lang/String;" } : Jvm.MethodName) prog_117_method_11_code (4 : Nat) (Option.some (Jvm.ClassFile.FieldType.object "java/lang/String")), Jvm.Cond.code ({ cls := "java/util/Objects", name := "requireNonNull", desc := "(Ljava/lang/Object;Ljava/lang/String;)Ljava/lang/Object;" } : Jvm.MethodName) jdk_31_method_11_code (2 : Nat) (Option.some (Jvm.ClassFile.FieldType.object "java/lang/Object")), Jvm.Cond.code ({ cls := "java/lang/String", name := "isEmpty", desc := "()Z" } : Jvm.MethodName) jdk_42_method_55_code (1 : Nat) (Option.some Jvm.ClassFile.FieldType.boolean), Jvm.Cond.code ({ cls := "java/lang/String", name := "length", desc := "()I" } : Jvm.MethodName) jdk_42_method_54_code (1 : Nat) (Option.some Jvm.ClassFile.FieldType.int), Jvm.Cond.code ({ cls := "java/lang/String", name := "coder", desc := "()B" } : Jvm.MethodName) jdk_42_method_152_code (1 : Nat) (Option.some Jvm.ClassFile.FieldType.byte), Jvm.Cond.code ({ cls := "java/lang/String", name := "endsWith", desc := "(Ljava/lang/String;)Z" } : Jvm.MethodName) jdk_42_method_77_code (2 : Nat) (Option.some Jvm.ClassFile.FieldType.boolean), Jvm.Cond.code ({ cls := "java/lang/String", name := "startsWith", desc := "(Ljava/lang/String;I)Z" } : Jvm.MethodName) jdk_42_method_75_code (8 : Nat) (Option.some Jvm.ClassFile.FieldType.boolean), Jvm.Cond.code ({ cls := "jdk/internal/util/ArraysSupport", name := "mismatch", desc := "([BI[BII)I" } : Jvm.MethodName) jdk_48_method_14_code (8 : Nat) (Option.some Jvm.ClassFile.FieldType.int), Jvm.Cond.code ({ cls := "java/lang/String", name := "charAt", desc := "(I)C" } : Jvm.MethodName) jdk_42_method_56_code (2 : Nat) (Option.some Jvm.ClassFile.FieldType.char), Jvm.Cond.code ({ cls := "java/lang/String", name := "isLatin1", desc := "()Z" } : Jvm.MethodName) jdk_42_method_154_code (1 : Nat) (Option.some Jvm.ClassFile.FieldType.boolean), Jvm.Cond.code ({ cls := "java/lang/StringLatin1", name := "charAt", desc := "([BI)C" } : Jvm.MethodName) jdk_43_method_2_code (2 : Nat) (Option.some Jvm.ClassFile.FieldType.char), Jvm.Cond.code ({ cls := "java/lang/String", name := "checkIndex", desc := "(II)V" } : Jvm.MethodName) jdk_42_method_155_code (2 : Nat) (Option.none : Option Jvm.ClassFile.FieldType), Jvm.Cond.code ({ cls := "jdk/internal/util/Preconditions", name := "checkIndex", desc := "(IILjava/util/function/BiFunction;)I" } : Jvm.MethodName) jdk_41_method_11_code (3 : Nat) (Option.some Jvm.ClassFile.FieldType.int), Jvm.Cond.code ({ cls := "java/lang/Character", name := "isSurrogate", desc := "(C)Z" } : Jvm.MethodName) jdk_89_method_16_code (1 : Nat) (Option.some Jvm.ClassFile.FieldType.boolean), Jvm.Cond.code ({ cls := "com/example/garter/garter/schema/TableNameEqualsPinLaw", name := "same", desc := "(Ljava/lang/String;Ljava/lang/String;)Z" } : Jvm.MethodName) method_5_code (2 : Nat) (Option.some Jvm.ClassFile.FieldType.boolean), Jvm.Cond.code ({ cls := "com/example/garter/garter/schema/TableName", name := "equals", desc := "(Ljava/lang/Object;)Z" } : Jvm.MethodName) prog_117_method_6_code (3 : Nat) (Option.some Jvm.ClassFile.FieldType.boolean), Jvm.Cond.code ({ cls := "java/lang/String", name := "equals", desc := "(Ljava/lang/Object;)Z" } : Jvm.MethodName) jdk_42_method_66_code (3 : Nat) (Option.some Jvm.ClassFile.FieldType.boolean), Jvm.Cond.code ({ cls := "java/lang/StringLatin1", name := "equals", desc := "([B[B)Z" } : Jvm.MethodName) jdk_43_method_13_code (3 : Nat) (Option.some Jvm.ClassFile.FieldType.boolean)]
set_option maxRecDepth 65536 in
theorem codes_eq : words1.filter isCode = codes1 := rfl
theorem w_codes : ∀ c ∈ words1.filter isCode, c.before args0 about1 = true := by
  rw [codes_eq]
  intro c hc
  simp only [codes1, List.mem_cons, List.not_mem_nil, or_false] at hc
  rcases hc with rfl | rfl | rfl | rfl | rfl | rfl | rfl | rfl | rfl | rfl | rfl | rfl | rfl | rfl | rfl | rfl | rfl | rfl | rfl | rfl | rfl | rfl | rfl | rfl | rfl | rfl | rfl | rfl | rfl
  · exact w_c0
  · exact w_c1
  · exact w_c2
  · exact w_c3
  · exact w_c4
  · exact w_c5
  · exact w_c6
  · exact w_c7
  · exact w_c8
  · exact w_c9
  · exact w_c10
  · exact w_c11
  · exact w_c12
  · exact w_c13
  · exact w_c14
  · exact w_c15
  · exact w_c16
  · exact w_c17
  · exact w_c18
  · exact w_c19
  · exact w_c20
  · exact w_c21
  · exact w_c22
  · exact w_c23
  · exact w_c24
  · exact w_c25
  · exact w_c26
  · exact w_c27
  · exact w_c28
set_option maxRecDepth 65536 in
theorem w_t1 : (words1.take 24).all (fun c => isCode c || c.before args0 about1) = true := by decide +kernel
set_option maxRecDepth 65536 in
theorem w_t2 : ((words1.drop 24).take 24).all (fun c => isCode c || c.before args0 about1) = true := by decide +kernel
set_option maxRecDepth 65536 in
theorem w_t3 : (((words1.drop 24).drop 24).take 24).all (fun c => isCode c || c.before args0 about1) = true := by decide +kernel
set_option maxRecDepth 65536 in
theorem w_t4 : ((((words1.drop 24).drop 24).drop 24).take 24).all (fun c => isCode c || c.before args0 about1) = true := by decide +kernel
set_option maxRecDepth 65536 in
theorem w_t5 : (((((words1.drop 24).drop 24).drop 24).drop 24).take 24).all (fun c => isCode c || c.before args0 about1) = true := by decide +kernel
set_option maxRecDepth 65536 in
theorem w_t6 : (((((words1.drop 24).drop 24).drop 24).drop 24).drop 24).all (fun c => isCode c || c.before args0 about1) = true := by decide +kernel
theorem w_tables : (allAtoms (Jvm.Cond.code x code maxLocals ret :: tables_1)).before args0 about1 = true := by
  rw [allAtoms_all]
  show words1.all (fun c => c.before args0 about1) = true
  refine all_split ?_ w_codes
  rw [← List.take_append_drop 24 words1, List.all_append, w_t1, ← List.take_append_drop 24 (words1.drop 24), List.all_append, w_t2, ← List.take_append_drop 24 ((words1.drop 24).drop 24), List.all_append, w_t3, ← List.take_append_drop 24 (((words1.drop 24).drop 24).drop 24), List.all_append, w_t4, ← List.take_append_drop 24 ((((words1.drop 24).drop 24).drop 24).drop 24), List.all_append, w_t5, w_t6]
  rfl
set_option maxRecDepth 65536 in
theorem w_rest : rest_1_c.before args0 about1 = true := by decide +kernel
set_option maxRecDepth 65536 in
theorem w_case : (Jvm.Cond.and given_1 narrow_1).before args0 about1 = true := by decide +kernel
set_option maxRecDepth 65536 in
theorem w_consts : constsHeld consts_1 about1 := Jvm.Lit.constsHeldB_iff.mp (by decide +kernel)
theorem w_applies : (headSpec (Jvm.Cond.code x code maxLocals ret :: tables_1) room_1).applies x e0.platform about1 = true :=
  (Spec.applies_iff w_frames).mpr ⟨w_running, w_runnable, w_alone, w_named, w_hears, w_ripe, w_room, w_tables⟩
theorem atStart : AtStart classFile x code maxLocals ret World_1 tables_1 room_1 Calls_1 rest_1 Pre_1 launch0 p0 e0 about1 theMethod args0 below0 :=
  ⟨lists_1, trivial, launch0.admits_env _ _ _, launch0.least_env, fairChoices_fair.cas, fairChoices_fair.clock, w_frames, w_args, w_heap, w_applies, ⟨w_consts, trivial⟩, w_rest, w_case⟩
end start1
theorem witness_1 : WitnessClaimed_1 := ⟨start1.p0, start1.e0, start1.about1, start1.theMethod, start1.args0, start1.below0, start1.atStart⟩
end Jvm.Pilot.@@N@@
