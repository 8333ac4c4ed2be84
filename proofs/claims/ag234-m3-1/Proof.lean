import JvmDerived
import JvmDerived.Pilot.@@N@@Statement
import JvmDerived.Pilot.@@N@@Code
set_option linter.unusedVariables false
set_option linter.unusedSimpArgs false
/- laws to paste: Road.backV, Road.eqW, Road.codOf (cut by pick.py; bodies as the Statement names them) -/
namespace Jvm.Pilot.@@N@@
namespace StrChars
open Jvm Sem ClassFile Op Lib Jvm.Stand Jvm.Free.XT Jvm.Free.ALB Jvm.Free.JM Jvm.Free
open Jvm.Lib.Cold (StaticIs)
/-- a char array whose places are chars -/
def Ch (a : Addr) (A : Cell) (U : State) : Prop := Arr .char a A U ∧ Typed .char A
theorem Ch.mv {a : Addr} {A : Cell} {U U' : State} (h : Ch a A U) (hal : U.vm.Alike U'.vm) (hh : U'.heap = U.heap) : Ch a A U' := ⟨h.1.mv hal hh, h.2⟩
theorem Ch.keep {a : Addr} {A : Cell} {U U' : State} (h : Ch a A U) (hal : U.vm.Alike U'.vm) (hk : U'.heap[a]? = some A) : Ch a A U' := ⟨h.1.keep hal hk, h.2⟩
/-- what place i of a char[]'s cell holds -/
def cv (A : Cell) (i : Nat) : Int32 := match A.slots[i]? with | some (.int x) => x | _ => 0
theorem Ch.get {a : Addr} {A : Cell} {U : State} (h : Ch a A U) {i : Nat} (hi : i < A.slots.size) : A.slots[i]? = some (.int (cv A i)) := by
  have e := Array.getElem?_eq_getElem hi
  have f := h.2 i _ e
  unfold cv; rw [e]
  generalize A.slots[i] = v at f
  cases v <;> simp [fits] at f ⊢
/-- the byte that i2b leaves of a char -/
def lo8 (x : Int32) : Int32 := x.toInt8.toInt32
theorem fits_lo8 (y : Int32) : fits .byte (.int (lo8 y)) = true := by
  have h1 := y.toInt8.le_toInt
  have h2 := y.toInt8.toInt_lt
  simp only [lo8, fits, Bool.and_eq_true, decide_eq_true_eq, Int32.le_iff_toInt_le, Int8.toInt_toInt32, show (-128 : Int32).toInt = -128 from by decide, show (127 : Int32).toInt = 127 from by decide]
  omega
/-- A' is A but that each place j of lo .. hi - 1 holds f j -/
def Laid (A A' : Cell) (lo hi : Nat) (f : Nat → Value) : Prop := A'.cls = A.cls ∧ A'.vm = A.vm ∧ A'.slots.size = A.slots.size ∧ ∀ i, A'.slots[i]? = if lo ≤ i ∧ i < hi then some (f i) else A.slots[i]?
theorem Laid.zero (A : Cell) (lo : Nat) (f : Nat → Value) : Laid A A lo (lo + 0) f := ⟨rfl, rfl, rfl, fun i => by rw [if_neg (by omega)]⟩
theorem Laid.step {A Ak : Cell} {lo k : Nat} {f : Nat → Value} {v : Value} (h : Laid A Ak lo k f) (hlo : lo ≤ k) (hk : k < Ak.slots.size) (hv : v = f k) : Laid A (Ak.setSlot k v) lo (k + 1) f := by
  refine ⟨h.1, h.2.1, by simpa [Cell.setSlot] using h.2.2.1, fun i => ?_⟩
  by_cases e : k = i
  · subst e; rw [Cell.slots_setSlot_self v hk, if_pos (by omega), hv]
  · rw [Cell.slots_setSlot_ne v e, h.2.2.2 i]
    by_cases q : lo ≤ i ∧ i < k
    · rw [if_pos q, if_pos (by omega)]
    · rw [if_neg q, if_neg (by omega)]
def U16 : String := "java/lang/StringUTF16"
namespace Cmp5
def yN : MethodName := ⟨"java/lang/StringUTF16", "compress", "([CI[BII)I"⟩
abbrev yB : ByteArray := jdk_52_method_21_code
theorem d0 : decode yB 0 = .ok (.iconst 0, 1) := by decide +kernel
theorem d1 : decode yB 1 = .ok (.istore 5, 2) := by decide +kernel
theorem d3 : decode yB 3 = .ok (.iload 5, 2) := by decide +kernel
theorem d5 : decode yB 5 = .ok (.iload 4, 2) := by decide +kernel
theorem d7 : decode yB 7 = .ok (.if_icmp (.ge) 37, 3) := by decide +kernel
theorem d10 : decode yB 10 = .ok (.aload_n 0, 1) := by decide +kernel
theorem d11 : decode yB 11 = .ok (.iload_n 1, 1) := by decide +kernel
theorem d12 : decode yB 12 = .ok (.caload, 1) := by decide +kernel
theorem d13 : decode yB 13 = .ok (.istore 6, 2) := by decide +kernel
theorem d15 : decode yB 15 = .ok (.iload 6, 2) := by decide +kernel
theorem d17 : decode yB 17 = .ok (.sipush 255, 3) := by decide +kernel
theorem d20 : decode yB 20 = .ok (.if_icmp (.le) 6, 3) := by decide +kernel
theorem d26 : decode yB 26 = .ok (.aload_n 2, 1) := by decide +kernel
theorem d27 : decode yB 27 = .ok (.iload_n 3, 1) := by decide +kernel
theorem d28 : decode yB 28 = .ok (.iload 6, 2) := by decide +kernel
theorem d30 : decode yB 30 = .ok (.i2b, 1) := by decide +kernel
theorem d31 : decode yB 31 = .ok (.bastore, 1) := by decide +kernel
theorem d32 : decode yB 32 = .ok (.iinc 1 1, 3) := by decide +kernel
theorem d35 : decode yB 35 = .ok (.iinc 3 1, 3) := by decide +kernel
theorem d38 : decode yB 38 = .ok (.iinc 5 1, 3) := by decide +kernel
theorem d41 : decode yB 41 = .ok (.goto (-38), 3) := by decide +kernel
theorem d44 : decode yB 44 = .ok (.iload 4, 2) := by decide +kernel
theorem d46 : decode yB 46 = .ok (.ireturn, 1) := by decide +kernel
def site : List Cond := []
def tab : Cond := tabOf yN yB 7 (some .int) site
def P (b : Addr) (A : Cell) (d : Addr) (B : Cell) (o q len : Nat) (args : Array Value) (s : State) : Prop := args = #[.ref b, .int (Int32.ofNat o), .ref d, .int (Int32.ofNat q), .int (Int32.ofNat len)] ∧ Ch b A s ∧ Arr .byte d B s ∧ b ≠ d ∧ o + len ≤ A.slots.size ∧ q + len ≤ B.slots.size ∧ ∀ i, i < len → ¬ 255 < cv A (o + i)
def E (b : Addr) (A : Cell) (d : Addr) (B : Cell) (o q len : Nat) (r : Option Value) (s u : State) : Prop := r = some (.int (Int32.ofNat len)) ∧ ∃ B', Put d B' s u ∧ Laid B B' q (q + len) (fun j => Value.int (lo8 (cv A (o + (j - q)))))
/-- no char of the range above 255: len; the places written hold each char's low byte -/
theorem law (l : Launch) (b : Addr) (A : Cell) (d : Addr) (B : Cell) (o q len : Nat) : Law l yN 5 5 0 0 yB 7 (some .int) site (P b A d B o q len) (E b A d B o q len) (copyLocs d q len) 0 0 := by
  refine Law.of_walk (plainFor_of_name (by decide +kernel)) (by decide +kernel) (by decide +kernel) (by decide) (fun _ _ h => by rw [h.1]; rfl) (fun _ U U' hal hh h => ⟨h.1, h.2.1.mv hal hh, h.2.2.1.mv hal hh, h.2.2.2⟩) (fun r U U' V V' h1 hal h2 h => ⟨h.1, h.2.elim fun B' q => ⟨B', q.1.mv h1 h2, q.2⟩⟩) ?_
  intro p e s m args below meth c s₁ X0 hexec hbytes hml hret hlk hnm hown hh0 W hP
  obtain ⟨rfl, hA, hB, hne, l1, l2, hp⟩ := hP
  have c1 : Steps p.tables e below (s₁.setTop (entryFrame m #[.ref b, .int (Int32.ofNat o), .ref d, .int (Int32.ofNat q), .int (Int32.ofNat len)] 7)) (s₁.setTop (mkF m 0 #[.val (.ref b), .val (.int (Int32.ofNat o)), .val (.ref d), .val (.int (Int32.ofNat q)), .val (.int (Int32.ofNat len)), .unset, .unset] [])) := entry rfl
  have hA0 := hA.1.mv X0.warmed.alike hh0
  have hB0 := hB.mv X0.warmed.alike hh0
  have a31 := hA.1.2.2.2
  have c2 : Steps p.tables e below (s₁.setTop (entryFrame m #[.ref b, .int (Int32.ofNat o), .ref d, .int (Int32.ofNat q), .int (Int32.ofNat len)] 7)) (s₁.setTop (mkF m 3 #[.val (.ref b), .val (.int (Int32.ofNat o)), .val (.ref d), .val (.int (Int32.ofNat q)), .val (.int (Int32.ofNat len)), .val (.int 0), .unset] [])) := c1.trans (by
    refine iconstV X0.here hexec rfl 0 (hb hbytes d0) (by decide) ?_
    refine XS.istore X0.here hexec rfl (hb hbytes d1) rfl rfl ?_
    exact Steps.refl _)
  have loop : ∀ (r i : Nat), i + r = len → ∀ (z : Slot), (z = .unset ∨ ∃ w, z = .val w ∧ w.category = 1) → ∀ (Tl : State) (Bk : Cell), Stand p l e { frames := 0, locals := 0, cells := 0, slots := 0 } s m #[.ref b, .int (Int32.ofNat o), .ref d, .int (Int32.ofNat q), .int (Int32.ofNat len)] below meth c Tl ([] ++ copyLocs d q i) 0 0 → Put d Bk s₁ Tl → Laid B Bk q (q + i) (fun j => Value.int (lo8 (cv A (o + (j - q))))) →
      Steps p.tables e below (s₁.setTop (entryFrame m #[.ref b, .int (Int32.ofNat o), .ref d, .int (Int32.ofNat q), .int (Int32.ofNat len)] 7)) (Tl.setTop (mkF m 3 #[.val (.ref b), .val (.int (Int32.ofNat (o + i))), .val (.ref d), .val (.int (Int32.ofNat (q + i))), .val (.int (Int32.ofNat len)), .val (.int (Int32.ofNat i)), z] [])) → ∃ (T' : State) (B' : Cell) (z' : Slot), Stand p l e { frames := 0, locals := 0, cells := 0, slots := 0 } s m #[.ref b, .int (Int32.ofNat o), .ref d, .int (Int32.ofNat q), .int (Int32.ofNat len)] below meth c T' ([] ++ copyLocs d q len) 0 0 ∧ Put d B' s₁ T' ∧ Laid B B' q (q + len) (fun j => Value.int (lo8 (cv A (o + (j - q))))) ∧
      Steps p.tables e below (s₁.setTop (entryFrame m #[.ref b, .int (Int32.ofNat o), .ref d, .int (Int32.ofNat q), .int (Int32.ofNat len)] 7)) (T'.setTop (mkF m 3 #[.val (.ref b), .val (.int (Int32.ofNat (o + len))), .val (.ref d), .val (.int (Int32.ofNat (q + len))), .val (.int (Int32.ofNat len)), .val (.int (Int32.ofNat len)), z'] [])) := by
    intro r
    induction r with
    | zero =>
      intro i hi z hz Tl Bk Xl pl fl cl
      have hil : i = len := by omega
      rw [hil] at Xl fl cl
      exact ⟨Tl, Bk, z, Xl, pl, fl, cl⟩
    | succ r ih =>
      intro i hi z hz Tl Bk Xl pl fl cl
      have all := X0.warmed.alike.symm.trans Xl.warmed.alike
      have hAl := hA0.keep all (pl.other hne hA0.1)
      have hBk := hB0.like all pl.1 fl.1 fl.2.1 fl.2.2.1
      have hlt : q + i < Bk.slots.size := by rw [fl.2.2.1]; omega
      have c3 : Steps p.tables e below (s₁.setTop (entryFrame m #[.ref b, .int (Int32.ofNat o), .ref d, .int (Int32.ofNat q), .int (Int32.ofNat len)] 7)) (Tl.setTop (mkF m 12 #[.val (.ref b), .val (.int (Int32.ofNat (o + i))), .val (.ref d), .val (.int (Int32.ofNat (q + i))), .val (.int (Int32.ofNat len)), .val (.int (Int32.ofNat i)), z] [.int (Int32.ofNat (o + i)), .ref b])) := cl.trans (by
        refine XS.iload Xl.here hexec rfl (hb hbytes d3) rfl ?_
        refine XS.iload Xl.here hexec rfl (hb hbytes d5) rfl ?_
        refine XS.icmpNo Xl.here hexec rfl (hb hbytes d7) rfl (ii_ge_f (lt32 (by omega) (by omega))) ?_
        refine XS.aloadN Xl.here hexec rfl (hb hbytes d10) rfl rfl ?_
        refine XS.iloadN Xl.here hexec rfl (hb hbytes d11) rfl ?_
        exact Steps.refl _)
      have c4 : Steps p.tables e below (s₁.setTop (entryFrame m #[.ref b, .int (Int32.ofNat o), .ref d, .int (Int32.ofNat q), .int (Int32.ofNat len)] 7)) (Tl.setTop (mkF m 13 #[.val (.ref b), .val (.int (Int32.ofNat (o + i))), .val (.ref d), .val (.int (Int32.ofNat (q + i))), .val (.int (Int32.ofNat len)), .val (.int (Int32.ofNat i)), z] [.int (cv A (o + i))])) := c3.trans (by
        refine Xl.aget hexec hAl rfl (hA.get (i := o + i) (by omega)) rfl rfl (hb hbytes d12) ?_
        exact Steps.refl _)
      have c5 : Steps p.tables e below (s₁.setTop (entryFrame m #[.ref b, .int (Int32.ofNat o), .ref d, .int (Int32.ofNat q), .int (Int32.ofNat len)] 7)) (Tl.setTop (mkF m 15 #[.val (.ref b), .val (.int (Int32.ofNat (o + i))), .val (.ref d), .val (.int (Int32.ofNat (q + i))), .val (.int (Int32.ofNat len)), .val (.int (Int32.ofNat i)), .val (.int (cv A (o + i)))] [])) := c4.trans (by
        refine XS.istoreS Xl.here hexec rfl (hb hbytes d13) rfl rfl hz ?_
        exact Steps.refl _)
      have c6 : Steps p.tables e below (s₁.setTop (entryFrame m #[.ref b, .int (Int32.ofNat o), .ref d, .int (Int32.ofNat q), .int (Int32.ofNat len)] 7)) (Tl.setTop (mkF m 31 #[.val (.ref b), .val (.int (Int32.ofNat (o + i))), .val (.ref d), .val (.int (Int32.ofNat (q + i))), .val (.int (Int32.ofNat len)), .val (.int (Int32.ofNat i)), .val (.int (cv A (o + i)))] [.int (lo8 (cv A (o + i))), .int (Int32.ofNat (q + i)), .ref d])) := c5.trans (by
        refine XS.iload Xl.here hexec rfl (hb hbytes d15) rfl ?_
        refine sipushV Xl.here hexec rfl 255 (hb hbytes d17) (by decide) ?_
        refine XS.icmpYes Xl.here hexec rfl (pc0 := 20) rfl (hb hbytes d20) rfl (ii_le_t (hp i (by omega))) (by decide) rfl ?_
        refine XS.aloadN Xl.here hexec rfl (hb hbytes d26) rfl rfl ?_
        refine XS.iloadN Xl.here hexec rfl (hb hbytes d27) rfl ?_
        refine XS.iload Xl.here hexec rfl (hb hbytes d28) rfl ?_
        refine i2b Xl.here hexec rfl (hb hbytes d30) rfl ?_
        exact Steps.refl _)
      obtain ⟨T7, X7, p7, st7⟩ := Xl.aput hexec hBk rfl hlt rfl (fits_lo8 (cv A (o + i))) (g := (mkF m 31 #[.val (.ref b), .val (.int (Int32.ofNat (o + i))), .val (.ref d), .val (.int (Int32.ofNat (q + i))), .val (.int (Int32.ofNat len)), .val (.int (Int32.ofNat i)), .val (.int (cv A (o + i)))] [.int (lo8 (cv A (o + i))), .int (Int32.ofNat (q + i)), .ref d])) rfl (rest := []) rfl (hb hbytes d31)
      have c8 : Steps p.tables e below (s₁.setTop (entryFrame m #[.ref b, .int (Int32.ofNat o), .ref d, .int (Int32.ofNat q), .int (Int32.ofNat len)] 7)) (T7.setTop (mkF m 32 #[.val (.ref b), .val (.int (Int32.ofNat (o + i))), .val (.ref d), .val (.int (Int32.ofNat (q + i))), .val (.int (Int32.ofNat len)), .val (.int (Int32.ofNat i)), .val (.int (cv A (o + i)))] [])) := c6.trans (st7 _ (Steps.refl _))
      have c9 : Steps p.tables e below (s₁.setTop (entryFrame m #[.ref b, .int (Int32.ofNat o), .ref d, .int (Int32.ofNat q), .int (Int32.ofNat len)] 7)) (T7.setTop (mkF m 3 #[.val (.ref b), .val (.int (Int32.ofNat (o + i) + 1)), .val (.ref d), .val (.int (Int32.ofNat (q + i) + 1)), .val (.int (Int32.ofNat len)), .val (.int (Int32.ofNat i + 1)), .val (.int (cv A (o + i)))] [])) := c8.trans (by
        refine iincV X7.here hexec rfl 1 (hb hbytes d32) (by decide) rfl rfl ?_
        refine iincV X7.here hexec rfl 1 (hb hbytes d35) (by decide) rfl rfl ?_
        refine iincV X7.here hexec rfl 1 (hb hbytes d38) (by decide) rfl rfl ?_
        refine XS.goto X7.here hexec rfl (pc0 := 41) rfl (hb hbytes d41) (by decide) rfl ?_
        exact Steps.refl _)
      have c10 : Steps p.tables e below (s₁.setTop (entryFrame m #[.ref b, .int (Int32.ofNat o), .ref d, .int (Int32.ofNat q), .int (Int32.ofNat len)] 7)) (T7.setTop (mkF m 3 #[.val (.ref b), .val (.int (Int32.ofNat (o + (i + 1)))), .val (.ref d), .val (.int (Int32.ofNat (q + (i + 1)))), .val (.int (Int32.ofNat len)), .val (.int (Int32.ofNat (i + 1))), .val (.int (cv A (o + i)))] [])) := by
        have := c9
        rw [succ32, succ32, succ32] at this
        exact this
      exact ih (i + 1) (by omega) _ (Or.inr ⟨_, rfl, rfl⟩) T7 _ (by rw [copyLocs_step, ← List.append_assoc]; exact X7) (pl.trans p7) (fl.step (by omega) hlt (by simp)) c10
  obtain ⟨T9, B9, z9, X9, p9, f9, g9⟩ := loop len 0 (by omega) .unset (Or.inl rfl) s₁ B (by simpa [copyLocs] using X0) ⟨hB0.1, fun _ _ => rfl, rfl⟩ (Laid.zero _ _ _) c2
  have c11 : Steps p.tables e below (s₁.setTop (entryFrame m #[.ref b, .int (Int32.ofNat o), .ref d, .int (Int32.ofNat q), .int (Int32.ofNat len)] 7)) (T9.setTop (mkF m 46 #[.val (.ref b), .val (.int (Int32.ofNat (o + len))), .val (.ref d), .val (.int (Int32.ofNat (q + len))), .val (.int (Int32.ofNat len)), .val (.int (Int32.ofNat len)), z9] [.int (Int32.ofNat len)])) := g9.trans (by
    refine XS.iload X9.here hexec rfl (hb hbytes d3) rfl ?_
    refine XS.iload X9.here hexec rfl (hb hbytes d5) rfl ?_
    refine XS.icmpYes X9.here hexec rfl (pc0 := 7) rfl (hb hbytes d7) rfl (ii_ge_t (nlt32 (by omega) (Nat.le_refl _))) (by decide) rfl ?_
    refine XS.iload X9.here hexec rfl (hb hbytes d44) rfl ?_
    exact Steps.refl _)
  exact ⟨T9, some (.int (Int32.ofNat len)), _, _, _, X9, by simp, rfl, rfl, (fun h => by cases h), ⟨rfl, B9, p9.from hh0, f9⟩, fun fs hl => c11.trans (X9.ireturnOut hexec hret rfl (Or.inl rfl) (hb hbytes d46) hl)⟩
end Cmp5
namespace Cmp3
def yN : MethodName := ⟨"java/lang/StringUTF16", "compress", "([CII)[B"⟩
abbrev yB : ByteArray := jdk_52_method_16_code
theorem d0 : decode yB 0 = .ok (.iload_n 2, 1) := by decide +kernel
theorem d1 : decode yB 1 = .ok (.newarray .byte, 2) := by decide +kernel
theorem d3 : decode yB 3 = .ok (.astore_n 3, 1) := by decide +kernel
theorem d4 : decode yB 4 = .ok (.aload_n 0, 1) := by decide +kernel
theorem d5 : decode yB 5 = .ok (.iload_n 1, 1) := by decide +kernel
theorem d6 : decode yB 6 = .ok (.aload_n 3, 1) := by decide +kernel
theorem d7 : decode yB 7 = .ok (.iconst 0, 1) := by decide +kernel
theorem d8 : decode yB 8 = .ok (.iload_n 2, 1) := by decide +kernel
theorem d9 : decode yB 9 = .ok (.invokestatic 115, 3) := by decide +kernel
theorem d12 : decode yB 12 = .ok (.istore 4, 2) := by decide +kernel
theorem d14 : decode yB 14 = .ok (.iload 4, 2) := by decide +kernel
theorem d16 : decode yB 16 = .ok (.iload_n 2, 1) := by decide +kernel
theorem d17 : decode yB 17 = .ok (.if_icmp (.eq) 40, 3) := by decide +kernel
theorem d57 : decode yB 57 = .ok (.aload_n 3, 1) := by decide +kernel
theorem d58 : decode yB 58 = .ok (.areturn, 1) := by decide +kernel
def site : List Cond := [.arrayClass .byte, Cmp5.tab] ++ staticW U16 115 Cmp5.yN
def tab : Cond := tabOf yN yB 6 (some (.array .byte)) site
def P (b : Addr) (A : Cell) (o len : Nat) (args : Array Value) (s : State) : Prop := args = #[.ref b, .int (Int32.ofNat o), .int (Int32.ofNat len)] ∧ Ch b A s ∧ o + len ≤ A.slots.size ∧ len ≤ 536870912 ∧ ∀ i, i < len → ¬ 255 < cv A (o + i)
def E (b : Addr) (A : Cell) (o len : Nat) (r : Option Value) (s u : State) : Prop := NewArr .byte "[B" len (fun j => .int (lo8 (cv A (o + j)))) r s u ∧ u.heap.size = s.heap.size + 1
/-- no char of the range above 255: a new byte[] of their low bytes -/
theorem law (l : Launch) (b : Addr) (A : Cell) (o len : Nat) : Law l yN 3 3 1 18 yB 6 (some (.array .byte)) site (P b A o len) (E b A o len) [] 1 len := by
  refine Law.of_walk (plainFor_of_name (by decide +kernel)) (by decide +kernel) (by decide +kernel) (by decide) (fun _ _ h => by rw [h.1]; rfl) (fun _ U U' hal hh h => ⟨h.1, h.2.1.mv hal hh, h.2.2⟩) (fun r U U' V V' h1 hal h2 h => ⟨NewArr.mv r U U' V V' h1 hal h2 h.1, by rw [h1, h2]; exact h.2⟩) ?_
  intro p e s m args below meth c s₁ X0 hexec hbytes hml hret hlk hnm hown hh0 W hP
  obtain ⟨rfl, hA, l1, l2, hp⟩ := hP
  have a31 := hA.1.2.2.2
  have c1 : Steps p.tables e below (s₁.setTop (entryFrame m #[.ref b, .int (Int32.ofNat o), .int (Int32.ofNat len)] 6)) (s₁.setTop (mkF m 0 #[.val (.ref b), .val (.int (Int32.ofNat o)), .val (.int (Int32.ofNat len)), .unset, .unset, .unset] [])) := entry rfl
  have c2 : Steps p.tables e below (s₁.setTop (entryFrame m #[.ref b, .int (Int32.ofNat o), .int (Int32.ofNat len)] 6)) (s₁.setTop (mkF m 1 #[.val (.ref b), .val (.int (Int32.ofNat o)), .val (.int (Int32.ofNat len)), .unset, .unset, .unset] [.int (Int32.ofNat len)])) := c1.trans (by
    refine XS.iloadN X0.here hexec rfl (hb hbytes d0) rfl ?_
    exact Steps.refl _)
  obtain ⟨T3, B3, X3, ba3, bs3, bv3, bh3, bf3, st3⟩ := X0.anew hexec (atype := .byte) (wk W (.arrayClass .byte)) rfl (by show len * 1 ≤ _; omega) (by omega) (g := (mkF m 1 #[.val (.ref b), .val (.int (Int32.ofNat o)), .val (.int (Int32.ofNat len)), .unset, .unset, .unset] [.int (Int32.ofNat len)])) rfl (hb hbytes d1) (rest := []) rfl (Nat.le_refl _) (by show 0 + len ≤ len; omega)
  rw [hh0] at ba3 st3
  have kp3 : XT.Kept s T3 := (XT.Kept.of_eq hh0).push bh3
  have hA3 := hA.keep X3.warmed.alike (kp3 _ _ hA.1.1)
  have hne : b ≠ s.heap.size := hA.1.ne
  have c4 : Steps p.tables e below (s₁.setTop (entryFrame m #[.ref b, .int (Int32.ofNat o), .int (Int32.ofNat len)] 6)) (T3.setTop (mkF m 3 #[.val (.ref b), .val (.int (Int32.ofNat o)), .val (.int (Int32.ofNat len)), .unset, .unset, .unset] [.ref s.heap.size])) := c2.trans (st3 _ (Steps.refl _))
  have c5 : Steps p.tables e below (s₁.setTop (entryFrame m #[.ref b, .int (Int32.ofNat o), .int (Int32.ofNat len)] 6)) (T3.setTop (mkF m 9 #[.val (.ref b), .val (.int (Int32.ofNat o)), .val (.int (Int32.ofNat len)), .val (.ref s.heap.size), .unset, .unset] [.int (Int32.ofNat len), .int 0, .ref s.heap.size, .int (Int32.ofNat o), .ref b])) := c4.trans (by
    refine XS.astoreN X3.here hexec rfl (hb hbytes d3) rfl rfl rfl ?_
    refine XS.aloadN X3.here hexec rfl (hb hbytes d4) rfl rfl ?_
    refine XS.iloadN X3.here hexec rfl (hb hbytes d5) rfl ?_
    refine XS.aloadN X3.here hexec rfl (hb hbytes d6) rfl rfl ?_
    refine iconstV X3.here hexec rfl 0 (hb hbytes d7) (by decide) ?_
    refine XS.iloadN X3.here hexec rfl (hb hbytes d8) rfl ?_
    exact Steps.refl _)
  obtain ⟨v6, T6, X6, E6, g6⟩ := X3.callS hexec (Cmp5.law l b A s.heap.size B3 o 0 len) hown (wks W (staticW U16 115 Cmp5.yN)) (wk W Cmp5.tab) (W := 0) (Nat.le_of_ble_eq_true rfl) (Nat.le_of_ble_eq_true rfl) (Nat.le_refl _) (by show 0 + len + 0 ≤ len; omega) (g := (mkF m 9 #[.val (.ref b), .val (.int (Int32.ofNat o)), .val (.int (Int32.ofNat len)), .val (.ref s.heap.size), .unset, .unset] [.int (Int32.ofNat len), .int (Int32.ofNat 0), .ref s.heap.size, .int (Int32.ofNat o), .ref b])) rfl (by rw [hml]; rfl) c5 (argsL := [.ref b, .int (Int32.ofNat o), .ref s.heap.size, .int (Int32.ofNat 0), .int (Int32.ofNat len)]) (rest := []) rfl rfl (by show 2 * 0 + 0 ≤ _; decide) (hb hbytes d9) (⟨rfl, hA3, ba3, hne, l1, by rw [bs3]; simp, hp⟩)
  obtain ⟨rfl, B6, p6, f6⟩ := E6
  have c7 : Steps p.tables e below (s₁.setTop (entryFrame m #[.ref b, .int (Int32.ofNat o), .int (Int32.ofNat len)] 6)) (T6.setTop (mkF m 12 #[.val (.ref b), .val (.int (Int32.ofNat o)), .val (.int (Int32.ofNat len)), .val (.ref s.heap.size), .unset, .unset] [.int (Int32.ofNat len)])) := g6
  have c8 : Steps p.tables e below (s₁.setTop (entryFrame m #[.ref b, .int (Int32.ofNat o), .int (Int32.ofNat len)] 6)) (T6.setTop (mkF m 58 #[.val (.ref b), .val (.int (Int32.ofNat o)), .val (.int (Int32.ofNat len)), .val (.ref s.heap.size), .val (.int (Int32.ofNat len)), .unset] [.ref s.heap.size])) := c7.trans (by
    refine XS.istore X6.here hexec rfl (hb hbytes d12) rfl rfl ?_
    refine XS.iload X6.here hexec rfl (hb hbytes d14) rfl ?_
    refine XS.iloadN X6.here hexec rfl (hb hbytes d16) rfl ?_
    refine XS.icmpYes X6.here hexec rfl (pc0 := 17) rfl (hb hbytes d17) rfl (ii_eq_t rfl) (by decide) rfl ?_
    refine XS.aloadN X6.here hexec rfl (hb hbytes d57) rfl rfl ?_
    exact Steps.refl _)
  have X8 := X6.wide (L' := []) (cells' := 1) (slots' := len) (fun x hx hlt => by
    simp only [List.nil_append, copyLocs, List.mem_map, List.mem_range] at hx
    obtain ⟨i, -, rfl⟩ := hx
    exact absurd hlt (Nat.lt_irrefl _)) (Nat.le_refl _) (by omega)
  exact ⟨T6, some (.ref s.heap.size), _, _, _, X8, rfl, rfl, rfl, (fun h => by cases h), ⟨⟨rfl, B6, ba3.like (X3.warmed.alike.symm.trans X6.warmed.alike) p6.1 f6.1 f6.2.1 f6.2.2.1, f6.2.1.trans bv3, by rw [X6.warmed.alike.findClass, f6.1]; exact bf3, by rw [f6.2.2.1, bs3]; simp, fun j hj => by rw [f6.2.2.2 j, if_pos (by omega)]; rfl, kp3.put p6 (Nat.le_refl _)⟩, by rw [p6.2.2, bh3, hh0]; simp⟩, fun fs hl => c8.trans (X8.areturnOut hexec rfl hret rfl (hb hbytes d58) hl)⟩
end Cmp3
namespace CodL
def yN : MethodName := ⟨"java/lang/StringUTF16", "coderFromArrayLen", "([BI)B"⟩
abbrev yB : ByteArray := jdk_52_method_15_code
theorem d0 : decode yB 0 = .ok (.iload_n 1, 1) := by decide +kernel
theorem d1 : decode yB 1 = .ok (.aload_n 0, 1) := by decide +kernel
theorem d2 : decode yB 2 = .ok (.arraylength, 1) := by decide +kernel
theorem d3 : decode yB 3 = .ok (.isub, 1) := by decide +kernel
theorem d4 : decode yB 4 = .ok (.bipush 31, 2) := by decide +kernel
theorem d6 : decode yB 6 = .ok (.iushr, 1) := by decide +kernel
theorem d7 : decode yB 7 = .ok (.i2b, 1) := by decide +kernel
theorem d8 : decode yB 8 = .ok (.ireturn, 1) := by decide +kernel
def site : List Cond := []
def tab : Cond := tabOf yN yB 2 (some .byte) site
def P (d : Addr) (B : Cell) (args : Array Value) (s : State) : Prop := args = #[.ref d, .int (Int32.ofNat B.slots.size)] ∧ Arr .byte d B s
def E (r : Option Value) (s u : State) : Prop := XT.PureE (some (.int 0)) r s u
/-- an array as long as the number of chars: LATIN1 -/
theorem law (l : Launch) (d : Addr) (B : Cell) : Law l yN 2 2 0 0 yB 2 (some .byte) site (P d B) E [] 0 0 := by
  refine Law.of_walk (plainFor_of_name (by decide +kernel)) (by decide +kernel) (by decide +kernel) (by decide) (fun _ _ h => by rw [h.1]; rfl) (fun _ U U' hal hh h => ⟨h.1, h.2.mv hal hh⟩) (fun r U U' V V' h1 hal h2 h => XT.PureE.mv r U U' V V' h1 hal h2 h) ?_
  intro p e s m args below meth c s₁ X0 hexec hbytes hml hret hlk hnm hown hh0 W hP
  obtain ⟨rfl, hB⟩ := hP
  have hB0 := hB.mv X0.warmed.alike hh0
  have c1 : Steps p.tables e below (s₁.setTop (entryFrame m #[.ref d, .int (Int32.ofNat B.slots.size)] 2)) (s₁.setTop (mkF m 0 #[.val (.ref d), .val (.int (Int32.ofNat B.slots.size))] [])) := entry rfl
  have c2 : Steps p.tables e below (s₁.setTop (entryFrame m #[.ref d, .int (Int32.ofNat B.slots.size)] 2)) (s₁.setTop (mkF m 2 #[.val (.ref d), .val (.int (Int32.ofNat B.slots.size))] [.ref d, .int (Int32.ofNat B.slots.size)])) := c1.trans (by
    refine XS.iloadN X0.here hexec rfl (hb hbytes d0) rfl ?_
    refine XS.aloadN X0.here hexec rfl (hb hbytes d1) rfl rfl ?_
    exact Steps.refl _)
  have c3 : Steps p.tables e below (s₁.setTop (entryFrame m #[.ref d, .int (Int32.ofNat B.slots.size)] 2)) (s₁.setTop (mkF m 8 #[.val (.ref d), .val (.int (Int32.ofNat B.slots.size))] [.int (lo8 (ushr (Int32.ofNat B.slots.size - Int32.ofNat B.slots.size) 31))])) := c2.trans (by
    refine X0.alen hexec hB0 rfl rfl (hb hbytes d2) ?_
    refine XS.isub X0.here hexec rfl (hb hbytes d3) rfl ?_
    refine bipushV X0.here hexec rfl 31 (hb hbytes d4) (by decide) ?_
    refine iushr X0.here hexec rfl (hb hbytes d6) rfl ?_
    refine i2b X0.here hexec rfl (hb hbytes d7) rfl ?_
    exact Steps.refl _)
  have e0 : lo8 (ushr (Int32.ofNat B.slots.size - Int32.ofNat B.slots.size) 31) = 0 := by rw [Int32.sub_self]; decide
  rw [e0] at c3
  exact ⟨s₁, some (.int 0), _, _, _, X0, rfl, rfl, rfl, (fun h => by cases h), ⟨rfl, hh0⟩, fun fs hl => c3.trans (X0.ireturnOut hexec hret rfl (Or.inr (Or.inr (Or.inl rfl))) (hb hbytes d8) hl)⟩
end CodL
/-- the String at a is Latin-1 over a new byte[] (the heap's one new cell): the low bytes of the len chars of A from o on; every cell but a is kept -/
def Got (a : Addr) (D : Cell) (fV fC : Field) (A : Cell) (o len : Nat) (r : Option Value) (s u : State) : Prop := r = none ∧ ∃ D' V : Cell, Blank "java/lang/String" a D' u ∧ Same D D' [fV.slot, fC.slot] ∧ D'.slots[fV.slot]? = some (.ref s.heap.size) ∧ D'.slots[fC.slot]? = some (.int 0) ∧ Arr .byte s.heap.size V u ∧ V.vm = .none ∧ u.vm.findClass "[B" = some V.cls ∧ V.slots.size = len ∧ (∀ j, j < len → V.slots[j]? = some (.int (lo8 (cv A (o + j))))) ∧ (∀ (y : Addr) (c : Cell), y ≠ a → s.heap[y]? = some c → u.heap[y]? = some c) ∧ u.heap.size = s.heap.size + 1
theorem Got.mv {a : Addr} {D A : Cell} {fV fC : Field} {o len : Nat} : ∀ r (U U' V V' : State), U'.heap = U.heap → V.vm.Alike V'.vm → V'.heap = V.heap → Got a D fV fC A o len r U V → Got a D fV fC A o len r U' V' :=
  fun r U U' V V' h1 hal h2 ⟨e0, D', X, a1, a2, a3, a4, a5, a6, a7, a8, a9, a10, a11⟩ => ⟨e0, D', X, a1.mv hal h2, a2, by rw [h1]; exact a3, a4, by rw [h1]; exact a5.mv hal h2, a6, by rw [hal.findClass]; exact a7, a8, a9, by rw [h1, h2]; exact a10, by rw [h1, h2]; exact a11⟩
namespace New4
def yN : MethodName := ⟨"java/lang/String", "<init>", "([CIILjava/lang/Void;)V"⟩
abbrev yB : ByteArray := jdk_42_method_149_code
theorem d0 : decode yB 0 = .ok (.aload_n 0, 1) := by decide +kernel
theorem d1 : decode yB 1 = .ok (.invokespecial 1, 3) := by decide +kernel
theorem d4 : decode yB 4 = .ok (.iload_n 3, 1) := by decide +kernel
theorem d5 : decode yB 5 = .ok (.ifCond (.ne) 22, 3) := by decide +kernel
theorem d27 : decode yB 27 = .ok (.getstatic 38, 3) := by decide +kernel
theorem d30 : decode yB 30 = .ok (.ifCond (.eq) 28, 3) := by decide +kernel
theorem d33 : decode yB 33 = .ok (.aload_n 1, 1) := by decide +kernel
theorem d34 : decode yB 34 = .ok (.iload_n 2, 1) := by decide +kernel
theorem d35 : decode yB 35 = .ok (.iload_n 3, 1) := by decide +kernel
theorem d36 : decode yB 36 = .ok (.invokestatic 177, 3) := by decide +kernel
theorem d39 : decode yB 39 = .ok (.astore 5, 2) := by decide +kernel
theorem d41 : decode yB 41 = .ok (.aload_n 0, 1) := by decide +kernel
theorem d42 : decode yB 42 = .ok (.aload 5, 2) := by decide +kernel
theorem d44 : decode yB 44 = .ok (.iload_n 3, 1) := by decide +kernel
theorem d45 : decode yB 45 = .ok (.invokestatic 47, 3) := by decide +kernel
theorem d48 : decode yB 48 = .ok (.putfield 15, 3) := by decide +kernel
theorem d51 : decode yB 51 = .ok (.aload_n 0, 1) := by decide +kernel
theorem d52 : decode yB 52 = .ok (.aload 5, 2) := by decide +kernel
theorem d54 : decode yB 54 = .ok (.putfield 9, 3) := by decide +kernel
theorem d57 : decode yB 57 = .ok (.return_, 1) := by decide +kernel
def site : List Cond := [.fieldLink "java/lang/String" 38 "java/lang/String" "COMPACT_STRINGS" "Z", Cmp3.tab, CodL.tab, .laysFinal "java/lang/String" "java/lang/String" "value" "[B", .fieldLink "java/lang/String" 9 "java/lang/String" "value" "[B", .laysFinal "java/lang/String" "java/lang/String" "coder" "B", .fieldLink "java/lang/String" 15 "java/lang/String" "coder" "B"] ++ objW "java/lang/String" 1 ++ staticW "java/lang/String" 177 Cmp3.yN ++ staticW "java/lang/String" 47 CodL.yN
def tab : Cond := tabOf yN yB 6 none site
def P (a : Addr) (D : Cell) (fV fC : Field) (b : Addr) (A : Cell) (z : Int32) (o len : Nat) (args : Array Value) (s : State) : Prop := args = #[.ref a, .ref b, .int (Int32.ofNat o), .int (Int32.ofNat len), .null] ∧ Blank "java/lang/String" a D s ∧ Found "java/lang/String" "value" "[B" fV s ∧ Found "java/lang/String" "coder" "B" fC s ∧ Ch b A s ∧ StaticIs s "java/lang/String" "COMPACT_STRINGS" "Z" (.int z) ∧ ¬ z = 0 ∧ 0 < len ∧ o + len ≤ A.slots.size ∧ len ≤ 536870912 ∧ ∀ i, i < len → ¬ 255 < cv A (o + i)
def E (a : Addr) (D : Cell) (fV fC : Field) (A : Cell) (o len : Nat) (r : Option Value) (s u : State) : Prop := Got a D fV fC A o len r s u
/-- len > 0, no char of the range above 255: a Latin-1 String of their low bytes -/
theorem law (l : Launch) (a : Addr) (D : Cell) (fV fC : Field) (b : Addr) (A : Cell) (z : Int32) (o len : Nat) : Law l yN 5 4 2 35 yB 6 none site (P a D fV fC b A z o len) (E a D fV fC A o len) [⟨a, fC.slot⟩, ⟨a, fV.slot⟩] 1 len := by
  refine Law.of_walk (plainFor_of_name (by decide +kernel)) (by decide +kernel) (by decide +kernel) (by decide) (fun _ _ h => by rw [h.1]; rfl) (fun _ U U' hal hh h => ⟨h.1, h.2.1.mv hal hh, h.2.2.1.al hal, h.2.2.2.1.al hal, h.2.2.2.2.1.mv hal hh, h.2.2.2.2.2.1.there hal hh, h.2.2.2.2.2.2⟩) (fun r U U' V V' h1 hal h2 h => Got.mv r U U' V V' h1 hal h2 h) ?_
  intro p e s m args below meth c s₁ X0 hexec hbytes hml hret hlk hnm hown hh0 W hP
  obtain ⟨rfl, hB, f1, f2, hA, s1, hz, l0, l1, l2, hp⟩ := hP
  have a31 := hA.1.2.2.2
  have c1 : Steps p.tables e below (s₁.setTop (entryFrame m #[.ref a, .ref b, .int (Int32.ofNat o), .int (Int32.ofNat len), .null] 6)) (s₁.setTop (mkF m 0 #[.val (.ref a), .val (.ref b), .val (.int (Int32.ofNat o)), .val (.int (Int32.ofNat len)), .val .null, .unset] [])) := entry rfl
  have c2 : Steps p.tables e below (s₁.setTop (entryFrame m #[.ref a, .ref b, .int (Int32.ofNat o), .int (Int32.ofNat len), .null] 6)) (s₁.setTop (mkF m 1 #[.val (.ref a), .val (.ref b), .val (.int (Int32.ofNat o)), .val (.int (Int32.ofNat len)), .val .null, .unset] [.ref a])) := c1.trans (by
    refine XS.aloadN X0.here hexec rfl (hb hbytes d0) rfl rfl ?_
    exact Steps.refl _)
  obtain ⟨T3, X3, q3, st3⟩ := X0.oinit hexec hown (wks W (objW "java/lang/String" 1)) (g := (mkF m 1 #[.val (.ref a), .val (.ref b), .val (.int (Int32.ofNat o)), .val (.int (Int32.ofNat len)), .val .null, .unset] [.ref a])) rfl (by rw [hml]; rfl) (rest := []) rfl (hb hbytes d1) (W := 0) (by show 2 * 0 + 0 ≤ _; decide) (Nat.le_of_ble_eq_true rfl) (Nat.le_of_ble_eq_true rfl)
  have hh3 := q3.trans hh0
  have c4 : Steps p.tables e below (s₁.setTop (entryFrame m #[.ref a, .ref b, .int (Int32.ofNat o), .int (Int32.ofNat len), .null] 6)) (T3.setTop (mkF m 27 #[.val (.ref a), .val (.ref b), .val (.int (Int32.ofNat o)), .val (.int (Int32.ofNat len)), .val .null, .unset] [])) := (c2.trans (st3 _ (Steps.refl _))).trans (by
    refine XS.iloadN X3.here hexec rfl (hb hbytes d4) rfl ?_
    refine XS.ifYes X3.here hexec rfl (pc0 := 5) rfl (hb hbytes d5) rfl (i0_ne_t (nz32 (by omega) l0)) (by decide) rfl ?_
    exact Steps.refl _)
  obtain ⟨T5, X5, q5, st5⟩ := X3.sget hexec hown (wk W (.fieldLink "java/lang/String" 38 "java/lang/String" "COMPACT_STRINGS" "Z")) s1 (fun _ _ h => by rw [hh3]; exact h) (g := (mkF m 27 #[.val (.ref a), .val (.ref b), .val (.int (Int32.ofNat o)), .val (.int (Int32.ofNat len)), .val .null, .unset] [])) rfl (hb hbytes d27)
  have hh5 := q5.trans hh3
  have c6 : Steps p.tables e below (s₁.setTop (entryFrame m #[.ref a, .ref b, .int (Int32.ofNat o), .int (Int32.ofNat len), .null] 6)) (T5.setTop (mkF m 30 #[.val (.ref a), .val (.ref b), .val (.int (Int32.ofNat o)), .val (.int (Int32.ofNat len)), .val .null, .unset] [.int z])) := c4.trans (st5 _ (Steps.refl _))
  have c7 : Steps p.tables e below (s₁.setTop (entryFrame m #[.ref a, .ref b, .int (Int32.ofNat o), .int (Int32.ofNat len), .null] 6)) (T5.setTop (mkF m 36 #[.val (.ref a), .val (.ref b), .val (.int (Int32.ofNat o)), .val (.int (Int32.ofNat len)), .val .null, .unset] [.int (Int32.ofNat len), .int (Int32.ofNat o), .ref b])) := c6.trans (by
    refine XS.ifNo X5.here hexec rfl (hb hbytes d30) rfl (i0_eq_f hz) ?_
    refine XS.aloadN X5.here hexec rfl (hb hbytes d33) rfl rfl ?_
    refine XS.iloadN X5.here hexec rfl (hb hbytes d34) rfl ?_
    refine XS.iloadN X5.here hexec rfl (hb hbytes d35) rfl ?_
    exact Steps.refl _)
  obtain ⟨v8, T8, X8, E8, g8⟩ := X5.callS hexec (Cmp3.law l b A o len) hown (wks W (staticW "java/lang/String" 177 Cmp3.yN)) (wk W Cmp3.tab) (W := 0) (Nat.le_of_ble_eq_true rfl) (Nat.le_of_ble_eq_true rfl) (Nat.le_refl _) (by show 0 + len ≤ len; omega) (g := (mkF m 36 #[.val (.ref a), .val (.ref b), .val (.int (Int32.ofNat o)), .val (.int (Int32.ofNat len)), .val .null, .unset] [.int (Int32.ofNat len), .int (Int32.ofNat o), .ref b])) rfl (by rw [hml]; rfl) c7 (argsL := [.ref b, .int (Int32.ofNat o), .int (Int32.ofNat len)]) (rest := []) rfl rfl (by show 2 * 0 + 0 ≤ _; decide) (hb hbytes d36) (⟨rfl, hA.mv X5.warmed.alike hh5, l1, l2, hp⟩)
  obtain ⟨e8, z8⟩ := E8
  obtain ⟨rfl, N, n1, n2, n3, n4, n5, n6⟩ := NewArr.mv _ T5 s _ _ hh5.symm (Vm.Alike.refl _) rfl e8
  rw [hh5] at z8
  have hB1 := hB.keep X8.warmed.alike (n6 _ _ hB.1)
  have hne : s.heap.size ≠ a := (Nat.ne_of_lt (Array.getElem?_eq_some_iff.mp hB.1).1).symm
  have c9 : Steps p.tables e below (s₁.setTop (entryFrame m #[.ref a, .ref b, .int (Int32.ofNat o), .int (Int32.ofNat len), .null] 6)) (T8.setTop (mkF m 39 #[.val (.ref a), .val (.ref b), .val (.int (Int32.ofNat o)), .val (.int (Int32.ofNat len)), .val .null, .unset] [.ref s.heap.size])) := g8
  have c10 : Steps p.tables e below (s₁.setTop (entryFrame m #[.ref a, .ref b, .int (Int32.ofNat o), .int (Int32.ofNat len), .null] 6)) (T8.setTop (mkF m 45 #[.val (.ref a), .val (.ref b), .val (.int (Int32.ofNat o)), .val (.int (Int32.ofNat len)), .val .null, .val (.ref s.heap.size)] [.int (Int32.ofNat N.slots.size), .ref s.heap.size, .ref a])) := by
    have hc : Steps p.tables e below (s₁.setTop (entryFrame m #[.ref a, .ref b, .int (Int32.ofNat o), .int (Int32.ofNat len), .null] 6)) (T8.setTop (mkF m 45 #[.val (.ref a), .val (.ref b), .val (.int (Int32.ofNat o)), .val (.int (Int32.ofNat len)), .val .null, .val (.ref s.heap.size)] [.int (Int32.ofNat len), .ref s.heap.size, .ref a])) := c9.trans (by
      refine XS.astore X8.here hexec rfl (hb hbytes d39) rfl rfl rfl ?_
      refine XS.aloadN X8.here hexec rfl (hb hbytes d41) rfl rfl ?_
      refine XS.aload X8.here hexec rfl (hb hbytes d42) rfl rfl ?_
      refine XS.iloadN X8.here hexec rfl (hb hbytes d44) rfl ?_
      exact Steps.refl _)
    rw [n4]; exact hc
  obtain ⟨v11, T11, X11, E11, g11⟩ := X8.callS hexec (CodL.law l s.heap.size N) hown (wks W (staticW "java/lang/String" 47 CodL.yN)) (wk W CodL.tab) (W := 1) (Nat.le_of_ble_eq_true rfl) (Nat.le_of_ble_eq_true rfl) (Nat.le_refl _) (by show 0 + len + 0 ≤ len; omega) (g := (mkF m 45 #[.val (.ref a), .val (.ref b), .val (.int (Int32.ofNat o)), .val (.int (Int32.ofNat len)), .val .null, .val (.ref s.heap.size)] [.int (Int32.ofNat N.slots.size), .ref s.heap.size, .ref a])) rfl (by rw [hml]; rfl) c10 (argsL := [.ref s.heap.size, .int (Int32.ofNat N.slots.size)]) (rest := [.ref a]) rfl rfl (by show 2 * 0 + (1 + 0) ≤ _; decide) (hb hbytes d45) (⟨rfl, n1⟩)
  obtain ⟨rfl, q11⟩ := E11
  have hB11 := hB1.mv (X8.warmed.alike.symm.trans X11.warmed.alike) q11
  have c12 : Steps p.tables e below (s₁.setTop (entryFrame m #[.ref a, .ref b, .int (Int32.ofNat o), .int (Int32.ofNat len), .null] 6)) (T11.setTop (mkF m 48 #[.val (.ref a), .val (.ref b), .val (.int (Int32.ofNat o)), .val (.int (Int32.ofNat len)), .val .null, .val (.ref s.heap.size)] [.int 0, .ref a])) := g11
  obtain ⟨T13, X13, p13, bl13, sl13, st13⟩ := X11.finit hexec hown (wk W (.fieldLink "java/lang/String" 15 "java/lang/String" "coder" "B")) (Or.inr ⟨_, (wk W (.laysFinal "java/lang/String" "java/lang/String" "coder" "B"))⟩) (Or.inl ⟨rfl, hnm⟩) f2 (Or.inl rfl) hB11 (t := .byte) (by decide +kernel) rfl (g := (mkF m 48 #[.val (.ref a), .val (.ref b), .val (.int (Int32.ofNat o)), .val (.int (Int32.ofNat len)), .val .null, .val (.ref s.heap.size)] [.int 0, .ref a])) rfl (rest := []) rfl (hb hbytes d48)
  have c14 : Steps p.tables e below (s₁.setTop (entryFrame m #[.ref a, .ref b, .int (Int32.ofNat o), .int (Int32.ofNat len), .null] 6)) (T13.setTop (mkF m 54 #[.val (.ref a), .val (.ref b), .val (.int (Int32.ofNat o)), .val (.int (Int32.ofNat len)), .val .null, .val (.ref s.heap.size)] [.ref s.heap.size, .ref a])) := (c12.trans (st13 _ (Steps.refl _))).trans (by
    refine XS.aloadN X13.here hexec rfl (hb hbytes d51) rfl rfl ?_
    refine XS.aload X13.here hexec rfl (hb hbytes d52) rfl rfl ?_
    exact Steps.refl _)
  obtain ⟨T15, X15, p15, bl15, sl15, st15⟩ := X13.finit hexec hown (wk W (.fieldLink "java/lang/String" 9 "java/lang/String" "value" "[B")) (Or.inr ⟨_, (wk W (.laysFinal "java/lang/String" "java/lang/String" "value" "[B"))⟩) (Or.inl ⟨rfl, hnm⟩) f1 (Or.inl rfl) bl13 (t := (.array .byte)) (by decide +kernel) rfl (g := (mkF m 54 #[.val (.ref a), .val (.ref b), .val (.int (Int32.ofNat o)), .val (.int (Int32.ofNat len)), .val .null, .val (.ref s.heap.size)] [.ref s.heap.size, .ref a])) rfl (rest := []) rfl (hb hbytes d54)
  have c16 : Steps p.tables e below (s₁.setTop (entryFrame m #[.ref a, .ref b, .int (Int32.ofNat o), .int (Int32.ofNat len), .null] 6)) (T15.setTop (mkF m 57 #[.val (.ref a), .val (.ref b), .val (.int (Int32.ofNat o)), .val (.int (Int32.ofNat len)), .val .null, .val (.ref s.heap.size)] [])) := c14.trans (st15 _ (Steps.refl _))
  have ap := apart (Or.inr ⟨_, (wk W (.laysFinal "java/lang/String" "java/lang/String" "value" "[B"))⟩) (Or.inr ⟨_, (wk W (.laysFinal "java/lang/String" "java/lang/String" "coder" "B"))⟩) f1 f2 (t₁ := .array .byte) (t₂ := .byte) (by decide +kernel) (by decide +kernel) (by decide)
  have al := X8.warmed.alike.symm.trans X15.warmed.alike
  have n7 : T11.heap[s.heap.size]? = some N := by rw [q11]; exact n1.1
  exact ⟨T15, none, _, _, _, X15, by simp, rfl, by omega, (fun _ => rfl), ⟨rfl, _, N, bl15, ((Same.refl D _).set _ (by simp)).set _ (by simp), sl15, (Cell.slots_setSlot_ne _ ap).trans sl13, n1.keep al (p15.other hne (p13.other hne n7)), n2, by rw [al.findClass]; exact n3, n4, n5, fun y c h1 h2 => p15.other h1 (p13.other h1 (by rw [q11]; exact n6 y c h2)), by rw [p15.2.2, p13.2.2, q11]; exact z8⟩, fun fs hl => c16.trans (X15.returnOut hexec hret (hb hbytes d57) hl)⟩
end New4
namespace New1
def yN : MethodName := ⟨"java/lang/String", "<init>", "([C)V"⟩
abbrev yB : ByteArray := jdk_42_method_3_code
theorem d0 : decode yB 0 = .ok (.aload_n 0, 1) := by decide +kernel
theorem d1 : decode yB 1 = .ok (.aload_n 1, 1) := by decide +kernel
theorem d2 : decode yB 2 = .ok (.iconst 0, 1) := by decide +kernel
theorem d3 : decode yB 3 = .ok (.aload_n 1, 1) := by decide +kernel
theorem d4 : decode yB 4 = .ok (.arraylength, 1) := by decide +kernel
theorem d5 : decode yB 5 = .ok (.aconst_null, 1) := by decide +kernel
theorem d6 : decode yB 6 = .ok (.invokespecial 27, 3) := by decide +kernel
theorem d9 : decode yB 9 = .ok (.return_, 1) := by decide +kernel
def site : List Cond := [New4.tab] ++ initW "java/lang/String" 27 New4.yN
def tab : Cond := tabOf yN yB 2 none site
def P (a : Addr) (D : Cell) (fV fC : Field) (b : Addr) (A : Cell) (z : Int32) (args : Array Value) (s : State) : Prop := args = #[.ref a, .ref b] ∧ Blank "java/lang/String" a D s ∧ Found "java/lang/String" "value" "[B" fV s ∧ Found "java/lang/String" "coder" "B" fC s ∧ Ch b A s ∧ StaticIs s "java/lang/String" "COMPACT_STRINGS" "Z" (.int z) ∧ ¬ z = 0 ∧ 0 < A.slots.size ∧ A.slots.size ≤ 536870912 ∧ ∀ i, i < A.slots.size → ¬ 255 < cv A i
def E (a : Addr) (D : Cell) (fV fC : Field) (A : Cell) (r : Option Value) (s u : State) : Prop := Got a D fV fC A 0 A.slots.size r s u
/-- new String(chars), not empty, no char above 255: a Latin-1 String of their low bytes -/
theorem law (l : Launch) (a : Addr) (D : Cell) (fV fC : Field) (b : Addr) (A : Cell) (z : Int32) : Law l yN 2 1 3 52 yB 2 none site (P a D fV fC b A z) (E a D fV fC A) [⟨a, fC.slot⟩, ⟨a, fV.slot⟩] 1 A.slots.size := by
  refine Law.of_walk (plainFor_of_name (by decide +kernel)) (by decide +kernel) (by decide +kernel) (by decide) (fun _ _ h => by rw [h.1]; rfl) (fun _ U U' hal hh h => ⟨h.1, h.2.1.mv hal hh, h.2.2.1.al hal, h.2.2.2.1.al hal, h.2.2.2.2.1.mv hal hh, h.2.2.2.2.2.1.there hal hh, h.2.2.2.2.2.2⟩) (fun r U U' V V' h1 hal h2 h => Got.mv r U U' V V' h1 hal h2 h) ?_
  intro p e s m args below meth c s₁ X0 hexec hbytes hml hret hlk hnm hown hh0 W hP
  obtain ⟨rfl, hB, f1, f2, hA, s1, hz, l0, l2, hp⟩ := hP
  have c1 : Steps p.tables e below (s₁.setTop (entryFrame m #[.ref a, .ref b] 2)) (s₁.setTop (mkF m 0 #[.val (.ref a), .val (.ref b)] [])) := entry rfl
  have c2 : Steps p.tables e below (s₁.setTop (entryFrame m #[.ref a, .ref b] 2)) (s₁.setTop (mkF m 6 #[.val (.ref a), .val (.ref b)] [.null, .int (Int32.ofNat A.slots.size), .int 0, .ref b, .ref a])) := c1.trans (by
    refine XS.aloadN X0.here hexec rfl (hb hbytes d0) rfl rfl ?_
    refine XS.aloadN X0.here hexec rfl (hb hbytes d1) rfl rfl ?_
    refine iconstV X0.here hexec rfl 0 (hb hbytes d2) (by decide) ?_
    refine XS.aloadN X0.here hexec rfl (hb hbytes d3) rfl rfl ?_
    refine X0.alen hexec (hA.1.mv X0.warmed.alike hh0) rfl rfl (hb hbytes d4) ?_
    refine XS.aconstNull X0.here hexec rfl (hb hbytes d5) ?_
    exact Steps.refl _)
  obtain ⟨v3, T3, X3, E3, g3⟩ := X0.callN hexec (New4.law l a D fV fC b A z 0 A.slots.size) rfl hown (wks W (initW "java/lang/String" 27 New4.yN)) (W New4.tab (by simp only [site, List.mem_cons, List.mem_append, true_or, or_true])) (W := 0) (Nat.le_of_ble_eq_true rfl) (Nat.le_of_ble_eq_true rfl) (Nat.le_refl _) (by show 0 + A.slots.size ≤ A.slots.size; omega) (g := (mkF m 6 #[.val (.ref a), .val (.ref b)] [.null, .int (Int32.ofNat A.slots.size), .int (Int32.ofNat 0), .ref b, .ref a])) rfl (by rw [hml]; rfl) c2 (argsL := [.ref b, .int (Int32.ofNat 0), .int (Int32.ofNat A.slots.size), .null]) (rest := []) rfl rfl (by show 2 * 0 + 0 ≤ _; decide) (hb hbytes d6) (⟨rfl, hB.mv X0.warmed.alike hh0, f1.al X0.warmed.alike, f2.al X0.warmed.alike, hA.mv X0.warmed.alike hh0, s1.there X0.warmed.alike hh0, hz, l0, by omega, l2, fun i hi => by rw [Nat.zero_add]; exact hp i hi⟩)
  have e0 := Got.mv _ s₁ s _ _ hh0.symm (Vm.Alike.refl _) rfl E3
  obtain rfl := e0.1
  have c4 : Steps p.tables e below (s₁.setTop (entryFrame m #[.ref a, .ref b] 2)) (T3.setTop (mkF m 9 #[.val (.ref a), .val (.ref b)] [])) := g3
  exact ⟨T3, none, _, _, _, X3, by simp, rfl, by omega, (fun _ => rfl), e0, fun fs hl => c4.trans (X3.returnOut hexec hret (hb hbytes d9) hl)⟩
theorem pays {l : Launch} {R : Room} {p : Program} {e : Env} {below : List Frame} {s : State} {sargs : Array Value} {len W : Nat} (a : Addr) (D : Cell) (fV fC : Field) (b : Addr) (A : Cell) (z : Int32) (htab : tab.before sargs s = true) (hfr : 4 ≤ R.frames) (hlo : W + 65 ≤ R.locals) :
    Back l R p e below s sargs yN len W (fun A₁ a₁ => A₁.cells + 1 ≤ R.cells ∧ A₁.slots + A.slots.size ≤ R.slots ∧ P a D fV fC b A z a₁ A₁.U) (fun A₁ _ v₁ B₁ => E a D fV fC A v₁ A₁.U B₁.U ∧ B₁.locs = A₁.locs ++ [⟨a, fC.slot⟩, ⟨a, fV.slot⟩] ∧ B₁.cells = A₁.cells + 1 ∧ B₁.slots = A₁.slots + A.slots.size) :=
  (law l a D fV fC b A z).pays htab hfr (by omega)
end New1
/-- the byte, read back as charAt reads it, is the char -/
theorem lo8_mask {x : Int32} (h0 : ¬ x < 0) (h1 : ¬ 255 < x) : lo8 x &&& 255 = x := by
  have t : ∀ k : Fin 256, lo8 (Int32.ofNat k.val) &&& 255 = Int32.ofNat k.val := by decide +kernel
  rw [Int32.lt_iff_toInt_lt] at h0 h1
  have e0 : (0 : Int32).toInt = 0 := rfl
  have e1 : (255 : Int32).toInt = 255 := rfl
  obtain ⟨k, hk⟩ : ∃ k : Nat, x.toInt = k := ⟨x.toInt.toNat, by omega⟩
  have hx : x = Int32.ofNat k := Int32.toInt_inj.mp (by rw [hk, Int32.toInt_ofNat_small (by omega)])
  rw [hx]
  exact t ⟨k, by omega⟩
end StrChars
namespace StrChars.Road
open Jvm Sem ClassFile Op Lib Jvm.Stand Jvm.Free Jvm.Free.XT
open Jvm.Lib.Cold (StaticIs)
abbrev ST : String := "java/lang/String"
/-- every table word that New1's law asks, flat -/
abbrev words : List Jvm.Cond := [.code New1.yN New1.yB 2 none, .initialized ST, .methodLink ST 27 New4.yN, .instanceMethod New4.yN,
  .code New4.yN New4.yB 6 none, .fieldLink ST 38 ST "COMPACT_STRINGS" "Z", .laysFinal ST ST "value" "[B", .fieldLink ST 9 ST "value" "[B", .laysFinal ST ST "coder" "B", .fieldLink ST 15 ST "coder" "B",
  .methodLink ST 1 Lib.objectInit, .instanceMethod Lib.objectInit, .code Lib.objectInit ⟨#[0xb1]⟩ 1 none, .methodLink ST 177 Cmp3.yN, .static Cmp3.yN, .methodLink ST 47 CodL.yN, .static CodL.yN,
  .code Cmp3.yN Cmp3.yB 6 (some (.array .byte)), .initialized U16, .arrayClass .byte, .methodLink U16 115 Cmp5.yN, .static Cmp5.yN, .code Cmp5.yN Cmp5.yB 7 (some .int), .code CodL.yN CodL.yB 2 (some .byte)]
theorem tab_of {a : Array Value} {s : State} (h : ∀ w ∈ words, w.before a s = true) : New1.tab.before a s = true := by
  have h5 : Cmp5.tab.before a s = true := unparts (wk h (.code Cmp5.yN Cmp5.yB 7 (some .int))) (wks h (.initialized Cmp5.yN.cls :: Cmp5.site))
  have hc : CodL.tab.before a s = true := unparts (wk h (.code CodL.yN CodL.yB 2 (some .byte))) (wks h (.initialized CodL.yN.cls :: CodL.site))
  have q5 : ∀ w ∈ Cmp5.tab :: words, w.before a s = true := fun w hw => (List.mem_cons.mp hw).elim (fun e => e ▸ h5) (h w)
  have h3 : Cmp3.tab.before a s = true := unparts (wk q5 (.code Cmp3.yN Cmp3.yB 6 (some (.array .byte)))) (wks q5 (.initialized Cmp3.yN.cls :: Cmp3.site))
  have q3 : ∀ w ∈ Cmp3.tab :: CodL.tab :: words, w.before a s = true := fun w hw => (List.mem_cons.mp hw).elim (fun e => e ▸ h3) fun hw => (List.mem_cons.mp hw).elim (fun e => e ▸ hc) (h w)
  have h4 : New4.tab.before a s = true := unparts (wk q3 (.code New4.yN New4.yB 6 none)) (wks q3 (.initialized New4.yN.cls :: New4.site))
  have q4 : ∀ w ∈ New4.tab :: words, w.before a s = true := fun w hw => (List.mem_cons.mp hw).elim (fun e => e ▸ h4) (h w)
  exact unparts (wk q4 (.code New1.yN New1.yB 2 none)) (wks q4 (.initialized New1.yN.cls :: New1.site))
/-- the words ride from the start Z to the walk's own state -/
theorem moved {Z s : State} {a0 args : Array Value} (hZ : Z.Warmed39 s.vm) (hw : ∀ d ∈ words, d.before a0 Z = true) : ∀ d ∈ words, d.before args s = true := fun d hd => by
  have q := hw d hd
  have t : ∀ d ∈ words, d = .arrayClass .byte ∨ (d.onTables && d.keepsFace) = true := by decide +kernel
  rcases t d hd with rfl | t
  · exact RoadKit.mvA hZ q
  · exact RoadKit.mv hZ q t
/-- WHAT COMES BACK, over the tables of the start Z: h the heap at the call, h' behind it -/
def Q (Z : State) (x : Addr) (A : Cell) (h : Heap) (v : Option Value) (h' : Heap) (L : List Loc) : Prop := v = none ∧ (∀ y ∈ L, y.base = x) ∧ RoadKit.Keep h h' [x] ∧ h'.size = h.size + 1 ∧ RoadKit.Exa Z h' x ST ∧ RoadKit.Fld Z h' x ST "value" "[B" (.ref h.size) ∧ RoadKit.Fld Z h' x ST "coder" "B" (.int 0) ∧
  (∃ V : Cell, RoadKit.Arr Z h' h.size V .byte ∧ V.vm = .none ∧ Z.vm.findClass "[B" = some V.cls ∧ V.slots.size = A.slots.size ∧ ∀ j, j < A.slots.size → V.slots[j]? = some (.int (lo8 (cv A j)))) ∧
  ∀ (O n d : String) (w : Value), RoadKit.Fld Z h x O n d w → RoadKit.slotOf Z O n d ≠ RoadKit.slotOf Z ST "value" "[B" → RoadKit.slotOf Z O n d ≠ RoadKit.slotOf Z ST "coder" "B" → RoadKit.Fld Z h' x O n d w
/-- **new String(chars) AT A CALL, IN THE ROAD'S FORM**: for specialBack behind newO: x the fresh String, b the char[] with the cell A -/
theorem back {p : Program} {l : Launch} {e : Env} {R : Room} {s : State} {args : Array Value} {below : List Frame} {len W : Nat} {Z : State} {a0 : Array Value} {h : Heap} (hZ : Z.Warmed39 s.vm) (hw : ∀ d ∈ words, d.before a0 Z = true) {kI : Nat} (wi : (Jvm.Cond.instantiable ST kI).before a0 Z = true)
    {x b : Addr} {A : Cell} {z : Int32} {v0 c0 : Value} (E : RoadKit.Exa Z h x ST) (V : RoadKit.Fld Z h x ST "value" "[B" v0) (C : RoadKit.Fld Z h x ST "coder" "B" c0) (K : RoadKit.Arr Z h b A .char) (hty : Typed .char A) (S : RoadKit.Sta Z h ST "COMPACT_STRINGS" "Z" (.int z)) (hz : ¬ z = 0)
    (l0 : 0 < A.slots.size) (l2 : A.slots.size ≤ 536870912) (hp : ∀ i, i < A.slots.size → ¬ 255 < cv A i) (hfr : 4 ≤ R.frames) (hlo : W + 65 ≤ R.locals) :
    Back l R p e below s args New1.yN len W (fun P a => a = #[.ref x, .ref b] ∧ P.U.heap = h ∧ P.cells + 1 ≤ R.cells ∧ P.slots + A.slots.size ≤ R.slots)
      (fun P _ v B => ∃ L, Q Z x A h v B.U.heap L ∧ B.locs = P.locs ++ L ∧ B.cells = P.cells + 1 ∧ B.slots = P.slots + A.slots.size) := by
  intro m meth c P g ig mk a X hg hsize hdg hW hn hp'
  obtain ⟨rfl, rfl, r1, r2⟩ := hp'
  have al : Z.vm.Alike P.U.vm := hZ.alike.trans X.warmed.alike
  obtain ⟨D, cfV, kV, iV, fV, hD, gV, stV, knV, obV, asV, slV⟩ := id V
  obtain ⟨D', cfC, kC, iC, fC, hD', gC, stC, -, -, asC, slC⟩ := id C
  cases hD.symm.trans hD'
  obtain ⟨D2, kD, e1, e2, e3, e4, e5⟩ := id E
  cases hD.symm.trans e1
  obtain ⟨c2, k2, i1, i2, i3, -⟩ := Cond.instantiable_spec wi
  cases e2.symm.trans i1
  cases e3.symm.trans i2
  obtain ⟨kU, u1, u2⟩ := al.2.2 _ _ e3
  have hB : Blank ST x D P.U := ⟨hD, ⟨knV, fun q hq => by rw [hq] at obV; cases obV⟩, by rw [al.findClass]; exact e2, kU, u1, by rw [u2]; exact i3, by rw [u2]; exact e5 i3⟩
  have F1 : Found ST "value" "[B" fV P.U := ⟨SBG.found_only al ⟨cfV, kV, iV, gV⟩, stV⟩
  have F2 : Found ST "coder" "B" fC P.U := ⟨SBG.found_only al ⟨cfC, kC, iC, gC⟩, stC⟩
  have hA : Ch b A P.U := ⟨⟨K.1, State.isArrayOf_alike al K.2.1, K.2.2, by omega⟩, hty⟩
  have hS : StaticIs P.U ST "COMPACT_STRINGS" "Z" (.int z) := by
    obtain ⟨cfS, iS, kS, fS, st, cS, t1, t2, t3, t4, t5, t6, t7⟩ := S
    exact StaticIs.there (s := { Z with heap := P.U.heap }) ⟨cfS, iS, kS, fS, st, cS, t1, t2, t3, t4, t5, (fun q => by rw [q] at t6; cases t6), t7⟩ al rfl
  obtain ⟨v, B, X', ⟨⟨hv, E', V', q1, q2, q3, q4, q5, q6, q7, q8, q9, q10, q11⟩, hl, hc, hs⟩, st⟩ := New1.pays x D fV fC b A z (tab_of (moved hZ hw)) hfr hlo m meth c P g ig mk _ X hg hsize hdg hW hn ⟨r1, r2, rfl, hB, F1, F2, hA, hS, hz, l0, l2, hp⟩
  have al' : Z.vm.Alike B.U.vm := hZ.alike.trans X'.warmed.alike
  have hsz : E'.slots.size = D.slots.size := by
    obtain ⟨-, -, -, kB, w1, w2, w3⟩ := q1
    obtain ⟨kB', y1, y2⟩ := al'.2.2 _ _ e3
    rw [q2.2.1] at w1
    cases w1.symm.trans y1
    rw [w3, e5 i3, y2]
  refine ⟨v, B, X', ⟨_, ⟨hv, ?_, ⟨by omega, fun y cy hy hn' => q10 y cy (by simpa using hn') hy, fun y cy hy => ?_⟩, q11, ⟨E', _, q1.1, by rw [q2.2.1]; exact e2, by rw [q2.2.1]; exact e3, by rw [q2.1]; exact obV, fun _ => by rw [hsz]; exact e5 i3⟩,
    ⟨E', cfV, kV, iV, fV, q1.1, gV, stV, by rw [q2.1]; exact knV, by rw [q2.1]; exact obV, by rw [q2.2.1]; exact asV, q3⟩, ⟨E', cfC, kC, iC, fC, q1.1, gC, stC, by rw [q2.1]; exact knV, by rw [q2.1]; exact obV, by rw [q2.2.1]; exact asC, q4⟩,
    ⟨V', ⟨q5.1, State.isArrayOf_alike al'.symm q5.2.1, q5.2.2.1⟩, q6, by rw [← al'.findClass]; exact q7, q8, fun j hj => by have := q9 j hj; rwa [Nat.zero_add] at this⟩, fun O n d w F n1 n2 => ?_⟩, hl, hc, hs⟩, st⟩
  · intro y hy
    simp only [List.mem_cons, List.not_mem_nil, or_false] at hy
    rcases hy with rfl | rfl <;> rfl
  · by_cases q : y = x
    · subst q
      cases hD.symm.trans hy
      exact ⟨E', q1.1, q2.2.1, q2.1, hsz⟩
    · exact ⟨cy, q10 y cy q hy, rfl, rfl, rfl⟩
  · obtain ⟨D3, cf, k, i, f, g1, g2, g3, g4, g5, g6, g7⟩ := F
    cases hD.symm.trans g1
    simp only [RoadKit.slotOf, g2, gV, gC, Option.map_some, Option.getD_some] at n1 n2
    exact ⟨E', cf, k, i, f, q1.1, g2, g3, by rw [q2.1]; exact g4, by rw [q2.1]; exact g5, by rw [q2.2.1]; exact g6, by rw [q2.2.2 f.slot (by simp [n1, n2])]; exact g7⟩
end StrChars.Road
namespace StrChars.Road
open Jvm Sem ClassFile Op Lib Jvm.Stand Jvm.Free Jvm.Free.XT
/-- WHAT COMES BACK, the byte[] as a list of values -/
def QA (Z : State) (x : Addr) (zn : Int32) (cs : List Int32) (h : Heap) (v : Option Value) (h' : Heap) (L : List Loc) : Prop := v = none ∧ (∀ y ∈ L, y.base = x) ∧ RoadKit.Keep h h' [x] ∧ h'.size = h.size + 1 ∧ RoadKit.Exa Z h' x ST ∧ RoadKit.Fld Z h' x ST "value" "[B" (.ref h.size) ∧ RoadKit.Fld Z h' x ST "coder" "B" (.int 0) ∧
  (∃ kb, Z.vm.findClass "[B" = some kb ∧ RoadKit.Arv Z h' h.size kb .byte zn (cs.map fun c => .int (lo8 c)) (.int 0)) ∧
  ∀ (O n d : String) (w : Value), RoadKit.Fld Z h x O n d w → RoadKit.slotOf Z O n d ≠ RoadKit.slotOf Z ST "value" "[B" → RoadKit.slotOf Z O n d ≠ RoadKit.slotOf Z ST "coder" "B" → RoadKit.Fld Z h' x O n d w
/-- **new String(chars) AT A CALL, THE ARRAYS AS LISTS**: the char[] at b holds cs, not empty, no char above 255 -/
theorem backArv {p : Program} {l : Launch} {e : Env} {R : Room} {s : State} {args : Array Value} {below : List Frame} {len W : Nat} {Z : State} {a0 : Array Value} {h : Heap} (hZ : Z.Warmed39 s.vm) (hw : ∀ d ∈ words, d.before a0 Z = true) {kI : Nat} (wi : (Jvm.Cond.instantiable ST kI).before a0 Z = true)
    {x b : Addr} {k : ClassId} {zn z : Int32} {cs : List Int32} {dv v0 c0 : Value} (E : RoadKit.Exa Z h x ST) (V : RoadKit.Fld Z h x ST "value" "[B" v0) (C : RoadKit.Fld Z h x ST "coder" "B" c0) (K : RoadKit.Arv Z h b k .char zn (cs.map Value.int) dv) (S : RoadKit.Sta Z h ST "COMPACT_STRINGS" "Z" (.int z)) (hz : ¬ z = 0)
    (hlen : zn.toNatClampNeg = cs.length) (h0 : 0 < cs.length) (hbig : cs.length ≤ 536870912) (hall : ∀ c ∈ cs, ¬ 255 < c) (hfr : 4 ≤ R.frames) (hlo : W + 65 ≤ R.locals) :
    Back l R p e below s args New1.yN len W (fun P a => a = #[.ref x, .ref b] ∧ P.U.heap = h ∧ P.cells + 1 ≤ R.cells ∧ P.slots + cs.length ≤ R.slots)
      (fun P _ v B => ∃ L, QA Z x zn cs h v B.U.heap L ∧ B.locs = P.locs ++ L ∧ B.cells = P.cells + 1 ∧ B.slots = P.slots + cs.length) := by
  obtain ⟨A, K1, K2, K3, K4, K5, K6⟩ := K
  have e : A.slots.size = cs.length := K3.trans hlen
  have hat : ∀ (i : Nat) (hi : i < cs.length), A.slots[i]? = some (.int cs[i]) := fun i hi => by rw [K5 i (by omega)]; simp [List.getD_eq_getElem?_getD, hi]
  have hcv : ∀ (i : Nat) (hi : i < cs.length), cv A i = cs[i] := fun i hi => by unfold cv; rw [hat i hi]
  have hty : Typed .char A := fun i v hv => by
    have hi : i < A.slots.size := (Array.getElem?_eq_some_iff.mp hv).1
    have q := K5 i hi
    rw [hv] at q
    rw [Option.some.inj q]
    exact K6 i hi
  refine Back.mono (back hZ hw wi E V C K1 hty S hz (by omega) (by omega) (fun i hi => by rw [hcv i (by omega)]; exact hall _ (List.getElem_mem _)) hfr hlo) (fun P a hp => ⟨hp.1, hp.2.1, hp.2.2.1, by rw [e]; exact hp.2.2.2⟩) (fun P a v B hp hq => ?_)
  obtain ⟨L, ⟨q1, q2, q3, q4, q5, q6, q7, ⟨V', v1, v2, v3, v4, v5⟩, q9⟩, hl, hc, hs⟩ := hq
  refine ⟨L, ⟨q1, q2, q3, q4, q5, q6, q7, ⟨V'.cls, v3, V', v1, rfl, by rw [v4, e, hlen], K4, fun i hi => ?_, fun i hi => ?_⟩, q9⟩, hl, hc, by rw [hs, e]⟩
  · have hi' : i < cs.length := by omega
    rw [v5 i (by omega), hcv i hi']; simp [List.getD_eq_getElem?_getD, hi']
  · have hi' : i < cs.length := by omega
    simp only [List.getD_eq_getElem?_getD, List.getElem?_map, List.getElem?_eq_getElem hi', Option.map_some, Option.getD_some]
    exact fits_lo8 _
end StrChars.Road
namespace StrChars.Road
open Jvm Sem ClassFile Op Lib Jvm.Stand Jvm.Free Jvm.Free.XT
/-- WHAT COMES BACK, in the writer's own shape -/
def QV (Z : State) (x : Addr) (N : Int32) (bs : List Int32) (h : Heap) (n0 : Nat) (v : Option Value) (h' : Heap) (L : List Loc) : Prop := v = none ∧ RoadKit.Fr n0 L ∧ RoadKit.Keep h h' [x] ∧ RoadKit.Exa Z h' x ST ∧ RoadKit.Fld Z h' x ST "coder" "B" (.int 0) ∧
  ∃ (t : Addr) (kb : ClassId), n0 ≤ t ∧ h.size ≤ t ∧ ¬ t = x ∧ RoadKit.Fld Z h' x ST "value" "[B" (.ref t) ∧ RoadKit.Arv Z h' t kb .byte N (bs.map Value.int) (.int 0)
/-- **new String(chars) AT A CALL, FOR THE WRITER**: a char[] of n known ints, each 0 to 255 -/
theorem backV {p : Program} {l : Launch} {e : Env} {R : Room} {s : State} {args : Array Value} {below : List Frame} {len W : Nat} {Z : State} {a0 : Array Value} {h : Heap} (hZ : Z.Warmed39 s.vm) (hw : ∀ d ∈ words, d.before a0 Z = true) {kI : Nat} (wi : (Jvm.Cond.instantiable ST kI).before a0 Z = true)
    {x b : Addr} {kC : ClassId} {cs bs : List Int32} {d v0 c0 : Value} {z N : Int32} {n n0 : Nat} (hx0 : n0 ≤ x) (hh0 : n0 ≤ h.size) (E : RoadKit.Exa Z h x ST) (V : RoadKit.Fld Z h x ST "value" "[B" v0) (C : RoadKit.Fld Z h x ST "coder" "B" c0) (K : RoadKit.Arv Z h b kC .char N (cs.map Value.int) d) (S : RoadKit.Sta Z h ST "COMPACT_STRINGS" "Z" (.int z)) (hz : ¬ z = 0)
    (hn : cs.length = n) (hN : N = Int32.ofNat n) (l0 : 0 < n) (l2 : n ≤ 4000) (hp : ∀ c ∈ cs, ¬ c < 0 ∧ ¬ (255 : Int32) < c) (hb : bs = cs.map (fun c => c.toInt8.toInt32)) (hfr : 4 ≤ R.frames) (hlo : W + 65 ≤ R.locals) :
    Back l R p e below s args (⟨"java/lang/String", "<init>", "([C)V"⟩ : MethodName) len W (fun P a => a = #[.ref x, .ref b] ∧ P.U.heap = h ∧ P.cells + 1 ≤ R.cells ∧ P.slots + n ≤ R.slots)
      (fun P _ v B => ∃ L, QV Z x N bs h n0 v B.U.heap L ∧ B.locs = P.locs ++ L ∧ B.cells = P.cells + 1 ∧ B.slots = P.slots + n) := by
  subst hn hN hb
  refine Back.mono (backArv hZ hw wi E V C K S hz (n32 (by omega)) l0 (by omega) (fun c hc => (hp c hc).2) hfr hlo) (fun P a hp => hp) (fun P a v B hp hq => ?_)
  obtain ⟨L, ⟨q1, q2, q3, q4, q5, q6, q7, ⟨kb, v1, v2⟩, q9⟩, hl, hc, hs⟩ := hq
  exact ⟨L, ⟨q1, fun y hy => by rw [q2 y hy]; exact hx0, q3, q5, q7, h.size, kb, hh0, Nat.le_refl _, Nat.ne_of_gt E.lt, q6, by rw [List.map_map]; exact v2⟩, hl, hc, hs⟩
end StrChars.Road
namespace StrChars
open Jvm Sem ClassFile Op Lib Jvm.Stand Jvm.Free.XT Jvm.Free.ALB Jvm.Free.JM Jvm.Free
open Jvm.Lib.Cold (StaticIs)
def hi8 (x : Int32) : Int32 := lo8 (x >>> ((8 : Int32) &&& 31))
/-- what StringUTF16.getChar makes of two bytes -/
def pairCh (u v : Int32) : Int32 := (((u &&& 255) <<< ((0 : Int32) &&& 31)) ||| ((v &&& 255) <<< ((8 : Int32) &&& 31))).toUInt32.toUInt16.toUInt32.toInt32
theorem lo8_and (x : Int32) : (lo8 x &&& 255).toBitVec.toNat = x.toBitVec.toNat % 256 := by
  have h : (lo8 x).toBitVec = (x.toBitVec.signExtend 8).signExtend 32 := by rw [lo8, Int8.toBitVec_toInt32, Int32.toBitVec_toInt8]
  rw [Int32.toBitVec_and, BitVec.toNat_and, h]
  have e : ((x.toBitVec.signExtend 8).signExtend 32).toNat % 256 = x.toBitVec.toNat % 256 := by
    rw [BitVec.toNat_signExtend]
    have hlt := x.toBitVec.isLt
    simp only [BitVec.toNat_setWidth, BitVec.toNat_signExtend]
    split <;> split <;> omega
  rw [← e]
  exact Nat.and_two_pow_sub_one_eq_mod _ 8
theorem pair_says {c : Int32} (h0 : ¬ c < 0) (h1 : ¬ 65535 < c) : pairCh (lo8 c) (hi8 c) = c := by
  rw [Int32.lt_iff_toInt_lt] at h0 h1
  have e0 : (0 : Int32).toInt = 0 := rfl
  have e1 : (65535 : Int32).toInt = 65535 := rfl
  have hc : c.toInt = c.toBitVec.toNat := by
    have := c.toBitVec.isLt
    have e : c.toInt = c.toBitVec.toInt := rfl
    rw [e] at h0 h1
    rw [e]
    rw [BitVec.toInt_eq_toNat_cond] at h0 h1 ⊢
    split at h0 <;> split <;> omega
  have hn : c.toBitVec.toNat < 65536 := by omega
  have a1 := lo8_and c
  have a2 : (hi8 c &&& 255).toBitVec.toNat = c.toBitVec.toNat / 256 := by
    rw [hi8, lo8_and]
    have e : ((8 : Int32) &&& 31) = 8 := by decide
    rw [e, Int32.toBitVec_shiftRight]
    have e2 : ((8 : Int32).toBitVec.smod 32) = 8#32 := by decide
    rw [e2, BitVec.sshiftRight_eq', BitVec.toNat_sshiftRight_of_msb_false (by rw [BitVec.msb_eq_false_iff_two_mul_lt]; omega)]
    show c.toBitVec.toNat >>> 8 % 256 = _
    rw [Nat.shiftRight_eq_div_pow]
    omega
  unfold pairCh
  apply Int32.toBitVec_inj.mp
  apply BitVec.eq_of_toNat_eq
  have f0 : ((0 : Int32) &&& 31) = 0 := by decide
  have f8 : ((8 : Int32) &&& 31) = 8 := by decide
  rw [f0, f8]
  have g : (((lo8 c &&& 255) <<< (0 : Int32)) ||| ((hi8 c &&& 255) <<< (8 : Int32))).toBitVec.toNat = c.toBitVec.toNat := by
    rw [Int32.toBitVec_or, Int32.toBitVec_shiftLeft, Int32.toBitVec_shiftLeft]
    have s0 : ((0 : Int32).toBitVec.smod 32) = 0#32 := by decide
    have s8 : ((8 : Int32).toBitVec.smod 32) = 8#32 := by decide
    rw [s0, s8, BitVec.toNat_or]
    simp only [BitVec.shiftLeft_eq', BitVec.toNat_shiftLeft, a1, a2]
    show (c.toBitVec.toNat % 256) <<< 0 % 2 ^ 32 ||| (c.toBitVec.toNat / 256) <<< 8 % 2 ^ 32 = _
    rw [Nat.shiftLeft_zero, Nat.mod_eq_of_lt (show c.toBitVec.toNat % 256 < 2 ^ 32 by omega), Nat.mod_eq_of_lt (show (c.toBitVec.toNat / 256) <<< 8 < 2 ^ 32 by rw [Nat.shiftLeft_eq]; omega), Nat.or_comm, ← Nat.shiftLeft_add_eq_or_of_lt (by omega), Nat.shiftLeft_eq]
    omega
  show BitVec.toNat (((((lo8 c &&& 255) <<< (0 : Int32)) ||| ((hi8 c &&& 255) <<< (8 : Int32))).toBitVec.setWidth 16).setWidth 32) = _
  rw [BitVec.toNat_setWidth, BitVec.toNat_setWidth, g]
  omega
end StrChars
namespace StrChars
open Jvm Sem ClassFile Op Lib Jvm.Stand Jvm.Free.XT Jvm.Free.ALB Jvm.Free.JM Jvm.Free
open Jvm.Lib.Cold (StaticIs)
/-- the array's cell V codes the n chars f 0 .. f (n - 1) by the coder cd, as the JDK does: coder 1 just where some char is above 255 -/
def Cod (cd : Int32) (n : Nat) (f : Nat → Int32) (V : Cell) : Prop := (cd = 0 ∧ V.slots.size = n ∧ ∀ j, j < n → V.slots[j]? = some (.int (lo8 (f j))) ∧ ¬ 255 < f j) ∨ (cd = 1 ∧ V.slots.size = 2 * n ∧ (∀ j, j < n → V.slots[2 * j]? = some (.int (lo8 (f j))) ∧ V.slots[2 * j + 1]? = some (.int (hi8 (f j)))) ∧ ∃ j, j < n ∧ 255 < f j)
/-- **x is a String of the n chars f 0 .. f (n - 1)**, Latin-1 or UTF-16; its array at t has the cell V -/
def Txt (x t : Addr) (V : Cell) (cd : Int32) (n : Nat) (f : Nat → Int32) (U : State) : Prop := Exact "java/lang/String" x U ∧ Has x "java/lang/String" "value" "[B" (.ref t) U ∧ Has x "java/lang/String" "coder" "B" (.int cd) U ∧ XT.Arr .byte t V U ∧ Cod cd n f V ∧ ∀ j, j < n → ¬ f j < 0 ∧ ¬ 65535 < f j
theorem Txt.mv {x t : Addr} {V : Cell} {cd : Int32} {n : Nat} {f : Nat → Int32} {U U' : State} (h : Txt x t V cd n f U) (hal : U.vm.Alike U'.vm) (hh : U'.heap = U.heap) : Txt x t V cd n f U' := ⟨h.1.mv hal hh, h.2.1.mv hal hh, h.2.2.1.mv hal hh, h.2.2.2.1.mv hal hh, h.2.2.2.2⟩
end StrChars
namespace StrChars.Road
open Jvm Sem ClassFile Op Lib Jvm.Stand Jvm.Free Jvm.Free.XT
open Jvm.Lib.Cold (StaticIs)
theorem consq {a : Array Value} {s : State} {c : Jvm.Cond} {L : List Jvm.Cond} (h0 : c.before a s = true) (h : ∀ w ∈ L, w.before a s = true) : ∀ w ∈ c :: L, w.before a s = true := fun w hw => (List.mem_cons.mp hw).elim (fun e => e ▸ h0) (h w)
/-- the bytes of the chars cs, low before high -/
def wideBytes : List Int32 → List Value
  | [] => []
  | c :: cs => .int (lo8 c) :: .int (hi8 c) :: wideBytes cs
theorem wide_lo (d : Value) : ∀ (cs : List Int32) (j : Nat), j < cs.length → (wideBytes cs).getD (2 * j) d = .int (lo8 (cs.getD j 0))
  | [], j, h => absurd h (Nat.not_lt_zero j)
  | c :: cs, 0, _ => rfl
  | c :: cs, j + 1, h => by
    have q := wide_lo d cs j (by simpa using h)
    rw [show 2 * (j + 1) = 2 * j + 1 + 1 from by omega]
    simpa [wideBytes] using q
theorem wide_hi (d : Value) : ∀ (cs : List Int32) (j : Nat), j < cs.length → (wideBytes cs).getD (2 * j + 1) d = .int (hi8 (cs.getD j 0))
  | [], j, h => absurd h (Nat.not_lt_zero j)
  | c :: cs, 0, _ => rfl
  | c :: cs, j + 1, h => by
    have q := wide_hi d cs j (by simpa using h)
    rw [show 2 * (j + 1) + 1 = 2 * j + 1 + 1 + 1 from by omega]
    simpa [wideBytes] using q
theorem low_at (d : Value) (cs : List Int32) (j : Nat) (h : j < cs.length) : (cs.map fun c => Value.int (lo8 c)).getD j d = .int (lo8 (cs.getD j 0)) := by
  simp [List.getD_eq_getElem?_getD, h]
/-- an array of N2 bytes vs codes the chars cs by the coder cd -/
def CodA (cs : List Int32) (cd N2 : Int32) (vs : List Value) : Prop := (cd = 0 ∧ N2 = Int32.ofNat cs.length ∧ vs = (cs.map fun c => Value.int (lo8 c)) ∧ ∀ c ∈ cs, ¬ 255 < c) ∨ (cd = 1 ∧ N2 = Int32.ofNat (2 * cs.length) ∧ vs = wideBytes cs ∧ ∃ c ∈ cs, 255 < c)
theorem CodA.cod {cs : List Int32} {cd N2 : Int32} {vs : List Value} {V : Cell} (h : CodA cs cd N2 vs) (hn : 2 * cs.length < 2 ^ 31) (hs : V.slots.size = N2.toNatClampNeg) (hv : RoadKit.Has V vs (.int 0)) : Cod cd cs.length (fun j => cs.getD j 0) V := by
  rcases h with ⟨rfl, rfl, rfl, h⟩ | ⟨rfl, rfl, rfl, c, hc, hw⟩
  · rw [n32 (by omega)] at hs
    exact Or.inl ⟨rfl, hs, fun j hj => ⟨by rw [hv j (by omega), low_at _ _ _ hj], by
      have e : cs.getD j 0 = cs[j] := by simp [List.getD_eq_getElem?_getD, hj]
      show ¬ 255 < cs.getD j 0
      rw [e]; exact h _ (List.getElem_mem _)⟩⟩
  · rw [n32 (by omega)] at hs
    obtain ⟨j, hj, rfl⟩ := List.getElem_of_mem hc
    exact Or.inr ⟨rfl, hs, fun j hj => ⟨by rw [hv _ (by omega), wide_lo _ _ _ hj], by rw [hv _ (by omega), wide_hi _ _ _ hj]⟩, j, hj, by
      have e : cs.getD j 0 = cs[j] := by simp [List.getD_eq_getElem?_getD, hj]
      show 255 < cs.getD j 0
      rw [e]; exact hw⟩
/-- an object of exactly java/lang/String, its two fields found: as the laws ask it -/
theorem strObj {Z U : State} {a0 : Array Value} {kI : Nat} (wi : (Jvm.Cond.instantiable ST kI).before a0 Z = true) (al : Z.vm.Alike U.vm) {x : Addr} {v0 c0 : Value} (E : RoadKit.Exa Z U.heap x ST) (V : RoadKit.Fld Z U.heap x ST "value" "[B" v0) (C : RoadKit.Fld Z U.heap x ST "coder" "B" c0) :
    ∃ (D : Cell) (fV fC : Field), Blank ST x D U ∧ Found ST "value" "[B" fV U ∧ Found ST "coder" "B" fC U ∧ D.slots[fV.slot]? = some v0 ∧ D.slots[fC.slot]? = some c0 ∧ RoadKit.slotOf Z ST "value" "[B" = fV.slot ∧ RoadKit.slotOf Z ST "coder" "B" = fC.slot := by
  obtain ⟨D, cfV, kV, iV, fV, hD, gV, stV, knV, obV, asV, slV⟩ := V
  obtain ⟨D', cfC, kC, iC, fC, hD', gC, stC, -, -, asC, slC⟩ := C
  cases hD.symm.trans hD'
  obtain ⟨D2, kD, e1, e2, e3, e4, e5⟩ := E
  cases hD.symm.trans e1
  obtain ⟨c2, k2, i1, i2, i3, -⟩ := Cond.instantiable_spec wi
  cases e2.symm.trans i1
  cases e3.symm.trans i2
  obtain ⟨kU, u1, u2⟩ := al.2.2 _ _ e3
  exact ⟨D, fV, fC, ⟨hD, ⟨knV, fun q hq => by rw [hq] at obV; cases obV⟩, by rw [al.findClass]; exact e2, kU, u1, by rw [u2]; exact i3, by rw [u2]; exact e5 i3⟩, ⟨SBG.found_only al ⟨cfV, kV, iV, gV⟩, stV⟩, ⟨SBG.found_only al ⟨cfC, kC, iC, gC⟩, stC⟩, slV, slC, by simp [RoadKit.slotOf, gV], by simp [RoadKit.slotOf, gC]⟩
theorem sta_is {Z U : State} (al : Z.vm.Alike U.vm) {C n d : String} {v : Value} (S : RoadKit.Sta Z U.heap C n d v) : StaticIs U C n d v := by
  obtain ⟨cfS, iS, kS, fS, st, cS, t1, t2, t3, t4, t5, t6, t7⟩ := S
  exact StaticIs.there (s := { Z with heap := U.heap }) ⟨cfS, iS, kS, fS, st, cS, t1, t2, t3, t4, t5, (fun q => by rw [q] at t6; cases t6), t7⟩ al rfl
end StrChars.Road
namespace StrChars
open Jvm Sem ClassFile Op Lib Jvm.Stand Jvm.Free.XT Jvm.Free.ALB Jvm.Free.JM Jvm.Free
open Jvm.Lib.Cold (StaticIs)
/-- what place i of a byte[]'s cell holds -/
def yv (A : Cell) (i : Nat) : Int32 := match A.slots[i]? with | some (.int x) => x | _ => 0
theorem yv_get {a : Addr} {A : Cell} {U : State} (h : XT.Arr .byte a A U) (ht : Typed .byte A) {i : Nat} (hi : i < A.slots.size) : A.slots[i]? = some (.int (yv A i)) := by
  have e := Array.getElem?_eq_getElem hi
  have f := ht i _ e
  unfold yv; rw [e]
  generalize A.slots[i] = v at f
  cases v <;> simp [fits] at f ⊢
/-- the two arrays are equal, place for place -/
def EqC (A B : Cell) : Prop := A.slots.size = B.slots.size ∧ ∀ i, i < A.slots.size → yv A i = yv B i
/-- a boolean that says whether p -/
def Says01 (q : Prop) (r : Option Value) (s u : State) : Prop := ∃ v : Int32, r = some (.int v) ∧ u.heap = s.heap ∧ ((v = 1 ∧ q) ∨ (v = 0 ∧ ¬ q))
theorem Says01.mv {q : Prop} : ∀ r (U U' V V' : State), U'.heap = U.heap → V.vm.Alike V'.vm → V'.heap = V.heap → Says01 q r U V → Says01 q r U' V' :=
  fun r U U' V V' h1 _ h2 ⟨v, a, b, c⟩ => ⟨v, a, by rw [h1, h2]; exact b, c⟩
namespace LEq
def yN : MethodName := ⟨"java/lang/StringLatin1", "equals", "([B[B)Z"⟩
abbrev yB : ByteArray := jdk_43_method_13_code
theorem d0 : decode yB 0 = .ok (.aload_n 0, 1) := by decide +kernel
theorem d1 : decode yB 1 = .ok (.arraylength, 1) := by decide +kernel
theorem d2 : decode yB 2 = .ok (.aload_n 1, 1) := by decide +kernel
theorem d3 : decode yB 3 = .ok (.arraylength, 1) := by decide +kernel
theorem d4 : decode yB 4 = .ok (.if_icmp (.ne) 30, 3) := by decide +kernel
theorem d7 : decode yB 7 = .ok (.iconst 0, 1) := by decide +kernel
theorem d8 : decode yB 8 = .ok (.istore_n 2, 1) := by decide +kernel
theorem d9 : decode yB 9 = .ok (.iload_n 2, 1) := by decide +kernel
theorem d10 : decode yB 10 = .ok (.aload_n 0, 1) := by decide +kernel
theorem d11 : decode yB 11 = .ok (.arraylength, 1) := by decide +kernel
theorem d12 : decode yB 12 = .ok (.if_icmp (.ge) 20, 3) := by decide +kernel
theorem d15 : decode yB 15 = .ok (.aload_n 0, 1) := by decide +kernel
theorem d16 : decode yB 16 = .ok (.iload_n 2, 1) := by decide +kernel
theorem d17 : decode yB 17 = .ok (.baload, 1) := by decide +kernel
theorem d18 : decode yB 18 = .ok (.aload_n 1, 1) := by decide +kernel
theorem d19 : decode yB 19 = .ok (.iload_n 2, 1) := by decide +kernel
theorem d20 : decode yB 20 = .ok (.baload, 1) := by decide +kernel
theorem d21 : decode yB 21 = .ok (.if_icmp (.eq) 5, 3) := by decide +kernel
theorem d24 : decode yB 24 = .ok (.iconst 0, 1) := by decide +kernel
theorem d25 : decode yB 25 = .ok (.ireturn, 1) := by decide +kernel
theorem d26 : decode yB 26 = .ok (.iinc 2 1, 3) := by decide +kernel
theorem d29 : decode yB 29 = .ok (.goto (-20), 3) := by decide +kernel
theorem d32 : decode yB 32 = .ok (.iconst 1, 1) := by decide +kernel
theorem d33 : decode yB 33 = .ok (.ireturn, 1) := by decide +kernel
theorem d34 : decode yB 34 = .ok (.iconst 0, 1) := by decide +kernel
theorem d35 : decode yB 35 = .ok (.ireturn, 1) := by decide +kernel
def site : List Cond := []
def tab : Cond := tabOf yN yB 3 (some .boolean) site
def P (a : Addr) (A : Cell) (b : Addr) (B : Cell) (args : Array Value) (s : State) : Prop := args = #[.ref a, .ref b] ∧ XT.Arr .byte a A s ∧ Typed .byte A ∧ XT.Arr .byte b B s ∧ Typed .byte B
/-- whether two byte[] are equal, place for place -/
theorem law (l : Launch) (a : Addr) (A : Cell) (b : Addr) (B : Cell) : Law l yN 2 2 0 0 yB 3 (some .boolean) site (P a A b B) (Says01 (EqC A B)) [] 0 0 := by
  refine Law.of_walk (plainFor_of_name (by decide +kernel)) (by decide +kernel) (by decide +kernel) (by decide) (fun _ _ h => by rw [h.1]; rfl) (fun _ U U' hal hh h => ⟨h.1, h.2.1.mv hal hh, h.2.2.1, h.2.2.2.1.mv hal hh, h.2.2.2.2⟩) (fun r U U' V V' h1 hal h2 h => Says01.mv r U U' V V' h1 hal h2 h) ?_
  intro p e s m args below meth c s₁ X0 hexec hbytes hml hret hlk hnm hown hh0 W hP
  obtain ⟨rfl, hA, tA, hB, tB⟩ := hP
  have a31 := hA.2.2.2
  have b31 := hB.2.2.2
  have hA0 := hA.mv X0.warmed.alike hh0
  have hB0 := hB.mv X0.warmed.alike hh0
  have c1 : Steps p.tables e below (s₁.setTop (entryFrame m #[.ref a, .ref b] 3)) (s₁.setTop (mkF m 0 #[.val (.ref a), .val (.ref b), .unset] [])) := entry rfl
  have c2 : Steps p.tables e below (s₁.setTop (entryFrame m #[.ref a, .ref b] 3)) (s₁.setTop (mkF m 4 #[.val (.ref a), .val (.ref b), .unset] [.int (Int32.ofNat B.slots.size), .int (Int32.ofNat A.slots.size)])) := c1.trans (by
    refine XS.aloadN X0.here hexec rfl (hb hbytes d0) rfl rfl ?_
    refine X0.alen hexec hA0 rfl rfl (hb hbytes d1) ?_
    refine XS.aloadN X0.here hexec rfl (hb hbytes d2) rfl rfl ?_
    refine X0.alen hexec hB0 rfl rfl (hb hbytes d3) ?_
    exact Steps.refl _)
  by_cases hs : A.slots.size = B.slots.size
  · have c3 : Steps p.tables e below (s₁.setTop (entryFrame m #[.ref a, .ref b] 3)) (s₁.setTop (mkF m 9 #[.val (.ref a), .val (.ref b), .val (.int 0)] [])) := c2.trans (by
      refine XS.icmpNo X0.here hexec rfl (hb hbytes d4) rfl (ii_ne_f (by rw [hs])) ?_
      refine iconstV X0.here hexec rfl 0 (hb hbytes d7) (by decide) ?_
      refine XS.istoreN X0.here hexec rfl (hb hbytes d8) rfl rfl ?_
      exact Steps.refl _)
    have loop : ∀ (r i : Nat), i + r = A.slots.size → (∀ j, j < i → yv A j = yv B j) → Steps p.tables e below (s₁.setTop (entryFrame m #[.ref a, .ref b] 3)) (s₁.setTop (mkF m 9 #[.val (.ref a), .val (.ref b), .val (.int (Int32.ofNat i))] [])) → ∃ (pc : Nat) (Ls : Array Slot) (v : Int32), (pc = 25 ∨ pc = 33) ∧ ((v = 1 ∧ EqC A B) ∨ (v = 0 ∧ ¬ EqC A B)) ∧ Steps p.tables e below (s₁.setTop (entryFrame m #[.ref a, .ref b] 3)) (s₁.setTop (mkF m pc Ls [.int v])) := by
      intro r
      induction r with
      | zero =>
        intro i hi he cl
        exact ⟨33, _, 1, Or.inr rfl, Or.inl ⟨rfl, hs, fun j hj => he j (by omega)⟩, cl.trans (by
          refine XS.iloadN X0.here hexec rfl (hb hbytes d9) rfl ?_
          refine XS.aloadN X0.here hexec rfl (hb hbytes d10) rfl rfl ?_
          refine X0.alen hexec hA0 rfl rfl (hb hbytes d11) ?_
          refine XS.icmpYes X0.here hexec rfl (pc0 := 12) rfl (hb hbytes d12) rfl (ii_ge_t (nlt32 (by omega) (by omega))) (by decide) rfl ?_
          refine iconstV X0.here hexec rfl 1 (hb hbytes d32) (by decide) ?_
          exact Steps.refl _)⟩
      | succ r ih =>
        intro i hi he cl
        have c4 : Steps p.tables e below (s₁.setTop (entryFrame m #[.ref a, .ref b] 3)) (s₁.setTop (mkF m 21 #[.val (.ref a), .val (.ref b), .val (.int (Int32.ofNat i))] [.int (yv B i), .int (yv A i)])) := cl.trans (by
          refine XS.iloadN X0.here hexec rfl (hb hbytes d9) rfl ?_
          refine XS.aloadN X0.here hexec rfl (hb hbytes d10) rfl rfl ?_
          refine X0.alen hexec hA0 rfl rfl (hb hbytes d11) ?_
          refine XS.icmpNo X0.here hexec rfl (hb hbytes d12) rfl (ii_ge_f (lt32 (by omega) (by omega))) ?_
          refine XS.aloadN X0.here hexec rfl (hb hbytes d15) rfl rfl ?_
          refine XS.iloadN X0.here hexec rfl (hb hbytes d16) rfl ?_
          refine X0.aget hexec hA0 rfl (yv_get hA tA (i := i) (by omega)) rfl rfl (hb hbytes d17) ?_
          refine XS.aloadN X0.here hexec rfl (hb hbytes d18) rfl rfl ?_
          refine XS.iloadN X0.here hexec rfl (hb hbytes d19) rfl ?_
          refine X0.aget hexec hB0 rfl (yv_get hB tB (i := i) (by omega)) rfl rfl (hb hbytes d20) ?_
          exact Steps.refl _)
        by_cases hv : yv A i = yv B i
        · have c5 : Steps p.tables e below (s₁.setTop (entryFrame m #[.ref a, .ref b] 3)) (s₁.setTop (mkF m 9 #[.val (.ref a), .val (.ref b), .val (.int (Int32.ofNat i + 1))] [])) := c4.trans (by
            refine XS.icmpYes X0.here hexec rfl (pc0 := 21) rfl (hb hbytes d21) rfl (ii_eq_t hv) (by decide) rfl ?_
            refine iincV X0.here hexec rfl 1 (hb hbytes d26) (by decide) rfl rfl ?_
            refine XS.goto X0.here hexec rfl (pc0 := 29) rfl (hb hbytes d29) (by decide) rfl ?_
            exact Steps.refl _)
          rw [succ32] at c5
          exact ih (i + 1) (by omega) (fun j hj => by
            by_cases e : j = i
            · rw [e]; exact hv
            · exact he j (by omega)) c5
        · exact ⟨25, _, 0, Or.inl rfl, Or.inr ⟨rfl, fun q => hv (q.2 i (by omega))⟩, c4.trans (by
            refine XS.icmpNo X0.here hexec rfl (hb hbytes d21) rfl (ii_eq_f hv) ?_
            refine iconstV X0.here hexec rfl 0 (hb hbytes d24) (by decide) ?_
            exact Steps.refl _)⟩
    obtain ⟨pc, Ls, v, hpc, hv, cz⟩ := loop A.slots.size 0 (by omega) (fun j hj => absurd hj (Nat.not_lt_zero j)) c3
    have nv : narrow .boolean (.int v) = .int v := by rcases hv with ⟨rfl, -⟩ | ⟨rfl, -⟩ <;> rfl
    rcases hpc with rfl | rfl
    · exact ⟨s₁, some (.int v), _, _, _, X0, rfl, rfl, rfl, (fun h => by cases h), ⟨v, rfl, hh0, hv⟩, fun fs hl => cz.trans (X0.ireturnOut hexec hret nv (Or.inr (Or.inl rfl)) (hb hbytes d25) hl)⟩
    · exact ⟨s₁, some (.int v), _, _, _, X0, rfl, rfl, rfl, (fun h => by cases h), ⟨v, rfl, hh0, hv⟩, fun fs hl => cz.trans (X0.ireturnOut hexec hret nv (Or.inr (Or.inl rfl)) (hb hbytes d33) hl)⟩
  · have c3 : Steps p.tables e below (s₁.setTop (entryFrame m #[.ref a, .ref b] 3)) (s₁.setTop (mkF m 35 #[.val (.ref a), .val (.ref b), .unset] [.int 0])) := c2.trans (by
      refine XS.icmpYes X0.here hexec rfl (pc0 := 4) rfl (hb hbytes d4) rfl (ii_ne_t (ne32 a31 b31 hs)) (by decide) rfl ?_
      refine iconstV X0.here hexec rfl 0 (hb hbytes d34) (by decide) ?_
      exact Steps.refl _)
    exact ⟨s₁, some (.int 0), _, _, _, X0, rfl, rfl, rfl, (fun h => by cases h), ⟨0, rfl, hh0, Or.inr ⟨rfl, fun q => hs q.1⟩⟩, fun fs hl => c3.trans (X0.ireturnOut hexec hret rfl (Or.inr (Or.inl rfl)) (hb hbytes d35) hl)⟩
end LEq
theorem Cod.ty {cd : Int32} {n : Nat} {f : Nat → Int32} {V : Cell} (h : Cod cd n f V) : Typed .byte V := fun i v hv => by
  have hi : i < V.slots.size := (Array.getElem?_eq_some_iff.mp hv).1
  rcases h with ⟨-, k1, k2⟩ | ⟨-, k1, k2, -⟩
  · rw [(k2 i (by omega)).1] at hv; cases hv; exact fits_lo8 _
  · rcases Nat.mod_two_eq_zero_or_one i with e | e
    · obtain ⟨j, rfl⟩ : ∃ j, i = 2 * j := ⟨i / 2, by omega⟩
      rw [(k2 j (by omega)).1] at hv; cases hv; exact fits_lo8 _
    · obtain ⟨j, rfl⟩ : ∃ j, i = 2 * j + 1 := ⟨i / 2, by omega⟩
      rw [(k2 j (by omega)).2] at hv; cases hv; exact fits_lo8 _
/-- the same text -/
def SameT (n : Nat) (f : Nat → Int32) (k : Nat) (g : Nat → Int32) : Prop := n = k ∧ ∀ j, j < n → f j = g j
theorem lo8_inj {x y : Int32} (h0 : ¬ x < 0) (h1 : ¬ 255 < x) (k0 : ¬ y < 0) (k1 : ¬ 255 < y) (h : lo8 x = lo8 y) : x = y := by
  rw [← lo8_mask h0 h1, ← lo8_mask k0 k1, h]
/-- arrays coded by one coder are equal just where the texts are -/
theorem Cod.eqv {cd : Int32} {n k : Nat} {f g : Nat → Int32} {V V' : Cell} (h : Cod cd n f V) (h' : Cod cd k g V') (hf : ∀ j, j < n → ¬ f j < 0 ∧ ¬ 65535 < f j) (hg : ∀ j, j < k → ¬ g j < 0 ∧ ¬ 65535 < g j) : EqC V V' ↔ SameT n f k g := by
  have yvv : ∀ {W : Cell} {i : Nat} {x : Int32}, W.slots[i]? = some (.int x) → yv W i = x := fun q => by unfold yv; rw [q]
  rcases h with ⟨rfl, k1, k2⟩ | ⟨rfl, k1, k2, -⟩
  · rcases h' with ⟨-, m1, m2⟩ | ⟨e, -⟩
    · constructor
      · rintro ⟨e1, e2⟩
        refine ⟨by omega, fun j hj => ?_⟩
        have q := e2 j (by omega)
        rw [yvv (k2 j hj).1, yvv (m2 j (by omega)).1] at q
        exact lo8_inj (hf j hj).1 (k2 j hj).2 (hg j (by omega)).1 (m2 j (by omega)).2 q
      · rintro ⟨rfl, e2⟩
        refine ⟨by omega, fun j hj => ?_⟩
        rw [yvv (k2 j (by omega)).1, yvv (m2 j (by omega)).1, e2 j (by omega)]
    · exact absurd e (by decide)
  · rcases h' with ⟨e, -⟩ | ⟨-, m1, m2, -⟩
    · exact absurd e (by decide)
    · constructor
      · rintro ⟨e1, e2⟩
        refine ⟨by omega, fun j hj => ?_⟩
        have q1 := e2 (2 * j) (by omega)
        have q2 := e2 (2 * j + 1) (by omega)
        rw [yvv (k2 j hj).1, yvv (m2 j (by omega)).1] at q1
        rw [yvv (k2 j hj).2, yvv (m2 j (by omega)).2] at q2
        rw [← pair_says (hf j hj).1 (hf j hj).2, ← pair_says (hg j (by omega)).1 (hg j (by omega)).2, q1, q2]
      · rintro ⟨rfl, e2⟩
        refine ⟨by omega, fun i hi => ?_⟩
        rcases Nat.mod_two_eq_zero_or_one i with e | e
        · obtain ⟨j, rfl⟩ : ∃ j, i = 2 * j := ⟨i / 2, by omega⟩
          rw [yvv (k2 j (by omega)).1, yvv (m2 j (by omega)).1, e2 j (by omega)]
        · obtain ⟨j, rfl⟩ : ∃ j, i = 2 * j + 1 := ⟨i / 2, by omega⟩
          rw [yvv (k2 j (by omega)).2, yvv (m2 j (by omega)).2, e2 j (by omega)]
/-- two codings differ: so do the texts -/
theorem Cod.dif {cd cd' : Int32} {n k : Nat} {f g : Nat → Int32} {V V' : Cell} (h : Cod cd n f V) (h' : Cod cd' k g V') (hne : ¬ cd = cd') : ¬ SameT n f k g := by
  rintro ⟨rfl, e⟩
  rcases h with ⟨rfl, -, k2⟩ | ⟨rfl, -, -, j, hj, hw⟩
  · rcases h' with ⟨rfl, -⟩ | ⟨-, -, -, j, hj, hw⟩
    · exact hne rfl
    · exact (k2 j hj).2 (by rw [e j hj]; exact hw)
  · rcases h' with ⟨-, -, m2⟩ | ⟨rfl, -⟩
    · exact (m2 j hj).2 (by rw [← e j hj]; exact hw)
    · exact hne rfl
/-- an object of exactly C is an instance of C -/
theorem cinst {p : Program} {l : Launch} {e : Env} {R : Room} {s : State} {m : MethodId} {args : Array Value} {below : List Frame} {meth : Method} {c : Code} {T : State} {locs : List Loc} {cells slots : Nat} (X : Stand p l e R s m args below meth c T locs cells slots) (hexec : p.tables.exec = Jvm.exec) {own C : String} {index : Nat} (hown : s.vm.findClass own = some m.cls) (hlink : (Cond.classLink own index C).before args s = true) {a : Addr} (hE : Exact C a T)
    {g : JFrame} (hg : g.method = m) {rest : List Value} (hstack : g.stack = .ref a :: rest) (hdg : decode c.code g.pc = .ok (.instanceof index, 3)) :
    ∃ T', Stand p l e R s m args below meth c T' locs cells slots ∧ T'.heap = T.heap ∧ ∀ target, Steps p.tables e below (T'.setTop { g with pc := g.pc + 3, stack := .int 1 :: rest }) target → Steps p.tables e below (T.setTop g) target := by
  obtain ⟨cB, h1, D, h2, h3, h4⟩ := hE
  have h1' : s.vm.findClass C = some cB := by rw [← X.warmed.alike.findClass]; exact h1
  obtain ⟨vm', X', st⟩ := X.instanceofYes hexec hown hlink h2 h4 h1' (by rw [h3]; exact Jvm.Free.SB.assignable_self _ _) hg hstack hdg
  exact ⟨_, X', rfl, st⟩
theorem cself {p : Program} {l : Launch} {e : Env} {R : Room} {s : State} {m : MethodId} {args : Array Value} {below : List Frame} {meth : Method} {c : Code} {T : State} {locs : List Loc} {cells slots : Nat} (X : Stand p l e R s m args below meth c T locs cells slots) (hexec : p.tables.exec = Jvm.exec) {own C : String} {index : Nat} (hown : s.vm.findClass own = some m.cls) (hlink : (Cond.classLink own index C).before args s = true) {a : Addr} (hE : Exact C a T)
    {g : JFrame} (hg : g.method = m) {rest : List Value} (hstack : g.stack = .ref a :: rest) (hdg : decode c.code g.pc = .ok (.checkcast index, 3)) :
    ∃ T', Stand p l e R s m args below meth c T' locs cells slots ∧ T'.heap = T.heap ∧ ∀ target, Steps p.tables e below (T'.setTop { g with pc := g.pc + 3, stack := .ref a :: rest }) target → Steps p.tables e below (T.setTop g) target := by
  obtain ⟨cB, h1, D, h2, h3, h4⟩ := hE
  have h1' : s.vm.findClass C = some cB := by rw [← X.warmed.alike.findClass]; exact h1
  obtain ⟨vm', X', st⟩ := X.checkcastYes hexec hown hlink h2 h4 h1' (by rw [h3]; exact Jvm.Free.SB.assignable_self _ _) hg hstack hdg
  exact ⟨_, X', rfl, fun t h => st t (by rw [← hstack] at h; exact h)⟩
namespace SEq
def yN : MethodName := ⟨"java/lang/String", "equals", "(Ljava/lang/Object;)Z"⟩
abbrev yB : ByteArray := jdk_42_method_66_code
theorem d0 : decode yB 0 = .ok (.aload_n 0, 1) := by decide +kernel
theorem d1 : decode yB 1 = .ok (.aload_n 1, 1) := by decide +kernel
theorem d2 : decode yB 2 = .ok (.if_acmp (.ne) 5, 3) := by decide +kernel
theorem d5 : decode yB 5 = .ok (.iconst 1, 1) := by decide +kernel
theorem d6 : decode yB 6 = .ok (.ireturn, 1) := by decide +kernel
theorem d7 : decode yB 7 = .ok (.aload_n 1, 1) := by decide +kernel
theorem d8 : decode yB 8 = .ok (.instanceof 10, 3) := by decide +kernel
theorem d11 : decode yB 11 = .ok (.ifCond (.eq) 43, 3) := by decide +kernel
theorem d14 : decode yB 14 = .ok (.aload_n 1, 1) := by decide +kernel
theorem d15 : decode yB 15 = .ok (.checkcast 10, 3) := by decide +kernel
theorem d18 : decode yB 18 = .ok (.astore_n 2, 1) := by decide +kernel
theorem d19 : decode yB 19 = .ok (.getstatic 38, 3) := by decide +kernel
theorem d22 : decode yB 22 = .ok (.ifCond (.eq) 14, 3) := by decide +kernel
theorem d25 : decode yB 25 = .ok (.aload_n 0, 1) := by decide +kernel
theorem d26 : decode yB 26 = .ok (.getfield 15, 3) := by decide +kernel
theorem d29 : decode yB 29 = .ok (.aload_n 2, 1) := by decide +kernel
theorem d30 : decode yB 30 = .ok (.getfield 15, 3) := by decide +kernel
theorem d33 : decode yB 33 = .ok (.if_icmp (.ne) 21, 3) := by decide +kernel
theorem d36 : decode yB 36 = .ok (.aload_n 0, 1) := by decide +kernel
theorem d37 : decode yB 37 = .ok (.getfield 9, 3) := by decide +kernel
theorem d40 : decode yB 40 = .ok (.aload_n 2, 1) := by decide +kernel
theorem d41 : decode yB 41 = .ok (.getfield 9, 3) := by decide +kernel
theorem d44 : decode yB 44 = .ok (.invokestatic 541, 3) := by decide +kernel
theorem d47 : decode yB 47 = .ok (.ifCond (.eq) 7, 3) := by decide +kernel
theorem d50 : decode yB 50 = .ok (.iconst 1, 1) := by decide +kernel
theorem d51 : decode yB 51 = .ok (.goto 4, 3) := by decide +kernel
theorem d54 : decode yB 54 = .ok (.iconst 0, 1) := by decide +kernel
theorem d55 : decode yB 55 = .ok (.ireturn, 1) := by decide +kernel
def site : List Cond := [.classLink "java/lang/String" 10 "java/lang/String", .fieldLink "java/lang/String" 38 "java/lang/String" "COMPACT_STRINGS" "Z", .fieldLink "java/lang/String" 15 "java/lang/String" "coder" "B", .fieldLink "java/lang/String" 9 "java/lang/String" "value" "[B", LEq.tab] ++ staticW "java/lang/String" 541 LEq.yN
def tab : Cond := tabOf yN yB 3 (some .boolean) site
def P (x t : Addr) (V : Cell) (cd : Int32) (n : Nat) (f : Nat → Int32) (y t' : Addr) (V' : Cell) (cd' : Int32) (k : Nat) (g : Nat → Int32) (z : Int32) (args : Array Value) (s : State) : Prop := args = #[.ref x, .ref y] ∧ Txt x t V cd n f s ∧ Txt y t' V' cd' k g s ∧ StaticIs s "java/lang/String" "COMPACT_STRINGS" "Z" (.int z) ∧ ¬ z = 0
/-- equals(Object) of two Strings: whether the texts are the same -/
theorem law (l : Launch) (x t : Addr) (V : Cell) (cd : Int32) (n : Nat) (f : Nat → Int32) (y t' : Addr) (V' : Cell) (cd' : Int32) (k : Nat) (g : Nat → Int32) (z : Int32) : Law l yN 2 1 1 14 yB 3 (some .boolean) site (P x t V cd n f y t' V' cd' k g z) (Says01 (SameT n f k g)) [] 0 0 := by
  refine Law.of_walk (plainFor_of_name (by decide +kernel)) (by decide +kernel) (by decide +kernel) (by decide) (fun _ _ h => by rw [h.1]; rfl) (fun _ U U' hal hh h => ⟨h.1, h.2.1.mv hal hh, h.2.2.1.mv hal hh, h.2.2.2.1.there hal hh, h.2.2.2.2⟩) (fun r U U' V V' h1 hal h2 h => Says01.mv r U U' V V' h1 hal h2 h) ?_
  intro p e s m args below meth c s₁ X0 hexec hbytes hml hret hlk hnm hown hh0 W hP
  obtain ⟨rfl, hx, hy, s1, hz⟩ := hP
  have c1 : Steps p.tables e below (s₁.setTop (entryFrame m #[.ref x, .ref y] 3)) (s₁.setTop (mkF m 2 #[.val (.ref x), .val (.ref y), .unset] [.ref y, .ref x])) := Steps.trans (entry rfl) (by
    show Steps p.tables e below (s₁.setTop (mkF m 0 #[.val (.ref x), .val (.ref y), .unset] [])) _
    refine XS.aloadN X0.here hexec rfl (hb hbytes d0) rfl rfl ?_
    refine XS.aloadN X0.here hexec rfl (hb hbytes d1) rfl rfl ?_
    exact Steps.refl _)
  by_cases hxy : x = y
  · have c2 : Steps p.tables e below (s₁.setTop (entryFrame m #[.ref x, .ref y] 3)) (s₁.setTop (mkF m 6 #[.val (.ref x), .val (.ref y), .unset] [.int 1])) := c1.trans (by
      refine acmpNo X0.here hexec rfl (hb hbytes d2) rfl rfl rfl (by simp [acmp, hxy]) ?_
      refine iconstV X0.here hexec rfl 1 (hb hbytes d5) (by decide) ?_
      exact Steps.refl _)
    subst hxy
    have ec : cd = cd' := by
      obtain ⟨D, fd, a1, a2, a3⟩ := hx.2.2.1
      obtain ⟨D', fd', b1, b2, b3⟩ := hy.2.2.1
      cases a1.symm.trans b1
      obtain ⟨q1, q2, q3, q4⟩ := a2.1
      obtain ⟨r1, r2, r3, r4⟩ := b2.1
      cases q4.symm.trans r4
      cases a3.symm.trans b3; rfl
    have et : t = t' := by
      obtain ⟨D, fd, a1, a2, a3⟩ := hx.2.1
      obtain ⟨D', fd', b1, b2, b3⟩ := hy.2.1
      cases a1.symm.trans b1
      obtain ⟨q1, q2, q3, q4⟩ := a2.1
      obtain ⟨r1, r2, r3, r4⟩ := b2.1
      cases q4.symm.trans r4
      cases a3.symm.trans b3; rfl
    subst ec et
    have ev : V = V' := by cases hx.2.2.2.1.1.symm.trans hy.2.2.2.1.1; rfl
    subst ev
    have hs : SameT n f k g := (Cod.eqv hx.2.2.2.2.1 hy.2.2.2.2.1 hx.2.2.2.2.2 hy.2.2.2.2.2).mp ⟨rfl, fun _ _ => rfl⟩
    exact ⟨s₁, some (.int 1), _, _, _, X0, rfl, rfl, rfl, (fun h => by cases h), ⟨1, rfl, hh0, Or.inl ⟨rfl, hs⟩⟩, fun fs hl => c2.trans (X0.ireturnOut hexec hret rfl (Or.inr (Or.inl rfl)) (hb hbytes d6) hl)⟩
  · have c2 : Steps p.tables e below (s₁.setTop (entryFrame m #[.ref x, .ref y] 3)) (s₁.setTop (mkF m 8 #[.val (.ref x), .val (.ref y), .unset] [.ref y])) := c1.trans (by
      refine acmpYes X0.here hexec rfl (pc0 := 2) rfl (hb hbytes d2) rfl rfl rfl (by simp [acmp, hxy]) (by decide) rfl ?_
      refine XS.aloadN X0.here hexec rfl (hb hbytes d7) rfl rfl ?_
      exact Steps.refl _)
    obtain ⟨T3, X3, q3, st3⟩ := cinst X0 hexec hown (wk W (.classLink "java/lang/String" 10 "java/lang/String")) (hy.mv X0.warmed.alike hh0).1 (g := (mkF m 8 #[.val (.ref x), .val (.ref y), .unset] [.ref y])) rfl (rest := []) rfl (hb hbytes d8)
    have hh3 := q3.trans hh0
    have c4 : Steps p.tables e below (s₁.setTop (entryFrame m #[.ref x, .ref y] 3)) (T3.setTop (mkF m 15 #[.val (.ref x), .val (.ref y), .unset] [.ref y])) := (c2.trans (st3 _ (Steps.refl _))).trans (by
      refine XS.ifNo X3.here hexec rfl (hb hbytes d11) rfl (i0_eq_f (by decide)) ?_
      refine XS.aloadN X3.here hexec rfl (hb hbytes d14) rfl rfl ?_
      exact Steps.refl _)
    obtain ⟨T5, X5, q5, st5⟩ := cself X3 hexec hown (wk W (.classLink "java/lang/String" 10 "java/lang/String")) (hy.mv X3.warmed.alike hh3).1 (g := (mkF m 15 #[.val (.ref x), .val (.ref y), .unset] [.ref y])) rfl (rest := []) rfl (hb hbytes d15)
    have hh5 := q5.trans hh3
    have c6 : Steps p.tables e below (s₁.setTop (entryFrame m #[.ref x, .ref y] 3)) (T5.setTop (mkF m 19 #[.val (.ref x), .val (.ref y), .val (.ref y)] [])) := (c4.trans (st5 _ (Steps.refl _))).trans (by
      refine XS.astoreN X5.here hexec rfl (hb hbytes d18) rfl rfl rfl ?_
      exact Steps.refl _)
    obtain ⟨T7, X7, q7, st7⟩ := X5.sget hexec hown (wk W (.fieldLink "java/lang/String" 38 "java/lang/String" "COMPACT_STRINGS" "Z")) s1 (fun _ _ h => by rw [hh5]; exact h) (g := (mkF m 19 #[.val (.ref x), .val (.ref y), .val (.ref y)] [])) rfl (hb hbytes d19)
    have hh7 := q7.trans hh5
    have c8 : Steps p.tables e below (s₁.setTop (entryFrame m #[.ref x, .ref y] 3)) (T7.setTop (mkF m 26 #[.val (.ref x), .val (.ref y), .val (.ref y)] [.ref x])) := (c6.trans (st7 _ (Steps.refl _))).trans (by
      refine XS.ifNo X7.here hexec rfl (hb hbytes d22) rfl (i0_eq_f hz) ?_
      refine XS.aloadN X7.here hexec rfl (hb hbytes d25) rfl rfl ?_
      exact Steps.refl _)
    obtain ⟨T9, X9, q9, st9⟩ := X7.hget hexec hown (wk W (.fieldLink "java/lang/String" 15 "java/lang/String" "coder" "B")) (hx.mv X7.warmed.alike hh7).2.2.1 (g := (mkF m 26 #[.val (.ref x), .val (.ref y), .val (.ref y)] [.ref x])) rfl (rest := []) rfl (hb hbytes d26)
    have hh9 := q9.trans hh7
    have c10 : Steps p.tables e below (s₁.setTop (entryFrame m #[.ref x, .ref y] 3)) (T9.setTop (mkF m 30 #[.val (.ref x), .val (.ref y), .val (.ref y)] [.ref y, .int cd])) := (c8.trans (st9 _ (Steps.refl _))).trans (by
      refine XS.aloadN X9.here hexec rfl (hb hbytes d29) rfl rfl ?_
      exact Steps.refl _)
    obtain ⟨T11, X11, q11, st11⟩ := X9.hget hexec hown (wk W (.fieldLink "java/lang/String" 15 "java/lang/String" "coder" "B")) (hy.mv X9.warmed.alike hh9).2.2.1 (g := (mkF m 30 #[.val (.ref x), .val (.ref y), .val (.ref y)] [.ref y, .int cd])) rfl (rest := [.int cd]) rfl (hb hbytes d30)
    have hh11 := q11.trans hh9
    have c12 : Steps p.tables e below (s₁.setTop (entryFrame m #[.ref x, .ref y] 3)) (T11.setTop (mkF m 33 #[.val (.ref x), .val (.ref y), .val (.ref y)] [.int cd', .int cd])) := c10.trans (st11 _ (Steps.refl _))
    by_cases hcd : cd = cd'
    · subst hcd
      have c13 : Steps p.tables e below (s₁.setTop (entryFrame m #[.ref x, .ref y] 3)) (T11.setTop (mkF m 37 #[.val (.ref x), .val (.ref y), .val (.ref y)] [.ref x])) := c12.trans (by
        refine XS.icmpNo X11.here hexec rfl (hb hbytes d33) rfl (ii_ne_f rfl) ?_
        refine XS.aloadN X11.here hexec rfl (hb hbytes d36) rfl rfl ?_
        exact Steps.refl _)
      obtain ⟨T14, X14, q14, st14⟩ := X11.hget hexec hown (wk W (.fieldLink "java/lang/String" 9 "java/lang/String" "value" "[B")) (hx.mv X11.warmed.alike hh11).2.1 (g := (mkF m 37 #[.val (.ref x), .val (.ref y), .val (.ref y)] [.ref x])) rfl (rest := []) rfl (hb hbytes d37)
      have hh14 := q14.trans hh11
      have c15 : Steps p.tables e below (s₁.setTop (entryFrame m #[.ref x, .ref y] 3)) (T14.setTop (mkF m 41 #[.val (.ref x), .val (.ref y), .val (.ref y)] [.ref y, .ref t])) := (c13.trans (st14 _ (Steps.refl _))).trans (by
        refine XS.aloadN X14.here hexec rfl (hb hbytes d40) rfl rfl ?_
        exact Steps.refl _)
      obtain ⟨T16, X16, q16, st16⟩ := X14.hget hexec hown (wk W (.fieldLink "java/lang/String" 9 "java/lang/String" "value" "[B")) (hy.mv X14.warmed.alike hh14).2.1 (g := (mkF m 41 #[.val (.ref x), .val (.ref y), .val (.ref y)] [.ref y, .ref t])) rfl (rest := [.ref t]) rfl (hb hbytes d41)
      have hh16 := q16.trans hh14
      have c17 : Steps p.tables e below (s₁.setTop (entryFrame m #[.ref x, .ref y] 3)) (T16.setTop (mkF m 44 #[.val (.ref x), .val (.ref y), .val (.ref y)] [.ref t', .ref t])) := c15.trans (st16 _ (Steps.refl _))
      obtain ⟨v18, T18, X18, E18, g18⟩ := X16.callS hexec (LEq.law l t V t' V') hown (wks W (staticW "java/lang/String" 541 LEq.yN)) (wk W LEq.tab) (W := 0) (Nat.le_of_ble_eq_true rfl) (Nat.le_of_ble_eq_true rfl) (Nat.le_refl _) (Nat.le_refl _) (g := (mkF m 44 #[.val (.ref x), .val (.ref y), .val (.ref y)] [.ref t', .ref t])) rfl (by rw [hml]; rfl) c17 (argsL := [.ref t, .ref t']) (rest := []) rfl rfl (by show 2 * 0 + 0 ≤ _; decide) (hb hbytes d44) (⟨rfl, hx.2.2.2.1.mv X16.warmed.alike hh16, hx.2.2.2.2.1.ty, hy.2.2.2.1.mv X16.warmed.alike hh16, hy.2.2.2.2.1.ty⟩)
      obtain ⟨v, rfl, q18, hv⟩ := E18
      have iff := Cod.eqv hx.2.2.2.2.1 hy.2.2.2.2.1 hx.2.2.2.2.2 hy.2.2.2.2.2
      rcases hv with ⟨rfl, he⟩ | ⟨rfl, he⟩
      · have c19 : Steps p.tables e below (s₁.setTop (entryFrame m #[.ref x, .ref y] 3)) (T18.setTop (mkF m 55 #[.val (.ref x), .val (.ref y), .val (.ref y)] [.int 1])) := Steps.trans g18 (by
          refine XS.ifNo X18.here hexec rfl (hb hbytes d47) rfl (i0_eq_f (by decide)) ?_
          refine iconstV X18.here hexec rfl 1 (hb hbytes d50) (by decide) ?_
          refine XS.goto X18.here hexec rfl (pc0 := 51) rfl (hb hbytes d51) (by decide) rfl ?_
          exact Steps.refl _)
        exact ⟨T18, some (.int 1), _, _, _, X18, rfl, rfl, rfl, (fun h => by cases h), ⟨1, rfl, q18.trans hh16, Or.inl ⟨rfl, iff.mp he⟩⟩, fun fs hl => c19.trans (X18.ireturnOut hexec hret rfl (Or.inr (Or.inl rfl)) (hb hbytes d55) hl)⟩
      · have c19 : Steps p.tables e below (s₁.setTop (entryFrame m #[.ref x, .ref y] 3)) (T18.setTop (mkF m 55 #[.val (.ref x), .val (.ref y), .val (.ref y)] [.int 0])) := Steps.trans g18 (by
          refine XS.ifYes X18.here hexec rfl (pc0 := 47) rfl (hb hbytes d47) rfl (i0_eq_t rfl) (by decide) rfl ?_
          refine iconstV X18.here hexec rfl 0 (hb hbytes d54) (by decide) ?_
          exact Steps.refl _)
        exact ⟨T18, some (.int 0), _, _, _, X18, rfl, rfl, rfl, (fun h => by cases h), ⟨0, rfl, q18.trans hh16, Or.inr ⟨rfl, fun q => he (iff.mpr q)⟩⟩, fun fs hl => c19.trans (X18.ireturnOut hexec hret rfl (Or.inr (Or.inl rfl)) (hb hbytes d55) hl)⟩
    · have c13 : Steps p.tables e below (s₁.setTop (entryFrame m #[.ref x, .ref y] 3)) (T11.setTop (mkF m 55 #[.val (.ref x), .val (.ref y), .val (.ref y)] [.int 0])) := c12.trans (by
        refine XS.icmpYes X11.here hexec rfl (pc0 := 33) rfl (hb hbytes d33) rfl (ii_ne_t hcd) (by decide) rfl ?_
        refine iconstV X11.here hexec rfl 0 (hb hbytes d54) (by decide) ?_
        exact Steps.refl _)
      exact ⟨T11, some (.int 0), _, _, _, X11, rfl, rfl, rfl, (fun h => by cases h), ⟨0, rfl, hh11, Or.inr ⟨rfl, Cod.dif hx.2.2.2.2.1 hy.2.2.2.2.1 hcd⟩⟩, fun fs hl => c13.trans (X11.ireturnOut hexec hret rfl (Or.inr (Or.inl rfl)) (hb hbytes d55) hl)⟩
theorem pays {l : Launch} {R : Room} {p : Program} {e : Env} {below : List Frame} {s : State} {sargs : Array Value} {len W : Nat} (x t : Addr) (V : Cell) (cd : Int32) (n : Nat) (f : Nat → Int32) (y t' : Addr) (V' : Cell) (cd' : Int32) (k : Nat) (g : Nat → Int32) (z : Int32) (htab : tab.before sargs s = true) (hfr : 2 ≤ R.frames) (hlo : W + 28 ≤ R.locals) :
    Back l R p e below s sargs yN len W (fun A₁ a₁ => A₁.cells + 0 ≤ R.cells ∧ A₁.slots + 0 ≤ R.slots ∧ P x t V cd n f y t' V' cd' k g z a₁ A₁.U) (fun A₁ _ v₁ B₁ => Says01 (SameT n f k g) v₁ A₁.U B₁.U ∧ B₁.locs = A₁.locs ++ [] ∧ B₁.cells = A₁.cells + 0 ∧ B₁.slots = A₁.slots + 0) :=
  (law l x t V cd n f y t' V' cd' k g z).pays htab hfr (by omega)
end SEq
end StrChars
namespace StrChars.Road
open Jvm Sem ClassFile Op Lib Jvm.Stand Jvm.Free Jvm.Free.XT
open Jvm.Lib.Cold (StaticIs)
/-- the words of String.equals(Object) -/
abbrev wordsEq : List Jvm.Cond := [.code SEq.yN SEq.yB 3 (some .boolean), .initialized ST, .classLink ST 10 ST, .fieldLink ST 38 ST "COMPACT_STRINGS" "Z", .fieldLink ST 15 ST "coder" "B", .fieldLink ST 9 ST "value" "[B", .methodLink ST 541 LEq.yN, .static LEq.yN, .code LEq.yN LEq.yB 3 (some .boolean), .initialized "java/lang/StringLatin1"]
theorem tabEq_of {a : Array Value} {s : State} (h : ∀ w ∈ wordsEq, w.before a s = true) : SEq.tab.before a s = true := by
  have hl : LEq.tab.before a s = true := unparts (wk h (.code LEq.yN LEq.yB 3 (some .boolean))) (wks h (.initialized LEq.yN.cls :: LEq.site))
  have q := consq hl h
  exact unparts (wk q (.code SEq.yN SEq.yB 3 (some .boolean))) (wks q (.initialized SEq.yN.cls :: SEq.site))
theorem movedEq {Z s : State} {a0 args : Array Value} (hZ : Z.Warmed39 s.vm) (hw : ∀ d ∈ wordsEq, d.before a0 Z = true) : ∀ d ∈ wordsEq, d.before args s = true := fun d hd => by
  have t : ∀ d ∈ wordsEq, (d.onTables && d.keepsFace) = true := by decide +kernel
  exact RoadKit.mv hZ (hw d hd) (t d hd)
/-- the road's facts of a String, as the laws ask it -/
theorem txt_of {Z U : State} {a0 : Array Value} {kI : Nat} (wi : (Jvm.Cond.instantiable ST kI).before a0 Z = true) (al : Z.vm.Alike U.vm) {x t : Addr} {kb : ClassId} {cs : List Int32} {cd N2 : Int32} {vs : List Value} (E : RoadKit.Exa Z U.heap x ST) (V : RoadKit.Fld Z U.heap x ST "value" "[B" (.ref t)) (C : RoadKit.Fld Z U.heap x ST "coder" "B" (.int cd)) (K : RoadKit.Arv Z U.heap t kb .byte N2 vs (.int 0)) (hc : CodA cs cd N2 vs) (hb : ∀ c ∈ cs, ¬ c < 0 ∧ ¬ (65535 : Int32) < c) (l2 : cs.length ≤ 4000) :
    ∃ A, Txt x t A cd cs.length (fun j => cs.getD j 0) U := by
  obtain ⟨A, K1, K2, K3, K4, K5, K6⟩ := K
  have hcod := hc.cod (by omega) K3 K5
  obtain ⟨D, fV, fC, hB, F1, F2, g1, g2, -, -⟩ := strObj wi al E V C
  exact ⟨A, ⟨_, hB.2.2.1, D, hB.1, rfl, by cases q : D.vm <;> first | rfl | exact absurd q (hB.2.1.2 _)⟩, Has.of hB F1 g1, Has.of hB F2 g2, ⟨K1.1, State.isArrayOf_alike al K1.2.1, K1.2.2, by rcases hcod with ⟨-, q, -⟩ | ⟨-, q, -⟩ <;> omega⟩, hcod, fun j hj => by
    have e : cs.getD j 0 = cs[j] := by simp [List.getD_eq_getElem?_getD, hj]
    show ¬ cs.getD j 0 < 0 ∧ ¬ 65535 < cs.getD j 0
    rw [e]; exact hb _ (List.getElem_mem _)⟩
theorem same_list (cs ds : List Int32) : SameT cs.length (fun j => cs.getD j 0) ds.length (fun j => ds.getD j 0) ↔ cs = ds := by
  constructor
  · rintro ⟨e, q⟩
    refine List.ext_getElem e fun j h1 h2 => ?_
    have := q j h1
    simpa [List.getD_eq_getElem?_getD, h1, h2] using this
  · rintro rfl
    exact ⟨rfl, fun _ _ => rfl⟩
/-- **equals(Object) OF TWO SUCH STRINGS**: 1 just where the chars are the same -/
theorem eqW {p : Program} {l : Launch} {e : Env} {R : Room} {s : State} {args : Array Value} {below : List Frame} {len W : Nat} {Z : State} {a0 : Array Value} {h : Heap} (hZ : Z.Warmed39 s.vm) (hw : ∀ d ∈ wordsEq, d.before a0 Z = true) {kI : Nat} (wi : (Jvm.Cond.instantiable ST kI).before a0 Z = true)
    {x t : Addr} {kb : ClassId} {cs : List Int32} {cd N2 : Int32} {vs : List Value} (E : RoadKit.Exa Z h x ST) (V : RoadKit.Fld Z h x ST "value" "[B" (.ref t)) (C : RoadKit.Fld Z h x ST "coder" "B" (.int cd)) (K : RoadKit.Arv Z h t kb .byte N2 vs (.int 0)) (hc : CodA cs cd N2 vs) (hb : ∀ c ∈ cs, ¬ c < 0 ∧ ¬ (65535 : Int32) < c) (l2 : cs.length ≤ 4000)
    {y t' : Addr} {kb' : ClassId} {ds : List Int32} {cd' N2' : Int32} {vs' : List Value} (E' : RoadKit.Exa Z h y ST) (V' : RoadKit.Fld Z h y ST "value" "[B" (.ref t')) (C' : RoadKit.Fld Z h y ST "coder" "B" (.int cd')) (K' : RoadKit.Arv Z h t' kb' .byte N2' vs' (.int 0)) (hc' : CodA ds cd' N2' vs') (hb' : ∀ c ∈ ds, ¬ c < 0 ∧ ¬ (65535 : Int32) < c) (l2' : ds.length ≤ 4000)
    {z : Int32} (S : RoadKit.Sta Z h ST "COMPACT_STRINGS" "Z" (.int z)) (hz : ¬ z = 0) (hfr : 2 ≤ R.frames) (hlo : W + 28 ≤ R.locals) :
    Back l R p e below s args (⟨"java/lang/String", "equals", "(Ljava/lang/Object;)Z"⟩ : MethodName) len W (fun P a => a = #[.ref x, .ref y] ∧ P.U.heap = h ∧ P.cells + 0 ≤ R.cells ∧ P.slots + 0 ≤ R.slots)
      (fun P _ v B => ∃ L, (((v = some (.int 1) ∧ cs = ds) ∨ (v = some (.int 0) ∧ ¬ cs = ds)) ∧ L = [] ∧ B.U.heap = h) ∧ B.locs = P.locs ++ L ∧ B.cells = P.cells + 0 ∧ B.slots = P.slots + 0) := by
  intro m meth c P g ig mk a X hg hsize hdg hW hn hp'
  obtain ⟨rfl, rfl, r1, r2⟩ := hp'
  have al : Z.vm.Alike P.U.vm := hZ.alike.trans X.warmed.alike
  obtain ⟨A, hx⟩ := txt_of wi al E V C K hc hb l2
  obtain ⟨A', hy⟩ := txt_of wi al E' V' C' K' hc' hb' l2'
  obtain ⟨v, B, X', ⟨⟨w, hv, hh, hq⟩, hl, hk, hs⟩, st⟩ := SEq.pays x t A cd cs.length (fun j => cs.getD j 0) y t' A' cd' ds.length (fun j => ds.getD j 0) z (tabEq_of (movedEq hZ hw)) hfr hlo m meth c P g ig mk _ X hg hsize hdg hW hn ⟨r1, r2, rfl, hx, hy, sta_is al S, hz⟩
  refine ⟨v, B, X', ⟨[], ⟨?_, rfl, hh⟩, hl, hk, hs⟩, st⟩
  rcases hq with ⟨rfl, q⟩ | ⟨rfl, q⟩
  · exact Or.inl ⟨hv, (same_list cs ds).mp q⟩
  · exact Or.inr ⟨hv, fun e => q ((same_list cs ds).mpr e)⟩
end StrChars.Road
namespace StrChars.Road
open Jvm Sem ClassFile Op Lib Jvm.Stand Jvm.Free Jvm.Free.XT
open Jvm.Lib.Cold (StaticIs)
/-- what backV says of its String, as the contracts of this text ask it: cs's low bytes, coder 0 -/
theorem codOf {cs : List Int32} {n : Nat} (hn : cs.length = n) (hb : ∀ c ∈ cs, ¬ 255 < c) : CodA cs 0 (Int32.ofNat n) ((cs.map lo8).map Value.int) := Or.inl ⟨rfl, by rw [hn], by simp [List.map_map, Function.comp_def], hb⟩
end StrChars.Road
end Jvm.Pilot.@@N@@

namespace Jvm.Pilot.@@N@@
open Jvm Jvm.ClassFile Sem Op Lib Jvm.Free Jvm.Stand Jvm.LawKit Jvm.RoadKit Bundle Jvm.Pilot.@@N@@.Jvm.D
/-! own words: where a body stands (own_C), how it ends (own_Ends), one step ahead of that (own_step), the returns -/
def own_C (cls : String) (code : ByteArray) (ml : Nat) (rt : Option FieldType) (nm : String) (p : Program) (s : State) (m : MethodId) (meth : Method) (c : Code) (Z : State) (a0 : Array Value) : Prop :=
  p.tables.exec = Jvm.exec ∧ Z.Warmed39 s.vm ∧ (∀ d ∈ tables_1, d.before a0 Z = true) ∧ c.code = code ∧ c.maxLocals = ml ∧ s.vm.findClass cls = some m.cls ∧ meth.sig.returnType = rt ∧ meth.locks = false ∧ meth.name = nm
def own_Q (n0 : Nat) (h0 : Heap) (w : Option Value) (v : Option Value) (h : Heap) (L : List Loc) : Prop := v = w ∧ Fr n0 L ∧ h = h0
def own_QL (n0 : Nat) (w : Option Value) (v : Option Value) (h : Heap) (L : List Loc) : Prop := v = w ∧ Fr n0 L ∧ True
def own_QR (n0 : Nat) (h0 : Heap) (v : Option Value) (h : Heap) (L : List Loc) : Prop := ∃ b : Addr, v = some (.ref b) ∧ Fr n0 L ∧ Keep h0 h []
def own_Ends (p : Program) (e : Env) (below : List Frame) (s : State) (kc ks : Nat) (Q : Option Value → Heap → List Loc → Prop) (T : State) (g : JFrame) : Prop :=
  ∃ s₂ o, Steps p.tables e below (T.setTop g) s₂ ∧ s₂.status = .running ∧ Ended s₂ below o ∧ ∃ v L, o = .returned v ∧ Q v s₂.heap L ∧ FrameEnd s o s₂ L kc ks
theorem own_step {p : Program} {e : Env} {below : List Frame} {s : State} {kc ks : Nat} {Q : Option Value → Heap → List Loc → Prop} {T T' : State} {g g' : JFrame}
    (st : ∀ target, Steps p.tables e below (T'.setTop g') target → Steps p.tables e below (T.setTop g) target) (h : own_Ends p e below s kc ks Q T' g') : own_Ends p e below s kc ks Q T g := by
  obtain ⟨s₂, o, h1, r⟩ := h
  exact ⟨s₂, o, st _ h1, r⟩
theorem own_mono {p : Program} {e : Env} {below : List Frame} {s : State} {kc ks : Nat} {Q Q' : Option Value → Heap → List Loc → Prop} {T : State} {g : JFrame} (h : own_Ends p e below s kc ks Q T g) (hq : ∀ v h L, Q v h L → Q' v h L) : own_Ends p e below s kc ks Q' T g := by
  obtain ⟨s₂, o, h1, h2, h3, v, L, h4, h5, h6⟩ := h
  exact ⟨s₂, o, h1, h2, h3, v, L, h4, hq _ _ _ h5, h6⟩
theorem own_nn {v : Value} (h : v.isRef = true) (q : ¬ v = .null) : ∃ y, v = .ref y := (ref_cases h).resolve_left q
theorem own_eqR {Z : State} {args : Array Value} {X F : Term} {idx : List Nat} {y : Addr} (hF : F.eval args Z none idx Z = some (.ref y)) (h : (Cond.eq X F).value args Z none Z idx = some true) : X.eval args Z none idx Z = some (.ref y) := by
  obtain ⟨x, y', e1, e2, k1, k2⟩ := cmp_v (Or.inl h)
  cases hF.symm.trans e2
  have hx : x.isRef = true := k2.2
  have := gotT (eq_R e1 hF hx rfl) h
  exact e1.trans (congrArg some this)
theorem own_lmod (x y : Int64) : x - (x / y) * y = x % y := by
  apply Int64.toInt_inj.mp
  have h1 := Int64.le_toInt (x % y)
  have h2 := Int64.toInt_lt (x % y)
  rw [Int64.toInt_sub, Int64.toInt_mul, Int64.toInt_div, Int.bmod_mul_bmod, Int.sub_bmod_bmod, Int.mul_comm (x.toInt.tdiv y.toInt), ← Int.tmod_def, ← Int64.toInt_mod]
  exact Int.bmod_eq_of_le_mul_two (by omega) (by omega)
theorem own_lremM {p : Program} {l : Launch} {e : Env} {R : Room} {s : State} {m : MethodId} {args : Array Value} {below : List Frame} {meth : Method} {c : Code} {T target : State} {locs : List Loc} {cells slots : Nat} {g : JFrame} (X : Stand p l e R s m args below meth c T locs cells slots) (hx : p.tables.exec = Jvm.exec) (hg : g.method = m) {x y : Int64} {rest : List Value} (hd : decode c.code g.pc = .ok (.lrem, 1)) (hs : g.stack = .long y :: .long x :: rest) (hy : y ≠ 0)
    (hr : Steps p.tables e below (T.setTop { g with pc := g.pc + 1, stack := .long (x % y) :: rest }) target) : Steps p.tables e below (T.setTop g) target :=
  XS.lrem X.here hx hg hd hs hy (by rw [own_lmod]; exact hr)
section OwnRet
variable {p : Program} {l : Launch} {e : Env} {R : Room} {s : State} {m : MethodId} {args : Array Value} {below : List Frame} {meth : Method} {c : Code} {T : State} {locs : List Loc} {cells slots : Nat} {kc ks : Nat} {Q : Option Value → Heap → List Loc → Prop}
theorem own_retO (X : Stand p l e R s m args below meth c T locs cells slots) (hx : p.tables.exec = Jvm.exec) {t : FieldType} (hret : meth.sig.returnType = some t) (hlk : meth.locks = false) {pc : Nat} {Ls : Array Slot} {w : Value} {i : Instr} {rest : List Value} (hn : narrow t w = w)
    (hi : (i = .ireturn ∧ (t = .int ∨ t = .boolean ∨ t = .byte ∨ t = .char ∨ t = .short) ∧ ∃ z, w = .int z) ∨ (i = .lreturn ∧ t = .long ∧ ∃ z, w = .long z) ∨ (i = .dreturn ∧ t = .double ∧ ∃ z, w = .double z) ∨ (i = .freturn ∧ t = .float ∧ ∃ z, w = .float z) ∨ (i = .areturn ∧ t.isReference = true ∧ w.isRef = true))
    (hd : decode c.code pc = .ok (i, 1)) (hc : cells ≤ kc) (hs : slots ≤ ks) (hQ : Q (some w) T.heap locs) : own_Ends p e below s kc ks Q T (mkF m pc Ls (w :: rest)) := by
  obtain ⟨fs, hr, hrun, hended, hW, hsame⟩ := X.leave (v := some w) (fun h => by rw [hret] at h; cases h) hlk
  exact ⟨_, _, retOut X hx hret hn hi hd hr, hrun, hended, _, _, rfl, hQ, ⟨_, rfl⟩, hW, hsame.mono hc hs⟩
theorem own_retI (X : Stand p l e R s m args below meth c T locs cells slots) (hx : p.tables.exec = Jvm.exec) (hret : meth.sig.returnType = some .int) (hlk : meth.locks = false) {pc : Nat} {Ls : Array Slot} {z : Int32} {rest : List Value}
    (hd : decode c.code pc = .ok (.ireturn, 1)) (hc : cells ≤ kc) (hs : slots ≤ ks) (hQ : Q (some (.int z)) T.heap locs) : own_Ends p e below s kc ks Q T (mkF m pc Ls (.int z :: rest)) :=
  own_retO X hx hret hlk rfl (Or.inl ⟨rfl, Or.inl rfl, z, rfl⟩) hd hc hs hQ
theorem own_retJ (X : Stand p l e R s m args below meth c T locs cells slots) (hx : p.tables.exec = Jvm.exec) (hret : meth.sig.returnType = some .long) (hlk : meth.locks = false) {pc : Nat} {Ls : Array Slot} {z : Int64} {rest : List Value}
    (hd : decode c.code pc = .ok (.lreturn, 1)) (hc : cells ≤ kc) (hs : slots ≤ ks) (hQ : Q (some (.long z)) T.heap locs) : own_Ends p e below s kc ks Q T (mkF m pc Ls (.long z :: rest)) :=
  own_retO X hx hret hlk rfl (Or.inr (Or.inl ⟨rfl, rfl, z, rfl⟩)) hd hc hs hQ
theorem own_retR (X : Stand p l e R s m args below meth c T locs cells slots) (hx : p.tables.exec = Jvm.exec) {t : FieldType} (hret : meth.sig.returnType = some t) (hlk : meth.locks = false) {pc : Nat} {Ls : Array Slot} {w : Value} {rest : List Value}
    (hd : decode c.code pc = .ok (.areturn, 1)) (hc : cells ≤ kc) (hs : slots ≤ ks) (ht : t.isReference = true) (hw : w.isRef = true) (hQ : Q (some w) T.heap locs) : own_Ends p e below s kc ks Q T (mkF m pc Ls (w :: rest)) :=
  own_retO X hx hret hlk (by cases t <;> first | rfl | cases ht) (Or.inr (Or.inr (Or.inr (Or.inr ⟨rfl, ht, hw⟩)))) hd hc hs hQ
theorem own_retN (X : Stand p l e R s m args below meth c T locs cells slots) {t : FieldType} (hx : p.tables.exec = Jvm.exec) (hret : meth.sig.returnType = some t) (hlk : meth.locks = false) {pc : Nat} {Ls : Array Slot} {z : Int32} {rest : List Value}
    (hd : decode c.code pc = .ok (.ireturn, 1)) (hc : cells ≤ kc) (hs : slots ≤ ks) (ht : t = .boolean ∨ t = .byte ∨ t = .char ∨ t = .short) (hQ : Q (some (.int (nar t z))) T.heap locs) : own_Ends p e below s kc ks Q T (mkF m pc Ls (.int z :: rest)) := by
  obtain ⟨fs, hr, hrun, hended, hW, hsame⟩ := X.leave (v := some (.int (nar t z))) (fun h => by rw [hret] at h; cases h) hlk
  exact ⟨_, _, retN X hx hret ht hd hr, hrun, hended, _, _, rfl, hQ, ⟨_, rfl⟩, hW, hsame.mono hc hs⟩
theorem own_retV (X : Stand p l e R s m args below meth c T locs cells slots) (hx : p.tables.exec = Jvm.exec) (hret : meth.sig.returnType = none) (hlk : meth.locks = false) {pc : Nat} {Ls : Array Slot}
    (hd : decode c.code pc = .ok (.return_, 1)) (hc : cells ≤ kc) (hs : slots ≤ ks) (hQ : Q none T.heap locs) : own_Ends p e below s kc ks Q T (mkF m pc Ls []) := by
  obtain ⟨fs, hr, hrun, hended, hW, hsame⟩ := X.leave (v := none) (fun _ => rfl) hlk
  exact ⟨_, _, X.returnOut hx hret hd hr, hrun, hended, _, _, rfl, hQ, ⟨_, rfl⟩, hW, hsame.mono hc hs⟩
end OwnRet
/-! the same for a body that may load String constants (the wide frame) -/
def own_EndsW (p : Program) (e : Env) (below : List Frame) (s : State) (kc ks : Nat) (Q : Option Value → Heap → List Loc → Prop) (T : State) (g : JFrame) : Prop :=
  ∃ s₂ o, Steps p.tables e below (T.setTop g) s₂ ∧ s₂.status = .running ∧ Ended s₂ below o ∧ ∃ v L, o = .returned v ∧ Q v s₂.heap L ∧ ReturnedEndW s o s₂ L kc ks
theorem own_stepW {p : Program} {e : Env} {below : List Frame} {s : State} {kc ks : Nat} {Q : Option Value → Heap → List Loc → Prop} {T T' : State} {g g' : JFrame}
    (st : ∀ target, Steps p.tables e below (T'.setTop g') target → Steps p.tables e below (T.setTop g) target) (h : own_EndsW p e below s kc ks Q T' g') : own_EndsW p e below s kc ks Q T g := by
  obtain ⟨s₂, o, h1, r⟩ := h
  exact ⟨s₂, o, st _ h1, r⟩
section OwnRetW
variable {p : Program} {l : Launch} {e : Env} {R : Room} {s : State} {vm0 : Vm} {k0 : Nat} {m : MethodId} {args : Array Value} {below : List Frame} {meth : Method} {c : Code} {T : State} {locs : List Loc} {cells slots : Nat} {kc ks : Nat} {Q : Option Value → Heap → List Loc → Prop}
theorem own_retOW (X : Stand p l e R (s.setVm vm0) m args below meth c T locs cells slots) (hS : s.Since vm0 k0) (hk : k0 ≤ T.heap.size) (hx : p.tables.exec = Jvm.exec) {t : FieldType} (hret : meth.sig.returnType = some t) (hlk : meth.locks = false) {pc : Nat} {Ls : Array Slot} {w : Value} {i : Instr} {rest : List Value} (hn : narrow t w = w)
    (hi : (i = .ireturn ∧ (t = .int ∨ t = .boolean ∨ t = .byte ∨ t = .char ∨ t = .short) ∧ ∃ z, w = .int z) ∨ (i = .lreturn ∧ t = .long ∧ ∃ z, w = .long z) ∨ (i = .dreturn ∧ t = .double ∧ ∃ z, w = .double z) ∨ (i = .freturn ∧ t = .float ∧ ∃ z, w = .float z) ∨ (i = .areturn ∧ t.isReference = true ∧ w.isRef = true))
    (hd : decode c.code pc = .ok (i, 1)) (hc : cells ≤ kc) (hs : slots ≤ ks) (hQ : Q (some w) T.heap locs) : own_EndsW p e below s kc ks Q T (mkF m pc Ls (w :: rest)) := by
  obtain ⟨fs, hr, hrun, hended, e1, e2, e3, e4⟩ := X.leaveW hS hk (v := some w) (fun h => by rw [hret] at h; cases h) hlk
  exact ⟨_, _, retOut X hx hret hn hi hd hr, hrun, hended, _, _, rfl, hQ, e1, e2, e3, e4.mono hc hs⟩
theorem own_retRW (X : Stand p l e R (s.setVm vm0) m args below meth c T locs cells slots) (hS : s.Since vm0 k0) (hk : k0 ≤ T.heap.size) (hx : p.tables.exec = Jvm.exec) {t : FieldType} (hret : meth.sig.returnType = some t) (hlk : meth.locks = false) {pc : Nat} {Ls : Array Slot} {w : Value} {rest : List Value}
    (hd : decode c.code pc = .ok (.areturn, 1)) (hc : cells ≤ kc) (hs : slots ≤ ks) (ht : t.isReference = true) (hw : w.isRef = true) (hQ : Q (some w) T.heap locs) : own_EndsW p e below s kc ks Q T (mkF m pc Ls (w :: rest)) :=
  own_retOW X hS hk hx hret hlk (by cases t <;> first | rfl | cases ht) (Or.inr (Or.inr (Or.inr (Or.inr ⟨rfl, ht, hw⟩)))) hd hc hs hQ
theorem own_retNW (X : Stand p l e R (s.setVm vm0) m args below meth c T locs cells slots) (hS : s.Since vm0 k0) (hk : k0 ≤ T.heap.size) {t : FieldType} (hx : p.tables.exec = Jvm.exec) (hret : meth.sig.returnType = some t) (hlk : meth.locks = false) {pc : Nat} {Ls : Array Slot} {z : Int32} {rest : List Value}
    (hd : decode c.code pc = .ok (.ireturn, 1)) (hc : cells ≤ kc) (hs : slots ≤ ks) (ht : t = .boolean ∨ t = .byte ∨ t = .char ∨ t = .short) (hQ : Q (some (.int (nar t z))) T.heap locs) : own_EndsW p e below s kc ks Q T (mkF m pc Ls (.int z :: rest)) := by
  obtain ⟨fs, hr, hrun, hended, e1, e2, e3, e4⟩ := X.leaveW hS hk (v := some (.int (nar t z))) (fun h => by rw [hret] at h; cases h) hlk
  exact ⟨_, _, retN X hx hret ht hd hr, hrun, hended, _, _, rfl, hQ, e1, e2, e3, e4.mono hc hs⟩
end OwnRetW

def own_EL : List (String × Nat) := [("java/lang/String", 7)]
theorem own_wS {Z : State} {a0 : Array Value} (hw : ∀ d ∈ tables_1, d.before a0 Z = true) : ∀ a ∈ Bundle.stringAtoms, a.before a0 Z = true := fun a ha => by
  simp only [Bundle.stringAtoms, List.mem_cons, List.not_mem_nil, or_false] at ha
  rcases ha with rfl | rfl | rfl | rfl | rfl | rfl | rfl
  · exact hw _ (List.mem_of_getElem? (i := 7) rfl)
  · exact hw _ (List.mem_of_getElem? (i := 6) rfl)
  · exact hw _ (List.mem_of_getElem? (i := 23) rfl)
  · exact hw _ (List.mem_of_getElem? (i := 33) rfl)
  · exact hw _ (List.mem_of_getElem? (i := 31) rfl)
  · exact hw _ (List.mem_of_getElem? (i := 55) rfl)
  · exact hw _ (List.mem_of_getElem? (i := 56) rfl)
theorem own_EW {Z : State} {a0 : Array Value} (hw : ∀ d ∈ tables_1, d.before a0 Z = true) : EW Z a0 own_EL := EW.cons (text := "") (hw _ (List.mem_of_getElem? (i := 54) rfl)) (by decide) EW.nil
theorem own_ws {Z : State} {a0 : Array Value} (hw : ∀ d ∈ tables_1, d.before a0 Z = true) : ∀ d ∈ StrChars.Road.words, d.before a0 Z = true := fun d hd => hw d ((by decide +kernel : ∀ d ∈ StrChars.Road.words, d ∈ tables_1) d hd)
theorem own_weq {Z : State} {a0 : Array Value} (hw : ∀ d ∈ tables_1, d.before a0 Z = true) : ∀ d ∈ StrChars.Road.wordsEq, d.before a0 Z = true := fun d hd => hw d ((by decide +kernel : ∀ d ∈ StrChars.Road.wordsEq, d ∈ tables_1) d hd)
theorem own_backSH {p : Program} {l : Launch} {e : Env} {R : Room} {s : State} {args : Array Value} {below : List Frame} {Z : State} {a0 : Array Value} {EL : List (String × Nat)} {h : Heap} {vm0 : Vm} {xs : List Addr} {y : MethodName} {bytes : ByteArray} {maxL : Nat} {ret : Option FieldType} {rm : Room} {len W : Nat} {as' : Array Value} {Q : Option Value → Heap → List Loc → Prop}
    (hM : MetFree l y (head1 [Cond.code y bytes maxL ret] rm) (fun a U => a = as' ∧ Z.Warmed39 U.vm ∧ U.heap = h ∧ CHv Z EL U.vm h ∧ ∀ x ∈ xs, Safe Z EL U.vm h x) (fun _ _ _ _ _ => True) (fun _ U o U' => ∃ v L, o = .returned v ∧ Q v U'.heap L ∧ ReturnedEndW U o U' L rm.cells rm.slots))
    (hZ : Z.Warmed39 vm0) (wc : (Cond.code y bytes maxL ret).before a0 Z = true) (wz : (Cond.initialized y.cls).before a0 Z = true) (hf : rm.frames + 1 ≤ R.frames) (hl : W + (maxL + 11) + rm.locals ≤ R.locals) (hEL : EW Z a0 EL) (H : CHv Z EL vm0 h) (hxs : ∀ x ∈ xs, x < h.size ∧ Safe Z EL vm0 h x) :
    BackS l R p e below (s.setVm vm0) args y len W (fun A a => a = as' ∧ A.U.heap = h ∧ A.cells + rm.cells ≤ R.cells ∧ A.slots + rm.slots ≤ R.slots)
      (fun A _ v B => ∃ L, Q v B.U.heap L ∧ B.locs = A.locs ++ L ∧ B.cells = A.cells + rm.cells ∧ B.slots = A.slots + rm.slots) :=
  BackS.of_freeW (bytes := bytes) (maxL := maxL) (ret := ret) (E := fun _ first o t L k n => k = rm.cells ∧ n = rm.slots ∧ ∃ v, o = .returned v ∧ Q v t.heap L) hM hf hl
    (fun m meth c A a Y hp => have hU : Z.Warmed39 A.U.vm := wtrans (s := s.setVm vm0) hZ Y.warmed
      ⟨by show (Cond.and _ .tt).before a A.U = true; rw [Cond.before_and, mv hU wc]; rfl, mv hU wc, mv hU wz, hp.2.2.1, hp.2.2.2⟩)
    (fun m meth c A a g mk Y hp => ⟨hp.1, wtrans (s := s.setVm vm0) hZ Y.warmed, hp.2.1, (CHv.at Y hZ hEL H).1, fun x hx => (CHv.at Y hZ hEL H).safe (hxs x hx).1 (hxs x hx).2⟩) (fun _ _ _ _ _ _ _ _ _ => trivial)
    (fun _ _ _ _ ⟨v, L, h1, h2, h4⟩ => ⟨L, _, _, h4, rfl, rfl, v, h1, h2⟩)
    (fun m meth c A a g mk v t L k n Y hp _ _ ⟨e1, e2, v', e3, e4⟩ => by cases e3; subst e1 e2; exact ⟨L, e4, rfl, rfl, rfl⟩)
theorem own_sf0 {n : Nat} {P : Addr → Prop} : ∀ x ∈ ([] : List Addr), x < n ∧ P x := fun _ q => nomatch q
theorem own_sf1 {a : Addr} {n : Nat} {P : Addr → Prop} (h : a < n) (q : P a) : ∀ x ∈ [a], x < n ∧ P x := fun x hx => by cases List.mem_singleton.mp hx; exact ⟨h, q⟩
theorem own_retVW {p : Program} {l : Launch} {e : Env} {R : Room} {s : State} {vm0 : Vm} {k0 : Nat} {m : MethodId} {args : Array Value} {below : List Frame} {meth : Method} {c : Code} {T : State} {locs : List Loc} {cells slots : Nat} {kc ks : Nat} {Q : Option Value → Heap → List Loc → Prop}
    (X : Stand p l e R (s.setVm vm0) m args below meth c T locs cells slots) (hS : s.Since vm0 k0) (hk : k0 ≤ T.heap.size) (hx : p.tables.exec = Jvm.exec) (hret : meth.sig.returnType = none) (hlk : meth.locks = false) {pc : Nat} {Ls : Array Slot}
    (hd : decode c.code pc = .ok (.return_, 1)) (hc : cells ≤ kc) (hs : slots ≤ ks) (hQ : Q none T.heap locs) : own_EndsW p e below s kc ks Q T (mkF m pc Ls []) := by
  obtain ⟨fs, hr, hrun, hended, e1, e2, e3, e4⟩ := X.leaveW hS hk (v := none) (fun _ => rfl) hlk
  exact ⟨_, _, X.returnOut hx hret hd hr, hrun, hended, _, _, rfl, hQ, e1, e2, e3, e4.mono hc hs⟩
def own_QI (Z : State) (n0 : Nat) (h0 : Heap) (o0 : Addr) (v : Option Value) (h : Heap) (L : List Loc) : Prop :=
  v = none ∧ Fr n0 L ∧ Keep h0 h [o0] ∧ Fld Z h o0 "java/lang/String" "coder" "B" (.int 0) ∧ ∃ (t : Addr) (kb : ClassId), Fld Z h o0 "java/lang/String" "value" "[B" (.ref t) ∧ Arv Z h t kb .byte (0 : Int32) [] (.int 0)
def own_QT (Z : State) (n0 : Nat) (h0 : Heap) (z : Int32) (cs : List Int32) (v : Option Value) (h : Heap) (L : List Loc) : Prop :=
  ∃ (b t : Addr) (kb : ClassId), v = some (.ref b) ∧ Fr n0 L ∧ Keep h0 h [] ∧ Exa Z h b "java/lang/String" ∧ Fld Z h b "java/lang/String" "coder" "B" (.int 0) ∧ Fld Z h b "java/lang/String" "value" "[B" (.ref t) ∧ Arv Z h t kb .byte z ((cs.map StrChars.lo8).map Value.int) (.int 0)
theorem own_nb {Z : State} {h : Heap} {a : Addr} {C n d : String} (F : Fld Z h a C n d (.int (nar .byte (0 : Int32)))) : Fld Z h a C n d (.int 0) := by
  have e : nar .byte (0 : Int32) = 0 := by decide
  rw [e] at F; exact F
theorem own_getD (l : List Int32) (n : Nat) : (l.map Value.int).getD n (.int 0) = .int (l.getD n 0) := by
  induction l generalizing n with
  | nil => rfl
  | cons a l ih => cases n with
    | zero => rfl
    | succ n => exact ih n
def own_set (l : List Int32) (j v : Int32) : List Int32 := l.set j.toNatClampNeg (nar .char v)
theorem own_setlen (l : List Int32) (j v : Int32) : (own_set l j v).length = l.length := by unfold own_set; simp
theorem own_arvset {Z : State} {h : Heap} {a : Addr} {k : ClassId} {ty : FieldType} {z : Int32} {l : List Int32} {j v : Int32} {d : Value} (F : Arv Z h a k ty z ((l.map Value.int).set j.toNatClampNeg (.int (nar .char v))) d) : Arv Z h a k ty z ((own_set l j v).map Value.int) d := by
  have e : (own_set l j v).map Value.int = (l.map Value.int).set j.toNatClampNeg (.int (nar .char v)) := by unfold own_set; rw [List.map_set]
  rw [e]; exact F
def own_R (x : Int32) : Prop := ¬ x < 0 ∧ ¬ (255 : Int32) < x
theorem own_narR {x : Int32} (h : own_R x) : nar .char x = x := by
  have t : ∀ k : Fin 256, nar .char (Int32.ofNat k.val) = Int32.ofNat k.val := by decide +kernel
  obtain ⟨h1, h2⟩ := h
  rw [Int32.lt_iff_toInt_lt, show (0 : Int32).toInt = 0 from rfl] at h1
  rw [Int32.lt_iff_toInt_lt, show (255 : Int32).toInt = 255 from rfl] at h2
  have e : x = Int32.ofNat x.toInt.toNat := by
    apply Int32.toInt_inj.mp
    rw [Int32.toInt_ofNat_of_lt (by omega)]; omega
  rw [e]; exact t ⟨x.toInt.toNat, by omega⟩
theorem own_c255 (x : Int32) : own_R (nar .char ((x &&& (255 : Int32)).toUInt32.toUInt16.toUInt32.toInt32)) := by
  have t : ∀ k : Fin 256, ¬ nar .char ((Int32.ofNat k.val).toUInt32.toUInt16.toUInt32.toInt32) < 0 ∧ ¬ (255 : Int32) < nar .char ((Int32.ofNat k.val).toUInt32.toUInt16.toUInt32.toInt32) := by decide +kernel
  have h : (x &&& 255).toBitVec.toNat < 256 := by
    simp only [Int32.toBitVec_and, BitVec.toNat_and]
    exact Nat.lt_succ_of_le Nat.and_le_right
  have e : (x &&& 255) = Int32.ofNat (x &&& 255).toBitVec.toNat := by
    apply Int32.toBitVec_inj.mp
    show _ = BitVec.ofNat 32 _
    rw [BitVec.ofNat_toNat]; simp
  unfold own_R; rw [e]
  exact t ⟨_, h⟩
theorem own_ln : ∀ c ∈ ([] : List Int32), own_R c := fun _ q => nomatch q
theorem own_lc {a : Int32} {l : List Int32} (h : own_R a) (q : ∀ c ∈ l, own_R c) : ∀ c ∈ a :: l, own_R c := fun c hc => by
  rcases List.mem_cons.mp hc with rfl | hc
  · exact h
  · exact q _ hc
theorem own_gR {l : List Int32} (h : ∀ c ∈ l, own_R c) (k : Nat) : own_R (l.getD k 0) := by
  by_cases q : k < l.length
  · have e : l.getD k 0 = l[k] := by simp [List.getD_eq_getElem?_getD, q]
    rw [e]; exact h _ (List.getElem_mem _)
  · have e : l.getD k 0 = 0 := by simp [List.getD_eq_getElem?_getD, Nat.not_lt.mp q]
    rw [e]; unfold own_R; decide
theorem own_rn {l : List Int32} (h : ∀ c ∈ l, own_R c) (k : Nat) : own_R (nar .char (l.getD k 0)) := by rw [own_narR (own_gR h k)]; exact own_gR h k
theorem own_rset {l : List Int32} {j v : Int32} (h : ∀ c ∈ l, own_R c) (q : own_R (nar .char v)) : ∀ c ∈ own_set l j v, own_R c := fun c hc => by
  rcases List.mem_or_eq_of_mem_set hc with hc | rfl
  · exact h _ hc
  · exact q
theorem own_up {cs : List Int32} (h : ∀ c ∈ cs, own_R c) : ∀ c ∈ cs, ¬ c < 0 ∧ ¬ (65535 : Int32) < c := fun c hc => ⟨(h c hc).1, fun q => (h c hc).2 (by rw [Int32.lt_iff_toInt_lt] at q ⊢; have e1 : (65535 : Int32).toInt = 65535 := rfl; have e2 : (255 : Int32).toInt = 255 := rfl; omega)⟩
theorem own_eqv {v : Option Value} {cs ds : List Int32} (h : (v = some (.int 1) ∧ cs = ds) ∨ (v = some (.int 0) ∧ ¬ cs = ds)) : v = some (.int (if cs = ds then (1 : Int32) else 0)) := by
  rcases h with ⟨h, q⟩ | ⟨h, q⟩
  · rw [if_pos q]; exact h
  · rw [if_neg q]; exact h
def own_nm1 : List Int32 := [110, 97, 109, 101]
def own_nm2 : List Int32 := [111, 114, 103]
def own_nm3 : List Int32 := [101, 109, 97, 105, 108]
theorem own_cd1 : StrChars.Road.CodA own_nm1 0 (4 : Int32) [.int 110, .int 97, .int 109, .int 101] := Or.inl ⟨rfl, rfl, rfl, by decide⟩
theorem own_cd2 : StrChars.Road.CodA own_nm2 0 (3 : Int32) [.int 111, .int 114, .int 103] := Or.inl ⟨rfl, rfl, rfl, by decide⟩
theorem own_cd3 : StrChars.Road.CodA own_nm3 0 (5 : Int32) [.int 101, .int 109, .int 97, .int 105, .int 108] := Or.inl ⟨rfl, rfl, rfl, by decide⟩
theorem own_bd1 : ∀ c ∈ own_nm1, ¬ c < 0 ∧ ¬ (65535 : Int32) < c := by decide
theorem own_bd2 : ∀ c ∈ own_nm2, ¬ c < 0 ∧ ¬ (65535 : Int32) < c := by decide
theorem own_bd3 : ∀ c ∈ own_nm3, ¬ c < 0 ∧ ¬ (65535 : Int32) < c := by decide
theorem own_len2 {s : State} {args : Array Value} {t : Term} {w : Addr} {cl : Cell} {ty : FieldType} {z : Int32} (ew : t.eval args s none [] s = some (.ref w)) (A : Arr s s.heap w cl ty) (e : (Term.length t).eval args s none [] s = some (.int z)) : cl.slots.size < 2 ^ 31 ∧ cl.slots.size.toInt32 = z := by
  have hA : s.arrayAt? w = some cl := A.fin (Vm.Alike.refl _)
  simp only [Term.eval] at e
  simp [ew, hA] at e
  exact ⟨e.1, e.2⟩
theorem own_m31 (x : Int32) : 0 ≤ (x &&& (2147483647 : Int32)).toInt := by
  have h1 : (x &&& (2147483647 : Int32)).toBitVec.toNat = x.toBitVec.toNat % 2 ^ 31 := by
    show (x.toBitVec &&& (2147483647 : Int32).toBitVec).toNat = _
    rw [BitVec.toNat_and, show (2147483647 : Int32).toBitVec.toNat = 2 ^ 31 - 1 from by decide, Nat.and_two_pow_sub_one_eq_mod]
  have h3 : x.toBitVec.toNat % 2 ^ 31 < 2 ^ 31 := Nat.mod_lt _ (Nat.two_pow_pos 31)
  show 0 ≤ (x &&& (2147483647 : Int32)).toBitVec.toInt
  rw [BitVec.toInt_eq_toNat_cond, h1, if_pos (by omega)]; omega
theorem own_modr {x m : Int32} {k : Int} (hx : 0 ≤ x.toInt) (hm : m.toInt = k) (hk : 0 < k) : 0 ≤ (x % m).toInt ∧ (x % m).toInt < k := by
  rw [Int32.toInt_mod, Int.tmod_eq_emod_of_nonneg hx, hm]
  exact ⟨Int.emod_nonneg _ (by omega), Int.emod_lt_of_pos _ hk⟩
theorem own_at6 (x : Int32) : ¬ ((x &&& (2147483647 : Int32)) % (6 : Int32)) < 0 ∧ ((x &&& (2147483647 : Int32)) % (6 : Int32)) < (6 : Int32) := by
  have h := own_modr (m := 6) (k := 6) (own_m31 x) rfl (by decide)
  rw [Int32.lt_iff_toInt_lt, Int32.lt_iff_toInt_lt, show (0 : Int32).toInt = 0 from rfl, show (6 : Int32).toInt = 6 from rfl]; omega
theorem own_n7 (x : Int32) : ¬ ((x &&& (7 : Int32)) % (7 : Int32)) < 0 ∧ ((x &&& (7 : Int32)) % (7 : Int32)) < (7 : Int32) := by
  have h0 : 0 ≤ (x &&& (7 : Int32)).toInt := by
    have h1 : (x &&& (7 : Int32)).toBitVec.toNat = x.toBitVec.toNat % 2 ^ 3 := by
      show (x.toBitVec &&& (7 : Int32).toBitVec).toNat = _
      rw [BitVec.toNat_and, show (7 : Int32).toBitVec.toNat = 2 ^ 3 - 1 from by decide, Nat.and_two_pow_sub_one_eq_mod]
    have h3 : x.toBitVec.toNat % 2 ^ 3 < 2 ^ 3 := Nat.mod_lt _ (Nat.two_pow_pos 3)
    show 0 ≤ (x &&& (7 : Int32)).toBitVec.toInt
    rw [BitVec.toInt_eq_toNat_cond, h1, if_pos (by omega)]; omega
  have h := own_modr (m := 7) (k := 7) h0 rfl (by decide)
  rw [Int32.lt_iff_toInt_lt, Int32.lt_iff_toInt_lt, show (0 : Int32).toInt = 0 from rfl, show (7 : Int32).toInt = 7 from rfl]; omega
theorem own_bd6 {i : Int32} (h : ¬ i < 0 ∧ i < (6 : Int32)) : i.toNatClampNeg < 6 := by
  rw [Int32.lt_iff_toInt_lt, Int32.lt_iff_toInt_lt, show (0 : Int32).toInt = 0 from rfl, show (6 : Int32).toInt = 6 from rfl] at h
  simp only [Int32.toNatClampNeg]; omega
theorem own_last {n : Int32} (h : ¬ n < 0 ∧ n < (7 : Int32)) (a0 : ¬ n = 0) (a1 : ¬ n = 1) (a2 : ¬ n = 2) (a3 : ¬ n = 3) (a4 : ¬ n = 4) (a5 : ¬ n = 5) : n = 6 := by
  rw [Int32.lt_iff_toInt_lt, Int32.lt_iff_toInt_lt, show (0 : Int32).toInt = 0 from rfl, show (7 : Int32).toInt = 7 from rfl] at h
  rw [← Int32.toInt_inj] at a0 a1 a2 a3 a4 a5 ⊢
  have e0 : (0 : Int32).toInt = 0 := rfl
  have e1 : (1 : Int32).toInt = 1 := rfl
  have e2 : (2 : Int32).toInt = 2 := rfl
  have e3 : (3 : Int32).toInt = 3 := rfl
  have e4 : (4 : Int32).toInt = 4 := rfl
  have e5 : (5 : Int32).toInt = 5 := rfl
  have e6 : (6 : Int32).toInt = 6 := rfl
  omega

theorem pn_0 : plainName "java/lang/String" = true := by first | (simp [plainName, overriddenIn]; done) | decide +kernel
theorem pd_0 : parseMethodDescriptor "([CIILjava/lang/Void;)V" = some ⟨[(.array .char), .int, .int, (.object "java/lang/Void")], none⟩ := by decide +kernel
theorem pd_1 : parseMethodDescriptor "([C)V" = some ⟨[(.array .char)], none⟩ := by decide +kernel
theorem pn_1 : plainName "lomwright/lom/PartOfPinLaw" = true := by first | (simp [plainName, overriddenIn]; done) | decide +kernel
theorem pd_2 : parseMethodDescriptor "(Ljava/lang/Object;)Z" = some ⟨[(.object "java/lang/Object")], some .boolean⟩ := by decide +kernel
theorem pn_2 : plainName "lomwright/lom/Entity$Part" = true := by first | (simp [plainName, overriddenIn]; done) | decide +kernel
theorem pd_3 : parseMethodDescriptor "([CI)Ljava/lang/String;" = some ⟨[(.array .char), .int], some (.object "java/lang/String")⟩ := by decide +kernel
theorem pd_4 : parseMethodDescriptor "(Ljava/lang/String;)Llomwright/lom/Entity$Part;" = some ⟨[(.object "java/lang/String")], some (.object "lomwright/lom/Entity$Part")⟩ := by decide +kernel
theorem d3_0 : decode jdk_42_method_149_code 0 = .ok (.aload_n 0, 1) := by decide +kernel
theorem d3_1 : decode jdk_42_method_149_code 1 = .ok (.invokespecial 1, 3) := by decide +kernel
theorem d3_4 : decode jdk_42_method_149_code 4 = .ok (.iload_n 3, 1) := by decide +kernel
theorem d3_5 : decode jdk_42_method_149_code 5 = .ok (.ifCond .ne 22, 3) := by decide +kernel
theorem d3_8 : decode jdk_42_method_149_code 8 = .ok (.aload_n 0, 1) := by decide +kernel
theorem d3_9 : decode jdk_42_method_149_code 9 = .ok (.ldc 7, 2) := by decide +kernel
theorem d3_11 : decode jdk_42_method_149_code 11 = .ok (.getfield 9, 3) := by decide +kernel
theorem d3_14 : decode jdk_42_method_149_code 14 = .ok (.putfield 9, 3) := by decide +kernel
theorem d3_17 : decode jdk_42_method_149_code 17 = .ok (.aload_n 0, 1) := by decide +kernel
theorem d3_18 : decode jdk_42_method_149_code 18 = .ok (.ldc 7, 2) := by decide +kernel
theorem d3_20 : decode jdk_42_method_149_code 20 = .ok (.getfield 15, 3) := by decide +kernel
theorem d3_23 : decode jdk_42_method_149_code 23 = .ok (.putfield 15, 3) := by decide +kernel
theorem d3_26 : decode jdk_42_method_149_code 26 = .ok (.return_, 1) := by decide +kernel
set_option maxRecDepth 65536 in
set_option maxHeartbeats 40000000 in
theorem b3_0 {p : Program} {l : Launch} {e : Env} {s : State} {m : MethodId} {args : Array Value} {below : List Frame} {meth : Method} {c : Code} {Z : State} {a0 : Array Value} {h0 : Heap} {n0 : Nat} {vm0 : Vm} {k0 : Nat} (C : own_C "java/lang/String" jdk_42_method_149_code 6 none "<init>" p (s.setVm vm0) m meth c Z a0) (Z0 : n0 ≤ h0.size) (hS : s.Since vm0 k0) (hk : k0 ≤ h0.size) {T0 : State} {locs : List Loc} (X0 : Stand p l e ({ frames := 1, cells := 4, slots := 8, locals := 12 } : Room) (s.setVm vm0) m args below meth c T0 locs 0 0) (e0 : T0.heap = h0) (N0 : Fr n0 locs) (o0 : Addr) (o1 : Addr) (E0 : Exa Z h0 o0 "java/lang/String") (FV : Fld Z h0 o0 "java/lang/String" "value" "[B" .null) (FC : Fld Z h0 o0 "java/lang/String" "coder" "B" (.int (0 : Int32))) (g_o0 : n0 ≤ o0) (CH : CHv Z own_EL vm0 h0) (SF_o0 : Safe Z own_EL vm0 h0 o0) :
    own_EndsW p e below s ({ frames := 1, cells := 4, slots := 8, locals := 12 } : Room).cells ({ frames := 1, cells := 4, slots := 8, locals := 12 } : Room).slots (own_QI Z n0 h0 o0) T0 (mkF m 0 #[.val (.ref o0), .val (.ref o1), .val (.int (0 : Int32)), .val (.int (0 : Int32)), .val .null, .unset] []) := by
  obtain ⟨hx, hZ, hw, hby, hml, hown, hret, hlk, hnm⟩ := C
  have C : own_C "java/lang/String" jdk_42_method_149_code 6 none "<init>" p (s.setVm vm0) m meth c Z a0 := ⟨hx, hZ, hw, hby, hml, hown, hret, hlk, hnm⟩
  refine own_stepW (fun _ => XS.aloadN X0.here hx rfl (hb hby d3_0) rfl rfl) ?_
  show own_EndsW p e below s _ _ _ T0 (mkF m 1 #[.val (.ref o0), .val (.ref o1), .val (.int (0 : Int32)), .val (.int (0 : Int32)), .val .null, .unset] [(.ref o0)])
  obtain ⟨T8, X8, e8, st8⟩ := initO X0 hx hZ hown (hw _ (List.mem_of_getElem? (i := 15) rfl)) (hw _ (List.mem_of_getElem? (i := 16) rfl)) (hw _ (List.mem_of_getElem? (i := 17) rfl)) e0 (g := (mkF m 1 #[.val (.ref o0), .val (.ref o1), .val (.int (0 : Int32)), .val (.int (0 : Int32)), .val .null, .unset] [(.ref o0)])) rfl (by rw [hml]; rfl) rfl (hb hby d3_1) (by decide) (W := 0) (by show 2 * 0 + _ ≤ _; exact Nat.le_of_eq rfl) (by decide)
  refine own_stepW st8 ?_
  show own_EndsW p e below s _ _ _ T8 (mkF m 4 #[.val (.ref o0), .val (.ref o1), .val (.int (0 : Int32)), .val (.int (0 : Int32)), .val .null, .unset] [])
  refine own_stepW (fun _ => XS.iloadN X8.here hx rfl (hb hby d3_4) rfl) ?_
  show own_EndsW p e below s _ _ _ T8 (mkF m 5 #[.val (.ref o0), .val (.ref o1), .val (.int (0 : Int32)), .val (.int (0 : Int32)), .val .null, .unset] [(.int (0 : Int32))])
  refine own_stepW (fun _ => XS.ifNo X8.here hx rfl (hb hby d3_5) rfl ((if0 _ _).trans (teq (show (0 : Int32) = (0 : Int32) from (by decide))).2)) ?_
  show own_EndsW p e below s _ _ _ T8 (mkF m 8 #[.val (.ref o0), .val (.ref o1), .val (.int (0 : Int32)), .val (.int (0 : Int32)), .val .null, .unset] [])
  refine own_stepW (fun _ => XS.aloadN X8.here hx rfl (hb hby d3_8) rfl rfl) ?_
  show own_EndsW p e below s _ _ _ T8 (mkF m 9 #[.val (.ref o0), .val (.ref o1), .val (.int (0 : Int32)), .val (.int (0 : Int32)), .val .null, .unset] [(.ref o0)])
  obtain ⟨a9, T9, h9, k9, b9, kb9, X9, e9, E9, hS, hk9, hZ, hown, LE9, LC9, LV9, LA9, -, -, CR9, -, LN9, st9⟩ := ldcCH X8 hx hZ hown (hw _ (List.mem_of_getElem? (i := 54) rfl)) (own_wS hw) e8 hS hk (own_EW hw) (List.mem_cons_self) CH (vs := []) (z := 0) ⟨by decide, rfl⟩ (by decide) rfl (g := (mkF m 9 #[.val (.ref o0), .val (.ref o1), .val (.int (0 : Int32)), .val (.int (0 : Int32)), .val .null, .unset] [(.ref o0)])) rfl (hb hby d3_9) (n := 0) (by decide) (by decide) (by decide) (by decide)
  have SF9_o0 := CR9.safe E0.lt SF_o0
  have K9 : Keep h0 h9 [o0] := (Keep.refl h0 [o0]).ext E9
  have Zs9 : n0 ≤ h9.size := Nat.le_trans Z0 E9.1
  have hk := Nat.le_trans hk E9.1
  have hk := hk9
  have C : own_C "java/lang/String" jdk_42_method_149_code 6 none "<init>" p (s.setVm T9.vm) m meth c Z a0 := ⟨hx, hZ, hw, hby, hml, hown, hret, hlk, hnm⟩
  refine own_stepW st9 ?_
  have lne9_o0 := LN9 _ SF9_o0
  show own_EndsW p e below s _ _ _ T9 (mkF m 11 #[.val (.ref o0), .val (.ref o1), .val (.int (0 : Int32)), .val (.int (0 : Int32)), .val .null, .unset] [(.ref a9), (.ref o0)])
  obtain ⟨T10, X10, e10, st10⟩ := getF X9 hx hZ hown (host := "") (Or.inl (hw _ (List.mem_of_getElem? (i := 32) rfl))) Via.refl e9 LV9 (g := (mkF m 11 #[.val (.ref o0), .val (.ref o1), .val (.int (0 : Int32)), .val (.int (0 : Int32)), .val .null, .unset] [(.ref a9), (.ref o0)])) rfl rfl (hb hby d3_11)
  refine own_stepW st10 ?_
  show own_EndsW p e below s _ _ _ T10 (mkF m 14 #[.val (.ref o0), .val (.ref o1), .val (.int (0 : Int32)), .val (.int (0 : Int32)), .val .null, .unset] [(.ref b9), (.ref o0)])
  obtain ⟨T11, h11, X11, e11, W11, st11⟩ := putF X10 hx hZ hown (host := "") (Or.inl (hw _ (List.mem_of_getElem? (i := 32) rfl))) Via.refl e10 (FV.ext E9) (E0.ext E9) (Or.inr ⟨(hw _ (List.mem_of_getElem? (i := 33) rfl)), rfl, hnm⟩) (hw _ (List.mem_of_getElem? (i := 6) rfl)) (ty := (.array .byte)) (by decide) rfl rfl (g := (mkF m 14 #[.val (.ref o0), .val (.ref o1), .val (.int (0 : Int32)), .val (.int (0 : Int32)), .val .null, .unset] [(.ref b9), (.ref o0)])) rfl rfl (hb hby d3_14)
  have Fw11 := (FV.ext E9).same W11
  have K11 : Keep h0 h11 [o0] := K9.wr W11 (Or.inl (List.mem_of_getElem? (i := 0) rfl))
  have SF11_o0 := Safe.wr W11 SF9_o0 CR9.1 SF9_o0
  have CH11 := CHv.wr W11 SF9_o0 CR9.1
  have Zs11 : n0 ≤ h11.size := (by rw [W11.size]; exact Zs9)
  have hk := Nat.le_trans hk (Nat.le_of_eq W11.size.symm)
  have N11 := Fr.snoc X11 N0 g_o0
  refine own_stepW st11 ?_
  show own_EndsW p e below s _ _ _ T11 (mkF m 17 #[.val (.ref o0), .val (.ref o1), .val (.int (0 : Int32)), .val (.int (0 : Int32)), .val .null, .unset] [])
  refine own_stepW (fun _ => XS.aloadN X11.here hx rfl (hb hby d3_17) rfl rfl) ?_
  show own_EndsW p e below s _ _ _ T11 (mkF m 18 #[.val (.ref o0), .val (.ref o1), .val (.int (0 : Int32)), .val (.int (0 : Int32)), .val .null, .unset] [(.ref o0)])
  obtain ⟨a12, T12, h12, k12, b12, kb12, X12, e12, E12, hS, hk12, hZ, hown, LE12, LC12, LV12, LA12, -, -, CR12, -, LN12, st12⟩ := ldcCH X11 hx hZ hown (hw _ (List.mem_of_getElem? (i := 54) rfl)) (own_wS hw) e11 hS hk (own_EW hw) (List.mem_cons_self) CH11 (vs := []) (z := 0) ⟨by decide, rfl⟩ (by decide) rfl (g := (mkF m 18 #[.val (.ref o0), .val (.ref o1), .val (.int (0 : Int32)), .val (.int (0 : Int32)), .val .null, .unset] [(.ref o0)])) rfl (hb hby d3_18) (n := 0) (by decide) (by decide) (by decide) (by decide)
  have SF12_o0 := CR12.safe ((E0.ext E9).wr W11).lt SF11_o0
  have K12 : Keep h0 h12 [o0] := K11.ext E12
  have Zs12 : n0 ≤ h12.size := Nat.le_trans Zs11 E12.1
  have hk := Nat.le_trans hk E12.1
  have hk := hk12
  have C : own_C "java/lang/String" jdk_42_method_149_code 6 none "<init>" p (s.setVm T12.vm) m meth c Z a0 := ⟨hx, hZ, hw, hby, hml, hown, hret, hlk, hnm⟩
  refine own_stepW st12 ?_
  have lne12_o0 := LN12 _ SF12_o0
  show own_EndsW p e below s _ _ _ T12 (mkF m 20 #[.val (.ref o0), .val (.ref o1), .val (.int (0 : Int32)), .val (.int (0 : Int32)), .val .null, .unset] [(.ref a12), (.ref o0)])
  obtain ⟨T13, X13, e13, st13⟩ := getF X12 hx hZ hown (host := "") (Or.inl (hw _ (List.mem_of_getElem? (i := 30) rfl))) Via.refl e12 LC12 (g := (mkF m 20 #[.val (.ref o0), .val (.ref o1), .val (.int (0 : Int32)), .val (.int (0 : Int32)), .val .null, .unset] [(.ref a12), (.ref o0)])) rfl rfl (hb hby d3_20)
  refine own_stepW st13 ?_
  show own_EndsW p e below s _ _ _ T13 (mkF m 23 #[.val (.ref o0), .val (.ref o1), .val (.int (0 : Int32)), .val (.int (0 : Int32)), .val .null, .unset] [(.int (0 : Int32)), (.ref o0)])
  obtain ⟨T14, h14, X14, e14, W14, st14⟩ := putFN X13 hx hZ hown (hw _ (List.mem_of_getElem? (i := 30) rfl)) Via.refl e13 (((FC.ext E9).other W11 (Or.inr (slot_ne (Or.inr (hw _ (List.mem_of_getElem? (i := 31) rfl))) (Or.inr (hw _ (List.mem_of_getElem? (i := 33) rfl))) (by decide) (t := .byte) (t' := (.array .byte)) (by decide) (by decide)))).ext E12) (((E0.ext E9).wr W11).ext E12) (Or.inr ⟨(hw _ (List.mem_of_getElem? (i := 31) rfl)), rfl, hnm⟩) (hw _ (List.mem_of_getElem? (i := 6) rfl)) (ty := .byte) (v' := (.int (nar .byte (0 : Int32)))) (by decide) rfl (fits_nar_byte _) (g := (mkF m 23 #[.val (.ref o0), .val (.ref o1), .val (.int (0 : Int32)), .val (.int (0 : Int32)), .val .null, .unset] [(.int (0 : Int32)), (.ref o0)])) rfl rfl (hb hby d3_23)
  have Fw14 := (((FC.ext E9).other W11 (Or.inr (slot_ne (Or.inr (hw _ (List.mem_of_getElem? (i := 31) rfl))) (Or.inr (hw _ (List.mem_of_getElem? (i := 33) rfl))) (by decide) (t := .byte) (t' := (.array .byte)) (by decide) (by decide)))).ext E12).same W14
  have K14 : Keep h0 h14 [o0] := K12.wr W14 (Or.inl (List.mem_of_getElem? (i := 0) rfl))
  have SF14_o0 := Safe.wr W14 SF12_o0 CR12.1 SF12_o0
  have CH14 := CHv.wr W14 SF12_o0 CR12.1
  have Zs14 : n0 ≤ h14.size := (by rw [W14.size]; exact Zs12)
  have hk := Nat.le_trans hk (Nat.le_of_eq W14.size.symm)
  have N14 := Fr.snoc X14 N11 g_o0
  refine own_stepW st14 ?_
  show own_EndsW p e below s _ _ _ T14 (mkF m 26 #[.val (.ref o0), .val (.ref o1), .val (.int (0 : Int32)), .val (.int (0 : Int32)), .val .null, .unset] [])
  exact own_retVW X14 hS (by rw [e14]; exact hk) hx hret hlk (hb hby d3_26) (by decide) (by decide) ⟨rfl, N14, (show _ from by rw [e14]; exact K14), (show _ from by rw [e14]; exact (own_nb Fw14)), b9, kb9, (show _ from by rw [e14]; exact ((Fw11.ext E12).other W14 (Or.inr (slot_ne (Or.inr (hw _ (List.mem_of_getElem? (i := 33) rfl))) (Or.inr (hw _ (List.mem_of_getElem? (i := 31) rfl))) (by decide) (t := (.array .byte)) (t' := .byte) (by decide) (by decide))))), (show _ from by rw [e14]; exact (((LA9.other W11 (Ne.symm lne9_o0.2)).ext E12).other W14 (Ne.symm lne9_o0.2)))⟩
theorem ef_rm3z (m : MethodId) (o0 : Addr) (o1 : Addr) : entryFrame m #[(.ref o0), (.ref o1), (.int (0 : Int32)), (.int (0 : Int32)), .null] 6 = mkF m 0 #[.val (.ref o0), .val (.ref o1), .val (.int (0 : Int32)), .val (.int (0 : Int32)), .val .null, .unset] [] := by first | (simp [entryFrame, mkF, argsToLocals, Value.category]; done) | rfl
set_option maxRecDepth 65536 in
set_option maxHeartbeats 40000000 in
theorem rm3z (l : Launch) (Z : State) (a0 : Array Value) (hw : ∀ d ∈ tables_1, d.before a0 Z = true) (ws : List Jvm.Cond) (o0 : Addr) (o1 : Addr) (h0 : Heap) (n0 : Nat) (Z0 : n0 ≤ h0.size) (E0 : Exa Z h0 o0 "java/lang/String") (FV : Fld Z h0 o0 "java/lang/String" "value" "[B" .null) (FC : Fld Z h0 o0 "java/lang/String" "coder" "B" (.int (0 : Int32))) (g_o0 : n0 ≤ o0) :
    MetFree l (⟨"java/lang/String", "<init>", "([CIILjava/lang/Void;)V"⟩ : MethodName) (head1 (Jvm.Cond.code (⟨"java/lang/String", "<init>", "([CIILjava/lang/Void;)V"⟩ : MethodName) jdk_42_method_149_code 6 none :: ws) ({ frames := 1, cells := 4, slots := 8, locals := 12 } : Room)) (fun a U => a = #[(.ref o0), (.ref o1), (.int (0 : Int32)), (.int (0 : Int32)), .null] ∧ Z.Warmed39 U.vm ∧ U.heap = h0 ∧ CHv Z own_EL U.vm h0 ∧ ∀ x ∈ [o0], Safe Z own_EL U.vm h0 x) (fun _ _ _ _ _ => True) (fun _ U o U' => ∃ v L, o = .returned v ∧ (own_QI Z n0 h0 o0) v U'.heap L ∧ ReturnedEndW U o U' L ({ frames := 1, cells := 4, slots := 8, locals := 12 } : Room).cells ({ frames := 1, cells := 4, slots := 8, locals := 12 } : Room).slots) := by
  refine MetFree.of_bodySF (plainFor_of_name pn_0) hisR ?_
  intro p e s m args below meth c s₁ Bd hml0 hP hK
  obtain ⟨rfl, hZ, hh, CH, SFA⟩ := hP
  have X0 : Stand p l e ({ frames := 1, cells := 4, slots := 8, locals := 12 } : Room) s m #[(.ref o0), (.ref o1), (.int (0 : Int32)), (.int (0 : Int32)), .null] below meth c s₁ [] 0 0 := Stand.of_body Bd
  have e0 : s₁.heap = h0 := by rw [← hh, Bd.state]; rfl
  have C : own_C "java/lang/String" jdk_42_method_149_code 6 none "<init>" p (s.setVm s.vm) m meth c Z a0 := ⟨Bd.exec, hZ, hw, Bd.bytes, hml0, findClass_of_methodNamed Bd.named, Bd.returns, Bd.notSynchronized, (name_of_methodNamed Bd.named Bd.method).1⟩
  have r := b3_0 C Z0 ((State.WarmedH.refl s).since n0) Z0 X0 e0 (Fr.nil n0) o0 o1 E0 FV FC g_o0 CH (SFA _ (List.mem_of_getElem? (i := 0) rfl))
  rw [ef_rm3z m o0 o1]
  exact r
theorem d2_0 : decode jdk_42_method_3_code 0 = .ok (.aload_n 0, 1) := by decide +kernel
theorem d2_1 : decode jdk_42_method_3_code 1 = .ok (.aload_n 1, 1) := by decide +kernel
theorem d2_2 : decode jdk_42_method_3_code 2 = .ok (.iconst 0, 1) := by decide +kernel
theorem d2_3 : decode jdk_42_method_3_code 3 = .ok (.aload_n 1, 1) := by decide +kernel
theorem d2_4 : decode jdk_42_method_3_code 4 = .ok (.arraylength, 1) := by decide +kernel
theorem d2_5 : decode jdk_42_method_3_code 5 = .ok (.aconst_null, 1) := by decide +kernel
theorem d2_6 : decode jdk_42_method_3_code 6 = .ok (.invokespecial 27, 3) := by decide +kernel
theorem d2_9 : decode jdk_42_method_3_code 9 = .ok (.return_, 1) := by decide +kernel
set_option maxRecDepth 65536 in
set_option maxHeartbeats 40000000 in
theorem b2_0 {p : Program} {l : Launch} {e : Env} {s : State} {m : MethodId} {args : Array Value} {below : List Frame} {meth : Method} {c : Code} {Z : State} {a0 : Array Value} {h0 : Heap} {n0 : Nat} {vm0 : Vm} {k0 : Nat} (C : own_C "java/lang/String" jdk_42_method_3_code 2 none "<init>" p (s.setVm vm0) m meth c Z a0) (Z0 : n0 ≤ h0.size) (hS : s.Since vm0 k0) (hk : k0 ≤ h0.size) {T0 : State} {locs : List Loc} (X0 : Stand p l e ({ frames := 2, cells := 4, slots := 8, locals := 29 } : Room) (s.setVm vm0) m args below meth c T0 locs 0 0) (e0 : T0.heap = h0) (N0 : Fr n0 locs) (o0 : Addr) (o1 : Addr) (kc : ClassId) (E0 : Exa Z h0 o0 "java/lang/String") (FV : Fld Z h0 o0 "java/lang/String" "value" "[B" .null) (FC : Fld Z h0 o0 "java/lang/String" "coder" "B" (.int (0 : Int32))) (Va : Arv Z h0 o1 kc .char (0 : Int32) [] (.int (0 : Int32))) (g_o0 : n0 ≤ o0) (CH : CHv Z own_EL vm0 h0) (SF_o0 : Safe Z own_EL vm0 h0 o0) :
    own_EndsW p e below s ({ frames := 2, cells := 4, slots := 8, locals := 29 } : Room).cells ({ frames := 2, cells := 4, slots := 8, locals := 29 } : Room).slots (own_QI Z n0 h0 o0) T0 (mkF m 0 #[.val (.ref o0), .val (.ref o1)] []) := by
  obtain ⟨hx, hZ, hw, hby, hml, hown, hret, hlk, hnm⟩ := C
  have C : own_C "java/lang/String" jdk_42_method_3_code 2 none "<init>" p (s.setVm vm0) m meth c Z a0 := ⟨hx, hZ, hw, hby, hml, hown, hret, hlk, hnm⟩
  refine own_stepW (fun _ => XS.aloadN X0.here hx rfl (hb hby d2_0) rfl rfl) ?_
  show own_EndsW p e below s _ _ _ T0 (mkF m 1 #[.val (.ref o0), .val (.ref o1)] [(.ref o0)])
  refine own_stepW (fun _ => XS.aloadN X0.here hx rfl (hb hby d2_1) rfl rfl) ?_
  show own_EndsW p e below s _ _ _ T0 (mkF m 2 #[.val (.ref o0), .val (.ref o1)] [(.ref o1), (.ref o0)])
  refine own_stepW (fun _ => XS.iconst X0.here hx rfl (hb hby d2_2)) ?_
  show own_EndsW p e below s _ _ _ T0 (mkF m 3 #[.val (.ref o0), .val (.ref o1)] [(.int (0 : Int32)), (.ref o1), (.ref o0)])
  refine own_stepW (fun _ => XS.aloadN X0.here hx rfl (hb hby d2_3) rfl rfl) ?_
  show own_EndsW p e below s _ _ _ T0 (mkF m 4 #[.val (.ref o0), .val (.ref o1)] [(.ref o1), (.int (0 : Int32)), (.ref o1), (.ref o0)])
  obtain ⟨cl3, Ar3, q3, S3, N3_, H3, G3⟩ := id Va
  refine own_stepW (fun _ => X0.arraylength hx (by rw [e0]; exact Ar3.1) (State.isArrayOf_alike hZ.alike Ar3.2.1) (g := (mkF m 4 #[.val (.ref o0), .val (.ref o1)] [(.ref o1), (.int (0 : Int32)), (.ref o1), (.ref o0)])) rfl rfl (hb hby d2_4) _) ?_
  rw [len_of S3 N3_]
  show own_EndsW p e below s _ _ _ T0 (mkF m 5 #[.val (.ref o0), .val (.ref o1)] [(.int (0 : Int32)), (.int (0 : Int32)), (.ref o1), (.ref o0)])
  refine own_stepW (fun _ => XS.aconstNull X0.here hx rfl (hb hby d2_5)) ?_
  show own_EndsW p e below s _ _ _ T0 (mkF m 6 #[.val (.ref o0), .val (.ref o1)] [.null, (.int (0 : Int32)), (.int (0 : Int32)), (.ref o1), (.ref o0)])
  obtain ⟨_, _, ⟨T4, L4, k4, n4⟩, -, X4, hS4, hg4, ⟨Lc4, hQ4, l4, y4, z4⟩, st4⟩ := X0.specialBackS hx (y := (⟨"java/lang/String", "<init>", "([CIILjava/lang/Void;)V"⟩ : MethodName)) rfl hown (mvT hZ (hw _ (List.mem_of_getElem? (i := 11) rfl))) (mvT hZ (hw _ (List.mem_of_getElem? (i := 12) rfl))) (mvT hZ (hw _ (List.mem_of_getElem? (i := 14) rfl))) (by decide) (own_backSH (W := 0) (rm3z l Z a0 hw [] o0 o1 h0 n0 Z0 E0 FV FC g_o0) hZ (hw _ (List.mem_of_getElem? (i := 14) rfl)) (hw _ (List.mem_of_getElem? (i := 7) rfl)) (by decide) (by decide) (own_EW hw) CH (own_sf1 E0.lt SF_o0)) (g := (mkF m 6 #[.val (.ref o0), .val (.ref o1)] [.null, (.int (0 : Int32)), (.int (0 : Int32)), (.ref o1), (.ref o0)])) rfl (by rw [hml]; rfl) (Steps.refl _) (a := o0) (argsL := [(.ref o1), (.int (0 : Int32)), (.int (0 : Int32)), .null]) (rest := []) (lenOf pd_0 rfl) rfl (by show 2 * 0 + _ ≤ _; exact Nat.le_of_eq rfl) (hb hby d2_6) (fun _ _ => ⟨rfl, e0, (by decide : 0 + 4 ≤ _), (by decide : 0 + 8 ≤ _)⟩)
  dsimp only [Pt.U, Pt.locs, Pt.cells, Pt.slots] at X4 l4 y4 z4 st4 hQ4
  subst l4 y4 z4
  dsimp only [Pt.U, Pt.locs, Pt.cells, Pt.slots] at hS4 hg4
  obtain ⟨X4, hS, hZ, hown⟩ := rebS hS (by rw [e0]; exact hk) X4 hS4 hg4 hZ hown
  have hk := Nat.le_refl T4.heap.size
  have C : own_C "java/lang/String" jdk_42_method_3_code 2 none "<init>" p (s.setVm T4.vm) m meth c Z a0 := ⟨hx, hZ, hw, hby, hml, hown, hret, hlk, hnm⟩
  obtain ⟨rfl, N4q, K4, FC4, t4, kb4, FV4, VT4⟩ := hQ4
  have N4 := Fr.app N0 N4q
  have KK4 : Keep h0 T4.heap [o0] := (Keep.refl h0 [o0]).trans K4 (allS (Or.inl (List.mem_of_getElem? (i := 0) rfl)) all0)
  have Zs4 : n0 ≤ T4.heap.size := Nat.le_trans Z0 K4.1
  refine own_stepW (fun _ => st4.trans) ?_
  show own_EndsW p e below s _ _ _ T4 (mkF m 9 #[.val (.ref o0), .val (.ref o1)] [])
  exact own_retVW X4 hS hk hx hret hlk (hb hby d2_9) (by decide) (by decide) ⟨rfl, N4, KK4, FC4, t4, kb4, FV4, VT4⟩
theorem ef_rm2z (m : MethodId) (o0 : Addr) (o1 : Addr) : entryFrame m #[(.ref o0), (.ref o1)] 2 = mkF m 0 #[.val (.ref o0), .val (.ref o1)] [] := by first | (simp [entryFrame, mkF, argsToLocals, Value.category]; done) | rfl
set_option maxRecDepth 65536 in
set_option maxHeartbeats 40000000 in
theorem rm2z (l : Launch) (Z : State) (a0 : Array Value) (hw : ∀ d ∈ tables_1, d.before a0 Z = true) (ws : List Jvm.Cond) (o0 : Addr) (o1 : Addr) (kc : ClassId) (h0 : Heap) (n0 : Nat) (Z0 : n0 ≤ h0.size) (E0 : Exa Z h0 o0 "java/lang/String") (FV : Fld Z h0 o0 "java/lang/String" "value" "[B" .null) (FC : Fld Z h0 o0 "java/lang/String" "coder" "B" (.int (0 : Int32))) (Va : Arv Z h0 o1 kc .char (0 : Int32) [] (.int (0 : Int32))) (g_o0 : n0 ≤ o0) :
    MetFree l (⟨"java/lang/String", "<init>", "([C)V"⟩ : MethodName) (head1 (Jvm.Cond.code (⟨"java/lang/String", "<init>", "([C)V"⟩ : MethodName) jdk_42_method_3_code 2 none :: ws) ({ frames := 2, cells := 4, slots := 8, locals := 29 } : Room)) (fun a U => a = #[(.ref o0), (.ref o1)] ∧ Z.Warmed39 U.vm ∧ U.heap = h0 ∧ CHv Z own_EL U.vm h0 ∧ ∀ x ∈ [o0], Safe Z own_EL U.vm h0 x) (fun _ _ _ _ _ => True) (fun _ U o U' => ∃ v L, o = .returned v ∧ (own_QI Z n0 h0 o0) v U'.heap L ∧ ReturnedEndW U o U' L ({ frames := 2, cells := 4, slots := 8, locals := 29 } : Room).cells ({ frames := 2, cells := 4, slots := 8, locals := 29 } : Room).slots) := by
  refine MetFree.of_bodySF (plainFor_of_name pn_0) hisR ?_
  intro p e s m args below meth c s₁ Bd hml0 hP hK
  obtain ⟨rfl, hZ, hh, CH, SFA⟩ := hP
  have X0 : Stand p l e ({ frames := 2, cells := 4, slots := 8, locals := 29 } : Room) s m #[(.ref o0), (.ref o1)] below meth c s₁ [] 0 0 := Stand.of_body Bd
  have e0 : s₁.heap = h0 := by rw [← hh, Bd.state]; rfl
  have C : own_C "java/lang/String" jdk_42_method_3_code 2 none "<init>" p (s.setVm s.vm) m meth c Z a0 := ⟨Bd.exec, hZ, hw, Bd.bytes, hml0, findClass_of_methodNamed Bd.named, Bd.returns, Bd.notSynchronized, (name_of_methodNamed Bd.named Bd.method).1⟩
  have r := b2_0 C Z0 ((State.WarmedH.refl s).since n0) Z0 X0 e0 (Fr.nil n0) o0 o1 kc E0 FV FC Va g_o0 CH (SFA _ (List.mem_of_getElem? (i := 0) rfl))
  rw [ef_rm2z m o0 o1]
  exact r
theorem d1_0 : decode method_3_code 0 = .ok (.iload_n 1, 1) := by decide +kernel
theorem d1_1 : decode method_3_code 1 = .ok (.ifCond .ne 14, 3) := by decide +kernel
theorem d1_4 : decode method_3_code 4 = .ok (.new 30, 3) := by decide +kernel
theorem d1_7 : decode method_3_code 7 = .ok (.dup, 1) := by decide +kernel
theorem d1_8 : decode method_3_code 8 = .ok (.iconst 0, 1) := by decide +kernel
theorem d1_9 : decode method_3_code 9 = .ok (.newarray .char, 2) := by decide +kernel
theorem d1_11 : decode method_3_code 11 = .ok (.invokespecial 32, 3) := by decide +kernel
theorem d1_14 : decode method_3_code 14 = .ok (.areturn, 1) := by decide +kernel
set_option maxRecDepth 65536 in
set_option maxHeartbeats 40000000 in
theorem b1_0n_0 {p : Program} {l : Launch} {e : Env} {s : State} {m : MethodId} {args : Array Value} {below : List Frame} {meth : Method} {c : Code} {Z : State} {a0 : Array Value} {h0 : Heap} {n0 : Nat} {vm0 : Vm} {k0 : Nat} (C : own_C "lomwright/lom/PartOfPinLaw" method_3_code 2 (some (.object "java/lang/String")) "text" p (s.setVm vm0) m meth c Z a0) (Z0 : n0 ≤ h0.size) (hS : s.Since vm0 k0) (hk : k0 ≤ h0.size) {T0 : State} {locs : List Loc} (X0 : Stand p l e ({ frames := 3, cells := 6, slots := 12, locals := 43 } : Room) (s.setVm vm0) m args below meth c T0 locs 0 0) (e0 : T0.heap = h0) (N0 : Fr n0 locs) (o0 : Addr) (CH : CHv Z own_EL vm0 h0) :
    own_EndsW p e below s ({ frames := 3, cells := 6, slots := 12, locals := 43 } : Room).cells ({ frames := 3, cells := 6, slots := 12, locals := 43 } : Room).slots (own_QT Z n0 h0 (0 : Int32) []) T0 (mkF m 0 #[.val (.ref o0), .val (.int (0 : Int32))] []) := by
  obtain ⟨hx, hZ, hw, hby, hml, hown, hret, hlk, hnm⟩ := C
  have C : own_C "lomwright/lom/PartOfPinLaw" method_3_code 2 (some (.object "java/lang/String")) "text" p (s.setVm vm0) m meth c Z a0 := ⟨hx, hZ, hw, hby, hml, hown, hret, hlk, hnm⟩
  refine own_stepW (fun _ => XS.iloadN X0.here hx rfl (hb hby d1_0) rfl) ?_
  show own_EndsW p e below s _ _ _ T0 (mkF m 1 #[.val (.ref o0), .val (.int (0 : Int32))] [(.int (0 : Int32))])
  refine own_stepW (fun _ => XS.ifNo X0.here hx rfl (hb hby d1_1) rfl ((if0 _ _).trans (teq (show (0 : Int32) = (0 : Int32) from (by decide))).2)) ?_
  show own_EndsW p e below s _ _ _ T0 (mkF m 4 #[.val (.ref o0), .val (.int (0 : Int32))] [])
  obtain ⟨T4, h4, X4, e4, E4, A4, D4, U4, st4⟩ := newO X0 hx hZ hown (hw _ (List.mem_of_getElem? (i := 5) rfl)) (hw _ (List.mem_of_getElem? (i := 6) rfl)) (hw _ (List.mem_of_getElem? (i := 7) rfl)) e0 (g := (mkF m 4 #[.val (.ref o0), .val (.int (0 : Int32))] [])) rfl (hb hby d1_4) (by decide) (by decide)
  obtain ⟨b4, g4⟩ : ∃ z, z = h0.size := ⟨_, rfl⟩
  rw [← g4] at A4 D4 U4 st4
  have g_b4 : n0 ≤ b4 := Nat.le_trans Z0 (Nat.le_of_eq g4.symm)
  have SFn4 := Safe.ext (Z := Z) E4 CH (Safe.new (Nat.le_of_eq g4.symm))
  have CH4 := CHv.ext E4 CH
  have sz_b4 : h0.size ≤ b4 := Nat.le_trans (Keep.refl h0 []).1 (Nat.le_of_eq g4.symm)
  have K4 : Keep h0 h4 [] := (Keep.refl h0 []).ext E4
  have Zs4 : n0 ≤ h4.size := Nat.le_trans Z0 E4.1
  have hk := Nat.le_trans hk E4.1
  have F4_coder : Fld Z h4 b4 "java/lang/String" "coder" "B" (.int (0 : Int32)) := D4 (Or.inr (hw _ (List.mem_of_getElem? (i := 31) rfl))) (ty := .byte) (by decide)
  have F4_value : Fld Z h4 b4 "java/lang/String" "value" "[B" .null := D4 (Or.inr (hw _ (List.mem_of_getElem? (i := 33) rfl))) (ty := (.array .byte)) (by decide)
  refine own_stepW st4 ?_
  show own_EndsW p e below s _ _ _ T4 (mkF m 7 #[.val (.ref o0), .val (.int (0 : Int32))] [(.ref b4)])
  refine own_stepW (fun _ => XS.dup X4.here hx rfl (hb hby d1_7) rfl rfl) ?_
  show own_EndsW p e below s _ _ _ T4 (mkF m 8 #[.val (.ref o0), .val (.int (0 : Int32))] [(.ref b4), (.ref b4)])
  refine own_stepW (fun _ => XS.iconst X4.here hx rfl (hb hby d1_8)) ?_
  show own_EndsW p e below s _ _ _ T4 (mkF m 9 #[.val (.ref o0), .val (.int (0 : Int32))] [(.int (0 : Int32)), (.ref b4), (.ref b4)])
  obtain ⟨T5, h5, k5, X5, e5, E5, A5, st5⟩ := newP X4 hx hZ (hw _ (List.mem_of_getElem? (i := 0) rfl)) e4 (g := (mkF m 9 #[.val (.ref o0), .val (.int (0 : Int32))] [(.int (0 : Int32)), (.ref b4), (.ref b4)])) rfl (hb hby d1_9) rfl (by decide) (cap := 0) (by decide) (by decide) (by decide) (by decide)
  obtain ⟨b5, g5⟩ : ∃ z, z = h4.size := ⟨_, rfl⟩
  rw [← g5] at A5 st5
  have V5 : Arv Z h5 b5 k5 .char (0 : Int32) [] (.int (0 : Int32)) := (Arv.new A5 (by decide)).pad (pad_rep [] (.int (0 : Int32)) 0)
  have ne_b4_b5 : b4 ≠ b5 := Nat.ne_of_lt (Nat.lt_of_lt_of_le A4.lt (Nat.le_of_eq g5.symm))
  have g_b5 : n0 ≤ b5 := Nat.le_trans Zs4 (Nat.le_of_eq g5.symm)
  have SFn5 := Safe.ext (Z := Z) E5 CH4 (Safe.new (Nat.le_of_eq g5.symm))
  have SF5_b4 := Safe.ext E5 CH4 SFn4
  have CH5 := CHv.ext E5 CH4
  have sz_b5 : h0.size ≤ b5 := Nat.le_trans K4.1 (Nat.le_of_eq g5.symm)
  have K5 : Keep h0 h5 [] := K4.ext E5
  have Zs5 : n0 ≤ h5.size := Nat.le_trans Zs4 E5.1
  have hk := Nat.le_trans hk E5.1
  refine own_stepW st5 ?_
  show own_EndsW p e below s _ _ _ T5 (mkF m 11 #[.val (.ref o0), .val (.int (0 : Int32))] [(.ref b5), (.ref b4), (.ref b4)])
  obtain ⟨_, _, ⟨T6, L6, k6, n6⟩, -, X6, hS6, hg6, ⟨Lc6, hQ6, l6, y6, z6⟩, st6⟩ := X5.specialBackS hx (y := (⟨"java/lang/String", "<init>", "([C)V"⟩ : MethodName)) rfl hown (mvT hZ (hw _ (List.mem_of_getElem? (i := 8) rfl))) (mvT hZ (hw _ (List.mem_of_getElem? (i := 9) rfl))) (mvT hZ (hw _ (List.mem_of_getElem? (i := 10) rfl))) (by decide) (own_backSH (W := 1) (rm2z l Z a0 hw [] b4 b5 k5 h5 n0 Zs5 (A4.ext E5) (F4_value.ext E5) (F4_coder.ext E5) V5 g_b4) hZ (hw _ (List.mem_of_getElem? (i := 10) rfl)) (hw _ (List.mem_of_getElem? (i := 7) rfl)) (by decide) (by decide) (own_EW hw) CH5 (own_sf1 (A4.ext E5).lt SF5_b4)) (g := (mkF m 11 #[.val (.ref o0), .val (.int (0 : Int32))] [(.ref b5), (.ref b4), (.ref b4)])) rfl (by rw [hml]; rfl) (Steps.refl _) (a := b4) (argsL := [(.ref b5)]) (rest := [(.ref b4)]) (lenOf pd_1 rfl) rfl (by show 2 * 0 + _ ≤ _; exact Nat.le_of_eq rfl) (hb hby d1_11) (fun _ _ => ⟨rfl, e5, (by decide : 2 + 4 ≤ _), (by decide : 4 + 8 ≤ _)⟩)
  dsimp only [Pt.U, Pt.locs, Pt.cells, Pt.slots] at X6 l6 y6 z6 st6 hQ6
  subst l6 y6 z6
  dsimp only [Pt.U, Pt.locs, Pt.cells, Pt.slots] at hS6 hg6
  obtain ⟨X6, hS, hZ, hown⟩ := rebS hS (by rw [e5]; exact hk) X6 hS6 hg6 hZ hown
  have hk := Nat.le_refl T6.heap.size
  have C : own_C "lomwright/lom/PartOfPinLaw" method_3_code 2 (some (.object "java/lang/String")) "text" p (s.setVm T6.vm) m meth c Z a0 := ⟨hx, hZ, hw, hby, hml, hown, hret, hlk, hnm⟩
  obtain ⟨rfl, N6q, K6, FC6, t6, kb6, FV6, VT6⟩ := hQ6
  have N6 := Fr.app N0 N6q
  have KK6 : Keep h0 T6.heap [] := K5.trans K6 (allS (Or.inr sz_b4) all0)
  have Zs6 : n0 ≤ T6.heap.size := Nat.le_trans Zs5 K6.1
  refine own_stepW (fun _ => st6.trans) ?_
  show own_EndsW p e below s _ _ _ T6 (mkF m 14 #[.val (.ref o0), .val (.int (0 : Int32))] [(.ref b4)])
  exact own_retRW X6 hS hk hx hret hlk (hb hby d1_14) (by decide) (by decide) rfl rfl ⟨b4, t6, kb6, rfl, N6, KK6, ((A4.ext E5).keep K6), FC6, FV6, VT6⟩
theorem ef_rm1_0 (m : MethodId) (o0 : Addr) : entryFrame m #[(.ref o0), (.int (0 : Int32))] 2 = mkF m 0 #[.val (.ref o0), .val (.int (0 : Int32))] [] := by first | (simp [entryFrame, mkF, argsToLocals, Value.category]; done) | rfl
set_option maxRecDepth 65536 in
set_option maxHeartbeats 40000000 in
theorem rm1_0 (l : Launch) (Z : State) (a0 : Array Value) (hw : ∀ d ∈ tables_1, d.before a0 Z = true) (ws : List Jvm.Cond) (o0 : Addr) (h0 : Heap) (n0 : Nat) (Z0 : n0 ≤ h0.size) :
    MetFree l (⟨"lomwright/lom/PartOfPinLaw", "text", "([CI)Ljava/lang/String;"⟩ : MethodName) (head1 (Jvm.Cond.code (⟨"lomwright/lom/PartOfPinLaw", "text", "([CI)Ljava/lang/String;"⟩ : MethodName) method_3_code 2 (some (.object "java/lang/String")) :: ws) ({ frames := 3, cells := 6, slots := 12, locals := 43 } : Room)) (fun a U => a = #[(.ref o0), (.int (0 : Int32))] ∧ Z.Warmed39 U.vm ∧ U.heap = h0 ∧ CHv Z own_EL U.vm h0 ∧ ∀ x ∈ [], Safe Z own_EL U.vm h0 x) (fun _ _ _ _ _ => True) (fun _ U o U' => ∃ v L, o = .returned v ∧ (own_QT Z n0 h0 (0 : Int32) []) v U'.heap L ∧ ReturnedEndW U o U' L ({ frames := 3, cells := 6, slots := 12, locals := 43 } : Room).cells ({ frames := 3, cells := 6, slots := 12, locals := 43 } : Room).slots) := by
  refine MetFree.of_bodySF (plainFor_of_name pn_1) hisR ?_
  intro p e s m args below meth c s₁ Bd hml0 hP hK
  obtain ⟨rfl, hZ, hh, CH, SFA⟩ := hP
  have X0 : Stand p l e ({ frames := 3, cells := 6, slots := 12, locals := 43 } : Room) s m #[(.ref o0), (.int (0 : Int32))] below meth c s₁ [] 0 0 := Stand.of_body Bd
  have e0 : s₁.heap = h0 := by rw [← hh, Bd.state]; rfl
  have C : own_C "lomwright/lom/PartOfPinLaw" method_3_code 2 (some (.object "java/lang/String")) "text" p (s.setVm s.vm) m meth c Z a0 := ⟨Bd.exec, hZ, hw, Bd.bytes, hml0, findClass_of_methodNamed Bd.named, Bd.returns, Bd.notSynchronized, (name_of_methodNamed Bd.named Bd.method).1⟩
  have r := b1_0n_0 C Z0 ((State.WarmedH.refl s).since n0) Z0 X0 e0 (Fr.nil n0) o0 CH
  rw [ef_rm1_0 m o0]
  exact r
theorem d1_15 : decode method_3_code 15 = .ok (.iload_n 1, 1) := by decide +kernel
theorem d1_16 : decode method_3_code 16 = .ok (.iconst 1, 1) := by decide +kernel
theorem d1_17 : decode method_3_code 17 = .ok (.if_icmp .ne 20, 3) := by decide +kernel
theorem d1_20 : decode method_3_code 20 = .ok (.new 30, 3) := by decide +kernel
theorem d1_23 : decode method_3_code 23 = .ok (.dup, 1) := by decide +kernel
theorem d1_24 : decode method_3_code 24 = .ok (.iconst 1, 1) := by decide +kernel
theorem d1_25 : decode method_3_code 25 = .ok (.newarray .char, 2) := by decide +kernel
theorem d1_27 : decode method_3_code 27 = .ok (.dup, 1) := by decide +kernel
theorem d1_28 : decode method_3_code 28 = .ok (.iconst 0, 1) := by decide +kernel
theorem d1_29 : decode method_3_code 29 = .ok (.aload_n 0, 1) := by decide +kernel
theorem d1_30 : decode method_3_code 30 = .ok (.iconst 0, 1) := by decide +kernel
theorem d1_31 : decode method_3_code 31 = .ok (.caload, 1) := by decide +kernel
theorem d1_32 : decode method_3_code 32 = .ok (.castore, 1) := by decide +kernel
theorem d1_33 : decode method_3_code 33 = .ok (.invokespecial 32, 3) := by decide +kernel
theorem d1_36 : decode method_3_code 36 = .ok (.areturn, 1) := by decide +kernel
set_option maxRecDepth 65536 in
set_option maxHeartbeats 40000000 in
theorem b1_1n_0 {p : Program} {l : Launch} {e : Env} {s : State} {m : MethodId} {args : Array Value} {below : List Frame} {meth : Method} {c : Code} {Z : State} {a0 : Array Value} {h0 : Heap} {n0 : Nat} (C : own_C "lomwright/lom/PartOfPinLaw" method_3_code 2 (some (.object "java/lang/String")) "text" p s m meth c Z a0) (Z0 : n0 ≤ h0.size) {T0 : State} {locs : List Loc} (X0 : Stand p l e ({ frames := 4, cells := 3, slots := 6, locals := 66 } : Room) s m args below meth c T0 locs 0 0) (e0 : T0.heap = h0) (N0 : Fr n0 locs) (o0 : Addr) (ka : ClassId) (li : List Int32) (G1 : Int32) (OLD : Old Z n0 h0) (Va : Arv Z h0 o0 ka .char (6 : Int32) (li.map Value.int) (.int (0 : Int32))) (O2 : Sta Z Z.heap "java/lang/String" "COMPACT_STRINGS" "Z" (.int G1)) (P5 : ¬ (G1 = (0 : Int32))) (hr : ∀ c ∈ li, own_R c) :
    own_Ends p e below s ({ frames := 4, cells := 3, slots := 6, locals := 66 } : Room).cells ({ frames := 4, cells := 3, slots := 6, locals := 66 } : Room).slots (own_QT Z n0 h0 (1 : Int32) [(nar .char (li.getD (0 : Int32).toNatClampNeg 0))]) T0 (mkF m 0 #[.val (.ref o0), .val (.int (1 : Int32))] []) := by
  obtain ⟨hx, hZ, hw, hby, hml, hown, hret, hlk, hnm⟩ := C
  have C : own_C "lomwright/lom/PartOfPinLaw" method_3_code 2 (some (.object "java/lang/String")) "text" p s m meth c Z a0 := ⟨hx, hZ, hw, hby, hml, hown, hret, hlk, hnm⟩
  refine own_step (fun _ => XS.iloadN X0.here hx rfl (hb hby d1_0) rfl) ?_
  show own_Ends p e below s _ _ _ T0 (mkF m 1 #[.val (.ref o0), .val (.int (1 : Int32))] [(.int (1 : Int32))])
  refine own_step (fun _ => XS.ifYes X0.here hx rfl (pc0 := 1) (pc' := 15) rfl (hb hby d1_1) rfl ((if0 _ _).trans (feq (show ¬ ((1 : Int32) = (0 : Int32)) from (by decide))).2) (by decide) (by decide)) ?_
  show own_Ends p e below s _ _ _ T0 (mkF m 15 #[.val (.ref o0), .val (.int (1 : Int32))] [])
  refine own_step (fun _ => XS.iloadN X0.here hx rfl (hb hby d1_15) rfl) ?_
  show own_Ends p e below s _ _ _ T0 (mkF m 16 #[.val (.ref o0), .val (.int (1 : Int32))] [(.int (1 : Int32))])
  refine own_step (fun _ => XS.iconst X0.here hx rfl (hb hby d1_16)) ?_
  show own_Ends p e below s _ _ _ T0 (mkF m 17 #[.val (.ref o0), .val (.int (1 : Int32))] [(.int (1 : Int32)), (.int (1 : Int32))])
  refine own_step (fun _ => XS.icmpNo X0.here hx rfl (hb hby d1_17) rfl (teq (show (1 : Int32) = (1 : Int32) from (by decide))).2) ?_
  show own_Ends p e below s _ _ _ T0 (mkF m 20 #[.val (.ref o0), .val (.int (1 : Int32))] [])
  obtain ⟨T6, h6, X6, e6, E6, A6, D6, U6, st6⟩ := newO X0 hx hZ hown (hw _ (List.mem_of_getElem? (i := 5) rfl)) (hw _ (List.mem_of_getElem? (i := 6) rfl)) (hw _ (List.mem_of_getElem? (i := 7) rfl)) e0 (g := (mkF m 20 #[.val (.ref o0), .val (.int (1 : Int32))] [])) rfl (hb hby d1_20) (by decide) (by decide)
  obtain ⟨b6, g6⟩ : ∃ z, z = h0.size := ⟨_, rfl⟩
  rw [← g6] at A6 D6 U6 st6
  have g_b6 : n0 ≤ b6 := Nat.le_trans Z0 (Nat.le_of_eq g6.symm)
  have OLD6 := OLD.ext E6
  have sz_b6 : h0.size ≤ b6 := Nat.le_trans (Keep.refl h0 []).1 (Nat.le_of_eq g6.symm)
  have K6 : Keep h0 h6 [] := (Keep.refl h0 []).ext E6
  have Zs6 : n0 ≤ h6.size := Nat.le_trans Z0 E6.1
  have F6_coder : Fld Z h6 b6 "java/lang/String" "coder" "B" (.int (0 : Int32)) := D6 (Or.inr (hw _ (List.mem_of_getElem? (i := 31) rfl))) (ty := .byte) (by decide)
  have F6_value : Fld Z h6 b6 "java/lang/String" "value" "[B" .null := D6 (Or.inr (hw _ (List.mem_of_getElem? (i := 33) rfl))) (ty := (.array .byte)) (by decide)
  refine own_step st6 ?_
  show own_Ends p e below s _ _ _ T6 (mkF m 23 #[.val (.ref o0), .val (.int (1 : Int32))] [(.ref b6)])
  refine own_step (fun _ => XS.dup X6.here hx rfl (hb hby d1_23) rfl rfl) ?_
  show own_Ends p e below s _ _ _ T6 (mkF m 24 #[.val (.ref o0), .val (.int (1 : Int32))] [(.ref b6), (.ref b6)])
  refine own_step (fun _ => XS.iconst X6.here hx rfl (hb hby d1_24)) ?_
  show own_Ends p e below s _ _ _ T6 (mkF m 25 #[.val (.ref o0), .val (.int (1 : Int32))] [(.int (1 : Int32)), (.ref b6), (.ref b6)])
  obtain ⟨T7, h7, k7, X7, e7, E7, A7, st7⟩ := newP X6 hx hZ (hw _ (List.mem_of_getElem? (i := 0) rfl)) e6 (g := (mkF m 25 #[.val (.ref o0), .val (.int (1 : Int32))] [(.int (1 : Int32)), (.ref b6), (.ref b6)])) rfl (hb hby d1_25) rfl (by decide) (cap := 1) (by decide) (by decide) (by decide) (by decide)
  obtain ⟨b7, g7⟩ : ∃ z, z = h6.size := ⟨_, rfl⟩
  rw [← g7] at A7 st7
  have V7 : Arv Z h7 b7 k7 .char (1 : Int32) [(.int (0 : Int32))] (.int (0 : Int32)) := (Arv.new A7 (by decide)).pad (pad_rep [] (.int (0 : Int32)) 1)
  have ne_b6_b7 : b6 ≠ b7 := Nat.ne_of_lt (Nat.lt_of_lt_of_le A6.lt (Nat.le_of_eq g7.symm))
  have g_b7 : n0 ≤ b7 := Nat.le_trans Zs6 (Nat.le_of_eq g7.symm)
  have OLD7 := OLD6.ext E7
  have sz_b7 : h0.size ≤ b7 := Nat.le_trans K6.1 (Nat.le_of_eq g7.symm)
  have K7 : Keep h0 h7 [] := K6.ext E7
  have Zs7 : n0 ≤ h7.size := Nat.le_trans Zs6 E7.1
  refine own_step st7 ?_
  show own_Ends p e below s _ _ _ T7 (mkF m 27 #[.val (.ref o0), .val (.int (1 : Int32))] [(.ref b7), (.ref b6), (.ref b6)])
  refine own_step (fun _ => XS.dup X7.here hx rfl (hb hby d1_27) rfl rfl) ?_
  show own_Ends p e below s _ _ _ T7 (mkF m 28 #[.val (.ref o0), .val (.int (1 : Int32))] [(.ref b7), (.ref b7), (.ref b6), (.ref b6)])
  refine own_step (fun _ => XS.iconst X7.here hx rfl (hb hby d1_28)) ?_
  show own_Ends p e below s _ _ _ T7 (mkF m 29 #[.val (.ref o0), .val (.int (1 : Int32))] [(.int (0 : Int32)), (.ref b7), (.ref b7), (.ref b6), (.ref b6)])
  refine own_step (fun _ => XS.aloadN X7.here hx rfl (hb hby d1_29) rfl rfl) ?_
  show own_Ends p e below s _ _ _ T7 (mkF m 30 #[.val (.ref o0), .val (.int (1 : Int32))] [(.ref o0), (.int (0 : Int32)), (.ref b7), (.ref b7), (.ref b6), (.ref b6)])
  refine own_step (fun _ => XS.iconst X7.here hx rfl (hb hby d1_30)) ?_
  show own_Ends p e below s _ _ _ T7 (mkF m 31 #[.val (.ref o0), .val (.int (1 : Int32))] [(.int (0 : Int32)), (.ref o0), (.int (0 : Int32)), (.ref b7), (.ref b7), (.ref b6), (.ref b6)])
  obtain ⟨cl8, Ar8, q8, S8, N8_, H8, G8⟩ := id ((Va.ext E6).ext E7)
  have hin8 : ¬ ((0 : Int32) < 0 ∨ cl8.slots.size ≤ ((0 : Int32)).toNatClampNeg) := inb_of S8 ⟨by decide, by decide⟩
  have hat8 : cl8.slots[((0 : Int32)).toNatClampNeg]? = some (.int (li.getD (0 : Int32).toNatClampNeg 0)) := H8.at hin8 (own_getD li _)
  refine own_step (fun _ => X7.caload hx (j := (0 : Int32)) (v := (.int (li.getD (0 : Int32).toNatClampNeg 0))) (by rw [e7]; exact Ar8.1) (State.isArrayOf_alike hZ.alike Ar8.2.1) Ar8.2.2 hin8 hat8 (g := (mkF m 31 #[.val (.ref o0), .val (.int (1 : Int32))] [(.int (0 : Int32)), (.ref o0), (.int (0 : Int32)), (.ref b7), (.ref b7), (.ref b6), (.ref b6)])) rfl rfl (hb hby d1_31) _) ?_
  show own_Ends p e below s _ _ _ T7 (mkF m 32 #[.val (.ref o0), .val (.int (1 : Int32))] [(.int (li.getD (0 : Int32).toNatClampNeg 0)), (.int (0 : Int32)), (.ref b7), (.ref b7), (.ref b6), (.ref b6)])
  obtain ⟨cl9, Ar9, q9, S9, N9_, H9, G9⟩ := id V7
  have hin9 : ¬ ((0 : Int32) < 0 ∨ cl9.slots.size ≤ ((0 : Int32)).toNatClampNeg) := inb_of S9 ⟨by decide, by decide⟩
  obtain ⟨T9, h9, X9, e9, W9, st9⟩ := stC X7 hx hZ e7 Ar9 (j := (0 : Int32)) hin9 (g := (mkF m 32 #[.val (.ref o0), .val (.int (1 : Int32))] [(.int (li.getD (0 : Int32).toNatClampNeg 0)), (.int (0 : Int32)), (.ref b7), (.ref b7), (.ref b6), (.ref b6)])) rfl rfl (hb hby d1_32)
  have V9 : Arv Z h9 b7 k7 .char (1 : Int32) [(.int (nar .char (li.getD (0 : Int32).toNatClampNeg 0)))] (.int (0 : Int32)) := Arv.set Ar9 q9 S9 N9_ H9 G9 (fits_nar_char _) W9 0 rfl (Nat.le_of_ble_eq_true rfl)
  have K9 : Keep h0 h9 [] := K7.wr W9 (Or.inr sz_b7)
  have OLD9 := OLD7.wr W9 g_b7
  have Zs9 : n0 ≤ h9.size := (by rw [W9.size]; exact Zs7)
  have N9 := Fr.snoc X9 N0 g_b7
  refine own_step st9 ?_
  show own_Ends p e below s _ _ _ T9 (mkF m 33 #[.val (.ref o0), .val (.int (1 : Int32))] [(.ref b7), (.ref b6), (.ref b6)])
  have hp10 : ∀ c ∈ ([(nar .char (li.getD (0 : Int32).toNatClampNeg 0))] : List Int32), own_R c := (own_lc (own_rn hr _) own_ln)
  obtain ⟨_, _, ⟨T10, L10, k10, n10⟩, -, X10, ⟨Lc10, hQ10, l10, y10, z10⟩, st10⟩ := X9.specialBack hx (y := (⟨"java/lang/String", "<init>", "([C)V"⟩ : MethodName)) rfl hown (mvT hZ (hw _ (List.mem_of_getElem? (i := 8) rfl))) (mvT hZ (hw _ (List.mem_of_getElem? (i := 9) rfl))) (mvT hZ (hw _ (List.mem_of_getElem? (i := 10) rfl))) (by decide) (StrChars.Road.backV (W := 1) hZ (own_ws hw) (kI := 4) (hw _ (List.mem_of_getElem? (i := 6) rfl)) (cs := ([(nar .char (li.getD (0 : Int32).toNatClampNeg 0))] : List Int32)) (bs := ([(nar .char (li.getD (0 : Int32).toNatClampNeg 0))] : List Int32).map StrChars.lo8) (n := 1) g_b6 Zs9 ((A6.ext E7).wr W9) ((F6_value.ext E7).other W9 (Or.inl ne_b6_b7)) ((F6_coder.ext E7).other W9 (Or.inl ne_b6_b7)) V9 (O2.ext OLD9.2) P5 rfl rfl (by decide) (by decide) hp10 rfl (by decide) (by decide)) (g := (mkF m 33 #[.val (.ref o0), .val (.int (1 : Int32))] [(.ref b7), (.ref b6), (.ref b6)])) rfl (by rw [hml]; rfl) (Steps.refl _) (a := b6) (argsL := [(.ref b7)]) (rest := [(.ref b6)]) (lenOf pd_1 rfl) rfl (by show 2 * 0 + _ ≤ _; exact Nat.le_of_eq rfl) (hb hby d1_33) (fun _ _ => ⟨rfl, e9, (by decide : 2 + 1 ≤ _), (by decide : 5 + 1 ≤ _)⟩)
  dsimp only [Pt.U, Pt.locs, Pt.cells, Pt.slots] at X10 l10 y10 z10 st10 hQ10
  subst l10 y10 z10
  obtain ⟨rfl, N10q, K10, gE10, gC10, t10, kb10, -, -, -, gV10, gA10⟩ := hQ10
  have N10 := Fr.app N9 N10q
  have KK10 : Keep h0 T10.heap [] := K9.trans K10 (allS (Or.inr sz_b6) all0)
  have OLDk10 := OLD9.keep K10 (allS g_b6 all0)
  have Zs10 : n0 ≤ T10.heap.size := Nat.le_trans Zs9 K10.1
  refine own_step (fun _ => st10.trans) ?_
  show own_Ends p e below s _ _ _ T10 (mkF m 36 #[.val (.ref o0), .val (.int (1 : Int32))] [(.ref b6)])
  exact own_retR X10 hx hret hlk (hb hby d1_36) (by decide) (by decide) rfl rfl ⟨b6, t10, kb10, rfl, N10, KK10, gE10, gC10, gV10, gA10⟩
theorem ef_rm1_1 (m : MethodId) (o0 : Addr) : entryFrame m #[(.ref o0), (.int (1 : Int32))] 2 = mkF m 0 #[.val (.ref o0), .val (.int (1 : Int32))] [] := by first | (simp [entryFrame, mkF, argsToLocals, Value.category]; done) | rfl
set_option maxRecDepth 65536 in
set_option maxHeartbeats 40000000 in
theorem rm1_1 (l : Launch) (Z : State) (a0 : Array Value) (hw : ∀ d ∈ tables_1, d.before a0 Z = true) (ws : List Jvm.Cond) (o0 : Addr) (ka : ClassId) (li : List Int32) (G1 : Int32) (h0 : Heap) (n0 : Nat) (Z0 : n0 ≤ h0.size) (OLD : Old Z n0 h0) (Va : Arv Z h0 o0 ka .char (6 : Int32) (li.map Value.int) (.int (0 : Int32))) (O2 : Sta Z Z.heap "java/lang/String" "COMPACT_STRINGS" "Z" (.int G1)) (P5 : ¬ (G1 = (0 : Int32))) (hr : ∀ c ∈ li, own_R c) :
    MetFree l (⟨"lomwright/lom/PartOfPinLaw", "text", "([CI)Ljava/lang/String;"⟩ : MethodName) (head1 (Jvm.Cond.code (⟨"lomwright/lom/PartOfPinLaw", "text", "([CI)Ljava/lang/String;"⟩ : MethodName) method_3_code 2 (some (.object "java/lang/String")) :: ws) ({ frames := 4, cells := 3, slots := 6, locals := 66 } : Room)) (fun a U => a = #[(.ref o0), (.int (1 : Int32))] ∧ Z.Warmed39 U.vm ∧ U.heap = h0) (fun _ _ _ _ _ => True) (fun _ U o U' => ∃ v L, o = .returned v ∧ (own_QT Z n0 h0 (1 : Int32) [(nar .char (li.getD (0 : Int32).toNatClampNeg 0))]) v U'.heap L ∧ FrameEnd U o U' L ({ frames := 4, cells := 3, slots := 6, locals := 66 } : Room).cells ({ frames := 4, cells := 3, slots := 6, locals := 66 } : Room).slots) := by
  refine MetFree.of_bodySF (plainFor_of_name pn_1) hisR ?_
  intro p e s m args below meth c s₁ Bd hml0 hP hK
  obtain ⟨rfl, hZ, hh⟩ := hP
  have X0 : Stand p l e ({ frames := 4, cells := 3, slots := 6, locals := 66 } : Room) s m #[(.ref o0), (.int (1 : Int32))] below meth c s₁ [] 0 0 := Stand.of_body Bd
  have e0 : s₁.heap = h0 := by rw [← hh, Bd.state]; rfl
  have C : own_C "lomwright/lom/PartOfPinLaw" method_3_code 2 (some (.object "java/lang/String")) "text" p s m meth c Z a0 := ⟨Bd.exec, hZ, hw, Bd.bytes, hml0, findClass_of_methodNamed Bd.named, Bd.returns, Bd.notSynchronized, (name_of_methodNamed Bd.named Bd.method).1⟩
  have r := b1_1n_0 C Z0 X0 e0 (Fr.nil n0) o0 ka li G1 OLD Va O2 P5 hr
  rw [ef_rm1_1 m o0]
  exact r
theorem d1_37 : decode method_3_code 37 = .ok (.iload_n 1, 1) := by decide +kernel
theorem d1_38 : decode method_3_code 38 = .ok (.iconst 2, 1) := by decide +kernel
theorem d1_39 : decode method_3_code 39 = .ok (.if_icmp .ne 26, 3) := by decide +kernel
theorem d1_42 : decode method_3_code 42 = .ok (.new 30, 3) := by decide +kernel
theorem d1_45 : decode method_3_code 45 = .ok (.dup, 1) := by decide +kernel
theorem d1_46 : decode method_3_code 46 = .ok (.iconst 2, 1) := by decide +kernel
theorem d1_47 : decode method_3_code 47 = .ok (.newarray .char, 2) := by decide +kernel
theorem d1_49 : decode method_3_code 49 = .ok (.dup, 1) := by decide +kernel
theorem d1_50 : decode method_3_code 50 = .ok (.iconst 0, 1) := by decide +kernel
theorem d1_51 : decode method_3_code 51 = .ok (.aload_n 0, 1) := by decide +kernel
theorem d1_52 : decode method_3_code 52 = .ok (.iconst 0, 1) := by decide +kernel
theorem d1_53 : decode method_3_code 53 = .ok (.caload, 1) := by decide +kernel
theorem d1_54 : decode method_3_code 54 = .ok (.castore, 1) := by decide +kernel
theorem d1_55 : decode method_3_code 55 = .ok (.dup, 1) := by decide +kernel
theorem d1_56 : decode method_3_code 56 = .ok (.iconst 1, 1) := by decide +kernel
theorem d1_57 : decode method_3_code 57 = .ok (.aload_n 0, 1) := by decide +kernel
theorem d1_58 : decode method_3_code 58 = .ok (.iconst 1, 1) := by decide +kernel
theorem d1_59 : decode method_3_code 59 = .ok (.caload, 1) := by decide +kernel
theorem d1_60 : decode method_3_code 60 = .ok (.castore, 1) := by decide +kernel
theorem d1_61 : decode method_3_code 61 = .ok (.invokespecial 32, 3) := by decide +kernel
theorem d1_64 : decode method_3_code 64 = .ok (.areturn, 1) := by decide +kernel
set_option maxRecDepth 65536 in
set_option maxHeartbeats 40000000 in
theorem b1_2n_0 {p : Program} {l : Launch} {e : Env} {s : State} {m : MethodId} {args : Array Value} {below : List Frame} {meth : Method} {c : Code} {Z : State} {a0 : Array Value} {h0 : Heap} {n0 : Nat} (C : own_C "lomwright/lom/PartOfPinLaw" method_3_code 2 (some (.object "java/lang/String")) "text" p s m meth c Z a0) (Z0 : n0 ≤ h0.size) {T0 : State} {locs : List Loc} (X0 : Stand p l e ({ frames := 4, cells := 3, slots := 8, locals := 66 } : Room) s m args below meth c T0 locs 0 0) (e0 : T0.heap = h0) (N0 : Fr n0 locs) (o0 : Addr) (ka : ClassId) (li : List Int32) (G1 : Int32) (OLD : Old Z n0 h0) (Va : Arv Z h0 o0 ka .char (6 : Int32) (li.map Value.int) (.int (0 : Int32))) (O2 : Sta Z Z.heap "java/lang/String" "COMPACT_STRINGS" "Z" (.int G1)) (P5 : ¬ (G1 = (0 : Int32))) (hr : ∀ c ∈ li, own_R c) :
    own_Ends p e below s ({ frames := 4, cells := 3, slots := 8, locals := 66 } : Room).cells ({ frames := 4, cells := 3, slots := 8, locals := 66 } : Room).slots (own_QT Z n0 h0 (2 : Int32) [(nar .char (li.getD (0 : Int32).toNatClampNeg 0)), (nar .char (li.getD (1 : Int32).toNatClampNeg 0))]) T0 (mkF m 0 #[.val (.ref o0), .val (.int (2 : Int32))] []) := by
  obtain ⟨hx, hZ, hw, hby, hml, hown, hret, hlk, hnm⟩ := C
  have C : own_C "lomwright/lom/PartOfPinLaw" method_3_code 2 (some (.object "java/lang/String")) "text" p s m meth c Z a0 := ⟨hx, hZ, hw, hby, hml, hown, hret, hlk, hnm⟩
  refine own_step (fun _ => XS.iloadN X0.here hx rfl (hb hby d1_0) rfl) ?_
  show own_Ends p e below s _ _ _ T0 (mkF m 1 #[.val (.ref o0), .val (.int (2 : Int32))] [(.int (2 : Int32))])
  refine own_step (fun _ => XS.ifYes X0.here hx rfl (pc0 := 1) (pc' := 15) rfl (hb hby d1_1) rfl ((if0 _ _).trans (feq (show ¬ ((2 : Int32) = (0 : Int32)) from (by decide))).2) (by decide) (by decide)) ?_
  show own_Ends p e below s _ _ _ T0 (mkF m 15 #[.val (.ref o0), .val (.int (2 : Int32))] [])
  refine own_step (fun _ => XS.iloadN X0.here hx rfl (hb hby d1_15) rfl) ?_
  show own_Ends p e below s _ _ _ T0 (mkF m 16 #[.val (.ref o0), .val (.int (2 : Int32))] [(.int (2 : Int32))])
  refine own_step (fun _ => XS.iconst X0.here hx rfl (hb hby d1_16)) ?_
  show own_Ends p e below s _ _ _ T0 (mkF m 17 #[.val (.ref o0), .val (.int (2 : Int32))] [(.int (1 : Int32)), (.int (2 : Int32))])
  refine own_step (fun _ => XS.icmpYes X0.here hx rfl (pc0 := 17) (pc' := 37) rfl (hb hby d1_17) rfl (feq (show ¬ ((2 : Int32) = (1 : Int32)) from (by decide))).2 (by decide) (by decide)) ?_
  show own_Ends p e below s _ _ _ T0 (mkF m 37 #[.val (.ref o0), .val (.int (2 : Int32))] [])
  refine own_step (fun _ => XS.iloadN X0.here hx rfl (hb hby d1_37) rfl) ?_
  show own_Ends p e below s _ _ _ T0 (mkF m 38 #[.val (.ref o0), .val (.int (2 : Int32))] [(.int (2 : Int32))])
  refine own_step (fun _ => XS.iconst X0.here hx rfl (hb hby d1_38)) ?_
  show own_Ends p e below s _ _ _ T0 (mkF m 39 #[.val (.ref o0), .val (.int (2 : Int32))] [(.int (2 : Int32)), (.int (2 : Int32))])
  refine own_step (fun _ => XS.icmpNo X0.here hx rfl (hb hby d1_39) rfl (teq (show (2 : Int32) = (2 : Int32) from (by decide))).2) ?_
  show own_Ends p e below s _ _ _ T0 (mkF m 42 #[.val (.ref o0), .val (.int (2 : Int32))] [])
  obtain ⟨T8, h8, X8, e8, E8, A8, D8, U8, st8⟩ := newO X0 hx hZ hown (hw _ (List.mem_of_getElem? (i := 5) rfl)) (hw _ (List.mem_of_getElem? (i := 6) rfl)) (hw _ (List.mem_of_getElem? (i := 7) rfl)) e0 (g := (mkF m 42 #[.val (.ref o0), .val (.int (2 : Int32))] [])) rfl (hb hby d1_42) (by decide) (by decide)
  obtain ⟨b8, g8⟩ : ∃ z, z = h0.size := ⟨_, rfl⟩
  rw [← g8] at A8 D8 U8 st8
  have g_b8 : n0 ≤ b8 := Nat.le_trans Z0 (Nat.le_of_eq g8.symm)
  have OLD8 := OLD.ext E8
  have sz_b8 : h0.size ≤ b8 := Nat.le_trans (Keep.refl h0 []).1 (Nat.le_of_eq g8.symm)
  have K8 : Keep h0 h8 [] := (Keep.refl h0 []).ext E8
  have Zs8 : n0 ≤ h8.size := Nat.le_trans Z0 E8.1
  have F8_coder : Fld Z h8 b8 "java/lang/String" "coder" "B" (.int (0 : Int32)) := D8 (Or.inr (hw _ (List.mem_of_getElem? (i := 31) rfl))) (ty := .byte) (by decide)
  have F8_value : Fld Z h8 b8 "java/lang/String" "value" "[B" .null := D8 (Or.inr (hw _ (List.mem_of_getElem? (i := 33) rfl))) (ty := (.array .byte)) (by decide)
  refine own_step st8 ?_
  show own_Ends p e below s _ _ _ T8 (mkF m 45 #[.val (.ref o0), .val (.int (2 : Int32))] [(.ref b8)])
  refine own_step (fun _ => XS.dup X8.here hx rfl (hb hby d1_45) rfl rfl) ?_
  show own_Ends p e below s _ _ _ T8 (mkF m 46 #[.val (.ref o0), .val (.int (2 : Int32))] [(.ref b8), (.ref b8)])
  refine own_step (fun _ => XS.iconst X8.here hx rfl (hb hby d1_46)) ?_
  show own_Ends p e below s _ _ _ T8 (mkF m 47 #[.val (.ref o0), .val (.int (2 : Int32))] [(.int (2 : Int32)), (.ref b8), (.ref b8)])
  obtain ⟨T9, h9, k9, X9, e9, E9, A9, st9⟩ := newP X8 hx hZ (hw _ (List.mem_of_getElem? (i := 0) rfl)) e8 (g := (mkF m 47 #[.val (.ref o0), .val (.int (2 : Int32))] [(.int (2 : Int32)), (.ref b8), (.ref b8)])) rfl (hb hby d1_47) rfl (by decide) (cap := 2) (by decide) (by decide) (by decide) (by decide)
  obtain ⟨b9, g9⟩ : ∃ z, z = h8.size := ⟨_, rfl⟩
  rw [← g9] at A9 st9
  have V9 : Arv Z h9 b9 k9 .char (2 : Int32) [(.int (0 : Int32)), (.int (0 : Int32))] (.int (0 : Int32)) := (Arv.new A9 (by decide)).pad (pad_rep [] (.int (0 : Int32)) 2)
  have ne_b8_b9 : b8 ≠ b9 := Nat.ne_of_lt (Nat.lt_of_lt_of_le A8.lt (Nat.le_of_eq g9.symm))
  have g_b9 : n0 ≤ b9 := Nat.le_trans Zs8 (Nat.le_of_eq g9.symm)
  have OLD9 := OLD8.ext E9
  have sz_b9 : h0.size ≤ b9 := Nat.le_trans K8.1 (Nat.le_of_eq g9.symm)
  have K9 : Keep h0 h9 [] := K8.ext E9
  have Zs9 : n0 ≤ h9.size := Nat.le_trans Zs8 E9.1
  refine own_step st9 ?_
  show own_Ends p e below s _ _ _ T9 (mkF m 49 #[.val (.ref o0), .val (.int (2 : Int32))] [(.ref b9), (.ref b8), (.ref b8)])
  refine own_step (fun _ => XS.dup X9.here hx rfl (hb hby d1_49) rfl rfl) ?_
  show own_Ends p e below s _ _ _ T9 (mkF m 50 #[.val (.ref o0), .val (.int (2 : Int32))] [(.ref b9), (.ref b9), (.ref b8), (.ref b8)])
  refine own_step (fun _ => XS.iconst X9.here hx rfl (hb hby d1_50)) ?_
  show own_Ends p e below s _ _ _ T9 (mkF m 51 #[.val (.ref o0), .val (.int (2 : Int32))] [(.int (0 : Int32)), (.ref b9), (.ref b9), (.ref b8), (.ref b8)])
  refine own_step (fun _ => XS.aloadN X9.here hx rfl (hb hby d1_51) rfl rfl) ?_
  show own_Ends p e below s _ _ _ T9 (mkF m 52 #[.val (.ref o0), .val (.int (2 : Int32))] [(.ref o0), (.int (0 : Int32)), (.ref b9), (.ref b9), (.ref b8), (.ref b8)])
  refine own_step (fun _ => XS.iconst X9.here hx rfl (hb hby d1_52)) ?_
  show own_Ends p e below s _ _ _ T9 (mkF m 53 #[.val (.ref o0), .val (.int (2 : Int32))] [(.int (0 : Int32)), (.ref o0), (.int (0 : Int32)), (.ref b9), (.ref b9), (.ref b8), (.ref b8)])
  obtain ⟨cl10, Ar10, q10, S10, N10_, H10, G10⟩ := id ((Va.ext E8).ext E9)
  have hin10 : ¬ ((0 : Int32) < 0 ∨ cl10.slots.size ≤ ((0 : Int32)).toNatClampNeg) := inb_of S10 ⟨by decide, by decide⟩
  have hat10 : cl10.slots[((0 : Int32)).toNatClampNeg]? = some (.int (li.getD (0 : Int32).toNatClampNeg 0)) := H10.at hin10 (own_getD li _)
  refine own_step (fun _ => X9.caload hx (j := (0 : Int32)) (v := (.int (li.getD (0 : Int32).toNatClampNeg 0))) (by rw [e9]; exact Ar10.1) (State.isArrayOf_alike hZ.alike Ar10.2.1) Ar10.2.2 hin10 hat10 (g := (mkF m 53 #[.val (.ref o0), .val (.int (2 : Int32))] [(.int (0 : Int32)), (.ref o0), (.int (0 : Int32)), (.ref b9), (.ref b9), (.ref b8), (.ref b8)])) rfl rfl (hb hby d1_53) _) ?_
  show own_Ends p e below s _ _ _ T9 (mkF m 54 #[.val (.ref o0), .val (.int (2 : Int32))] [(.int (li.getD (0 : Int32).toNatClampNeg 0)), (.int (0 : Int32)), (.ref b9), (.ref b9), (.ref b8), (.ref b8)])
  obtain ⟨cl11, Ar11, q11, S11, N11_, H11, G11⟩ := id V9
  have hin11 : ¬ ((0 : Int32) < 0 ∨ cl11.slots.size ≤ ((0 : Int32)).toNatClampNeg) := inb_of S11 ⟨by decide, by decide⟩
  obtain ⟨T11, h11, X11, e11, W11, st11⟩ := stC X9 hx hZ e9 Ar11 (j := (0 : Int32)) hin11 (g := (mkF m 54 #[.val (.ref o0), .val (.int (2 : Int32))] [(.int (li.getD (0 : Int32).toNatClampNeg 0)), (.int (0 : Int32)), (.ref b9), (.ref b9), (.ref b8), (.ref b8)])) rfl rfl (hb hby d1_54)
  have V11 : Arv Z h11 b9 k9 .char (2 : Int32) [(.int (nar .char (li.getD (0 : Int32).toNatClampNeg 0))), (.int (0 : Int32))] (.int (0 : Int32)) := Arv.set Ar11 q11 S11 N11_ H11 G11 (fits_nar_char _) W11 0 rfl (Nat.le_of_ble_eq_true rfl)
  have K11 : Keep h0 h11 [] := K9.wr W11 (Or.inr sz_b9)
  have OLD11 := OLD9.wr W11 g_b9
  have Zs11 : n0 ≤ h11.size := (by rw [W11.size]; exact Zs9)
  have N11 := Fr.snoc X11 N0 g_b9
  refine own_step st11 ?_
  show own_Ends p e below s _ _ _ T11 (mkF m 55 #[.val (.ref o0), .val (.int (2 : Int32))] [(.ref b9), (.ref b8), (.ref b8)])
  refine own_step (fun _ => XS.dup X11.here hx rfl (hb hby d1_55) rfl rfl) ?_
  show own_Ends p e below s _ _ _ T11 (mkF m 56 #[.val (.ref o0), .val (.int (2 : Int32))] [(.ref b9), (.ref b9), (.ref b8), (.ref b8)])
  refine own_step (fun _ => XS.iconst X11.here hx rfl (hb hby d1_56)) ?_
  show own_Ends p e below s _ _ _ T11 (mkF m 57 #[.val (.ref o0), .val (.int (2 : Int32))] [(.int (1 : Int32)), (.ref b9), (.ref b9), (.ref b8), (.ref b8)])
  refine own_step (fun _ => XS.aloadN X11.here hx rfl (hb hby d1_57) rfl rfl) ?_
  show own_Ends p e below s _ _ _ T11 (mkF m 58 #[.val (.ref o0), .val (.int (2 : Int32))] [(.ref o0), (.int (1 : Int32)), (.ref b9), (.ref b9), (.ref b8), (.ref b8)])
  refine own_step (fun _ => XS.iconst X11.here hx rfl (hb hby d1_58)) ?_
  show own_Ends p e below s _ _ _ T11 (mkF m 59 #[.val (.ref o0), .val (.int (2 : Int32))] [(.int (1 : Int32)), (.ref o0), (.int (1 : Int32)), (.ref b9), (.ref b9), (.ref b8), (.ref b8)])
  obtain ⟨cl12, Ar12, q12, S12, N12_, H12, G12⟩ := id (((Va.ext E8).ext E9).other W11 (Nat.ne_of_lt (Nat.lt_of_lt_of_le Va.lt sz_b9)))
  have hin12 : ¬ ((1 : Int32) < 0 ∨ cl12.slots.size ≤ ((1 : Int32)).toNatClampNeg) := inb_of S12 ⟨by decide, by decide⟩
  have hat12 : cl12.slots[((1 : Int32)).toNatClampNeg]? = some (.int (li.getD (1 : Int32).toNatClampNeg 0)) := H12.at hin12 (own_getD li _)
  refine own_step (fun _ => X11.caload hx (j := (1 : Int32)) (v := (.int (li.getD (1 : Int32).toNatClampNeg 0))) (by rw [e11]; exact Ar12.1) (State.isArrayOf_alike hZ.alike Ar12.2.1) Ar12.2.2 hin12 hat12 (g := (mkF m 59 #[.val (.ref o0), .val (.int (2 : Int32))] [(.int (1 : Int32)), (.ref o0), (.int (1 : Int32)), (.ref b9), (.ref b9), (.ref b8), (.ref b8)])) rfl rfl (hb hby d1_59) _) ?_
  show own_Ends p e below s _ _ _ T11 (mkF m 60 #[.val (.ref o0), .val (.int (2 : Int32))] [(.int (li.getD (1 : Int32).toNatClampNeg 0)), (.int (1 : Int32)), (.ref b9), (.ref b9), (.ref b8), (.ref b8)])
  obtain ⟨cl13, Ar13, q13, S13, N13_, H13, G13⟩ := id V11
  have hin13 : ¬ ((1 : Int32) < 0 ∨ cl13.slots.size ≤ ((1 : Int32)).toNatClampNeg) := inb_of S13 ⟨by decide, by decide⟩
  obtain ⟨T13, h13, X13, e13, W13, st13⟩ := stC X11 hx hZ e11 Ar13 (j := (1 : Int32)) hin13 (g := (mkF m 60 #[.val (.ref o0), .val (.int (2 : Int32))] [(.int (li.getD (1 : Int32).toNatClampNeg 0)), (.int (1 : Int32)), (.ref b9), (.ref b9), (.ref b8), (.ref b8)])) rfl rfl (hb hby d1_60)
  have V13 : Arv Z h13 b9 k9 .char (2 : Int32) [(.int (nar .char (li.getD (0 : Int32).toNatClampNeg 0))), (.int (nar .char (li.getD (1 : Int32).toNatClampNeg 0)))] (.int (0 : Int32)) := Arv.set Ar13 q13 S13 N13_ H13 G13 (fits_nar_char _) W13 1 rfl (Nat.le_of_ble_eq_true rfl)
  have K13 : Keep h0 h13 [] := K11.wr W13 (Or.inr sz_b9)
  have OLD13 := OLD11.wr W13 g_b9
  have Zs13 : n0 ≤ h13.size := (by rw [W13.size]; exact Zs11)
  have N13 := Fr.snoc X13 N11 g_b9
  refine own_step st13 ?_
  show own_Ends p e below s _ _ _ T13 (mkF m 61 #[.val (.ref o0), .val (.int (2 : Int32))] [(.ref b9), (.ref b8), (.ref b8)])
  have hp14 : ∀ c ∈ ([(nar .char (li.getD (0 : Int32).toNatClampNeg 0)), (nar .char (li.getD (1 : Int32).toNatClampNeg 0))] : List Int32), own_R c := (own_lc (own_rn hr _) (own_lc (own_rn hr _) own_ln))
  obtain ⟨_, _, ⟨T14, L14, k14, n14⟩, -, X14, ⟨Lc14, hQ14, l14, y14, z14⟩, st14⟩ := X13.specialBack hx (y := (⟨"java/lang/String", "<init>", "([C)V"⟩ : MethodName)) rfl hown (mvT hZ (hw _ (List.mem_of_getElem? (i := 8) rfl))) (mvT hZ (hw _ (List.mem_of_getElem? (i := 9) rfl))) (mvT hZ (hw _ (List.mem_of_getElem? (i := 10) rfl))) (by decide) (StrChars.Road.backV (W := 1) hZ (own_ws hw) (kI := 4) (hw _ (List.mem_of_getElem? (i := 6) rfl)) (cs := ([(nar .char (li.getD (0 : Int32).toNatClampNeg 0)), (nar .char (li.getD (1 : Int32).toNatClampNeg 0))] : List Int32)) (bs := ([(nar .char (li.getD (0 : Int32).toNatClampNeg 0)), (nar .char (li.getD (1 : Int32).toNatClampNeg 0))] : List Int32).map StrChars.lo8) (n := 2) g_b8 Zs13 (((A8.ext E9).wr W11).wr W13) (((F8_value.ext E9).other W11 (Or.inl ne_b8_b9)).other W13 (Or.inl ne_b8_b9)) (((F8_coder.ext E9).other W11 (Or.inl ne_b8_b9)).other W13 (Or.inl ne_b8_b9)) V13 (O2.ext OLD13.2) P5 rfl rfl (by decide) (by decide) hp14 rfl (by decide) (by decide)) (g := (mkF m 61 #[.val (.ref o0), .val (.int (2 : Int32))] [(.ref b9), (.ref b8), (.ref b8)])) rfl (by rw [hml]; rfl) (Steps.refl _) (a := b8) (argsL := [(.ref b9)]) (rest := [(.ref b8)]) (lenOf pd_1 rfl) rfl (by show 2 * 0 + _ ≤ _; exact Nat.le_of_eq rfl) (hb hby d1_61) (fun _ _ => ⟨rfl, e13, (by decide : 2 + 1 ≤ _), (by decide : 6 + 2 ≤ _)⟩)
  dsimp only [Pt.U, Pt.locs, Pt.cells, Pt.slots] at X14 l14 y14 z14 st14 hQ14
  subst l14 y14 z14
  obtain ⟨rfl, N14q, K14, gE14, gC14, t14, kb14, -, -, -, gV14, gA14⟩ := hQ14
  have N14 := Fr.app N13 N14q
  have KK14 : Keep h0 T14.heap [] := K13.trans K14 (allS (Or.inr sz_b8) all0)
  have OLDk14 := OLD13.keep K14 (allS g_b8 all0)
  have Zs14 : n0 ≤ T14.heap.size := Nat.le_trans Zs13 K14.1
  refine own_step (fun _ => st14.trans) ?_
  show own_Ends p e below s _ _ _ T14 (mkF m 64 #[.val (.ref o0), .val (.int (2 : Int32))] [(.ref b8)])
  exact own_retR X14 hx hret hlk (hb hby d1_64) (by decide) (by decide) rfl rfl ⟨b8, t14, kb14, rfl, N14, KK14, gE14, gC14, gV14, gA14⟩
theorem ef_rm1_2 (m : MethodId) (o0 : Addr) : entryFrame m #[(.ref o0), (.int (2 : Int32))] 2 = mkF m 0 #[.val (.ref o0), .val (.int (2 : Int32))] [] := by first | (simp [entryFrame, mkF, argsToLocals, Value.category]; done) | rfl
set_option maxRecDepth 65536 in
set_option maxHeartbeats 40000000 in
theorem rm1_2 (l : Launch) (Z : State) (a0 : Array Value) (hw : ∀ d ∈ tables_1, d.before a0 Z = true) (ws : List Jvm.Cond) (o0 : Addr) (ka : ClassId) (li : List Int32) (G1 : Int32) (h0 : Heap) (n0 : Nat) (Z0 : n0 ≤ h0.size) (OLD : Old Z n0 h0) (Va : Arv Z h0 o0 ka .char (6 : Int32) (li.map Value.int) (.int (0 : Int32))) (O2 : Sta Z Z.heap "java/lang/String" "COMPACT_STRINGS" "Z" (.int G1)) (P5 : ¬ (G1 = (0 : Int32))) (hr : ∀ c ∈ li, own_R c) :
    MetFree l (⟨"lomwright/lom/PartOfPinLaw", "text", "([CI)Ljava/lang/String;"⟩ : MethodName) (head1 (Jvm.Cond.code (⟨"lomwright/lom/PartOfPinLaw", "text", "([CI)Ljava/lang/String;"⟩ : MethodName) method_3_code 2 (some (.object "java/lang/String")) :: ws) ({ frames := 4, cells := 3, slots := 8, locals := 66 } : Room)) (fun a U => a = #[(.ref o0), (.int (2 : Int32))] ∧ Z.Warmed39 U.vm ∧ U.heap = h0) (fun _ _ _ _ _ => True) (fun _ U o U' => ∃ v L, o = .returned v ∧ (own_QT Z n0 h0 (2 : Int32) [(nar .char (li.getD (0 : Int32).toNatClampNeg 0)), (nar .char (li.getD (1 : Int32).toNatClampNeg 0))]) v U'.heap L ∧ FrameEnd U o U' L ({ frames := 4, cells := 3, slots := 8, locals := 66 } : Room).cells ({ frames := 4, cells := 3, slots := 8, locals := 66 } : Room).slots) := by
  refine MetFree.of_bodySF (plainFor_of_name pn_1) hisR ?_
  intro p e s m args below meth c s₁ Bd hml0 hP hK
  obtain ⟨rfl, hZ, hh⟩ := hP
  have X0 : Stand p l e ({ frames := 4, cells := 3, slots := 8, locals := 66 } : Room) s m #[(.ref o0), (.int (2 : Int32))] below meth c s₁ [] 0 0 := Stand.of_body Bd
  have e0 : s₁.heap = h0 := by rw [← hh, Bd.state]; rfl
  have C : own_C "lomwright/lom/PartOfPinLaw" method_3_code 2 (some (.object "java/lang/String")) "text" p s m meth c Z a0 := ⟨Bd.exec, hZ, hw, Bd.bytes, hml0, findClass_of_methodNamed Bd.named, Bd.returns, Bd.notSynchronized, (name_of_methodNamed Bd.named Bd.method).1⟩
  have r := b1_2n_0 C Z0 X0 e0 (Fr.nil n0) o0 ka li G1 OLD Va O2 P5 hr
  rw [ef_rm1_2 m o0]
  exact r
theorem d1_65 : decode method_3_code 65 = .ok (.iload_n 1, 1) := by decide +kernel
theorem d1_66 : decode method_3_code 66 = .ok (.iconst 3, 1) := by decide +kernel
theorem d1_67 : decode method_3_code 67 = .ok (.if_icmp .ne 32, 3) := by decide +kernel
theorem d1_70 : decode method_3_code 70 = .ok (.new 30, 3) := by decide +kernel
theorem d1_73 : decode method_3_code 73 = .ok (.dup, 1) := by decide +kernel
theorem d1_74 : decode method_3_code 74 = .ok (.iconst 3, 1) := by decide +kernel
theorem d1_75 : decode method_3_code 75 = .ok (.newarray .char, 2) := by decide +kernel
theorem d1_77 : decode method_3_code 77 = .ok (.dup, 1) := by decide +kernel
theorem d1_78 : decode method_3_code 78 = .ok (.iconst 0, 1) := by decide +kernel
theorem d1_79 : decode method_3_code 79 = .ok (.aload_n 0, 1) := by decide +kernel
theorem d1_80 : decode method_3_code 80 = .ok (.iconst 0, 1) := by decide +kernel
theorem d1_81 : decode method_3_code 81 = .ok (.caload, 1) := by decide +kernel
theorem d1_82 : decode method_3_code 82 = .ok (.castore, 1) := by decide +kernel
theorem d1_83 : decode method_3_code 83 = .ok (.dup, 1) := by decide +kernel
theorem d1_84 : decode method_3_code 84 = .ok (.iconst 1, 1) := by decide +kernel
theorem d1_85 : decode method_3_code 85 = .ok (.aload_n 0, 1) := by decide +kernel
theorem d1_86 : decode method_3_code 86 = .ok (.iconst 1, 1) := by decide +kernel
theorem d1_87 : decode method_3_code 87 = .ok (.caload, 1) := by decide +kernel
theorem d1_88 : decode method_3_code 88 = .ok (.castore, 1) := by decide +kernel
theorem d1_89 : decode method_3_code 89 = .ok (.dup, 1) := by decide +kernel
theorem d1_90 : decode method_3_code 90 = .ok (.iconst 2, 1) := by decide +kernel
theorem d1_91 : decode method_3_code 91 = .ok (.aload_n 0, 1) := by decide +kernel
theorem d1_92 : decode method_3_code 92 = .ok (.iconst 2, 1) := by decide +kernel
theorem d1_93 : decode method_3_code 93 = .ok (.caload, 1) := by decide +kernel
theorem d1_94 : decode method_3_code 94 = .ok (.castore, 1) := by decide +kernel
theorem d1_95 : decode method_3_code 95 = .ok (.invokespecial 32, 3) := by decide +kernel
theorem d1_98 : decode method_3_code 98 = .ok (.areturn, 1) := by decide +kernel
set_option maxRecDepth 65536 in
set_option maxHeartbeats 40000000 in
theorem b1_3n_0 {p : Program} {l : Launch} {e : Env} {s : State} {m : MethodId} {args : Array Value} {below : List Frame} {meth : Method} {c : Code} {Z : State} {a0 : Array Value} {h0 : Heap} {n0 : Nat} (C : own_C "lomwright/lom/PartOfPinLaw" method_3_code 2 (some (.object "java/lang/String")) "text" p s m meth c Z a0) (Z0 : n0 ≤ h0.size) {T0 : State} {locs : List Loc} (X0 : Stand p l e ({ frames := 4, cells := 3, slots := 10, locals := 66 } : Room) s m args below meth c T0 locs 0 0) (e0 : T0.heap = h0) (N0 : Fr n0 locs) (o0 : Addr) (ka : ClassId) (li : List Int32) (G1 : Int32) (OLD : Old Z n0 h0) (Va : Arv Z h0 o0 ka .char (6 : Int32) (li.map Value.int) (.int (0 : Int32))) (O2 : Sta Z Z.heap "java/lang/String" "COMPACT_STRINGS" "Z" (.int G1)) (P5 : ¬ (G1 = (0 : Int32))) (hr : ∀ c ∈ li, own_R c) :
    own_Ends p e below s ({ frames := 4, cells := 3, slots := 10, locals := 66 } : Room).cells ({ frames := 4, cells := 3, slots := 10, locals := 66 } : Room).slots (own_QT Z n0 h0 (3 : Int32) [(nar .char (li.getD (0 : Int32).toNatClampNeg 0)), (nar .char (li.getD (1 : Int32).toNatClampNeg 0)), (nar .char (li.getD (2 : Int32).toNatClampNeg 0))]) T0 (mkF m 0 #[.val (.ref o0), .val (.int (3 : Int32))] []) := by
  obtain ⟨hx, hZ, hw, hby, hml, hown, hret, hlk, hnm⟩ := C
  have C : own_C "lomwright/lom/PartOfPinLaw" method_3_code 2 (some (.object "java/lang/String")) "text" p s m meth c Z a0 := ⟨hx, hZ, hw, hby, hml, hown, hret, hlk, hnm⟩
  refine own_step (fun _ => XS.iloadN X0.here hx rfl (hb hby d1_0) rfl) ?_
  show own_Ends p e below s _ _ _ T0 (mkF m 1 #[.val (.ref o0), .val (.int (3 : Int32))] [(.int (3 : Int32))])
  refine own_step (fun _ => XS.ifYes X0.here hx rfl (pc0 := 1) (pc' := 15) rfl (hb hby d1_1) rfl ((if0 _ _).trans (feq (show ¬ ((3 : Int32) = (0 : Int32)) from (by decide))).2) (by decide) (by decide)) ?_
  show own_Ends p e below s _ _ _ T0 (mkF m 15 #[.val (.ref o0), .val (.int (3 : Int32))] [])
  refine own_step (fun _ => XS.iloadN X0.here hx rfl (hb hby d1_15) rfl) ?_
  show own_Ends p e below s _ _ _ T0 (mkF m 16 #[.val (.ref o0), .val (.int (3 : Int32))] [(.int (3 : Int32))])
  refine own_step (fun _ => XS.iconst X0.here hx rfl (hb hby d1_16)) ?_
  show own_Ends p e below s _ _ _ T0 (mkF m 17 #[.val (.ref o0), .val (.int (3 : Int32))] [(.int (1 : Int32)), (.int (3 : Int32))])
  refine own_step (fun _ => XS.icmpYes X0.here hx rfl (pc0 := 17) (pc' := 37) rfl (hb hby d1_17) rfl (feq (show ¬ ((3 : Int32) = (1 : Int32)) from (by decide))).2 (by decide) (by decide)) ?_
  show own_Ends p e below s _ _ _ T0 (mkF m 37 #[.val (.ref o0), .val (.int (3 : Int32))] [])
  refine own_step (fun _ => XS.iloadN X0.here hx rfl (hb hby d1_37) rfl) ?_
  show own_Ends p e below s _ _ _ T0 (mkF m 38 #[.val (.ref o0), .val (.int (3 : Int32))] [(.int (3 : Int32))])
  refine own_step (fun _ => XS.iconst X0.here hx rfl (hb hby d1_38)) ?_
  show own_Ends p e below s _ _ _ T0 (mkF m 39 #[.val (.ref o0), .val (.int (3 : Int32))] [(.int (2 : Int32)), (.int (3 : Int32))])
  refine own_step (fun _ => XS.icmpYes X0.here hx rfl (pc0 := 39) (pc' := 65) rfl (hb hby d1_39) rfl (feq (show ¬ ((3 : Int32) = (2 : Int32)) from (by decide))).2 (by decide) (by decide)) ?_
  show own_Ends p e below s _ _ _ T0 (mkF m 65 #[.val (.ref o0), .val (.int (3 : Int32))] [])
  refine own_step (fun _ => XS.iloadN X0.here hx rfl (hb hby d1_65) rfl) ?_
  show own_Ends p e below s _ _ _ T0 (mkF m 66 #[.val (.ref o0), .val (.int (3 : Int32))] [(.int (3 : Int32))])
  refine own_step (fun _ => XS.iconst X0.here hx rfl (hb hby d1_66)) ?_
  show own_Ends p e below s _ _ _ T0 (mkF m 67 #[.val (.ref o0), .val (.int (3 : Int32))] [(.int (3 : Int32)), (.int (3 : Int32))])
  refine own_step (fun _ => XS.icmpNo X0.here hx rfl (hb hby d1_67) rfl (teq (show (3 : Int32) = (3 : Int32) from (by decide))).2) ?_
  show own_Ends p e below s _ _ _ T0 (mkF m 70 #[.val (.ref o0), .val (.int (3 : Int32))] [])
  obtain ⟨T10, h10, X10, e10, E10, A10, D10, U10, st10⟩ := newO X0 hx hZ hown (hw _ (List.mem_of_getElem? (i := 5) rfl)) (hw _ (List.mem_of_getElem? (i := 6) rfl)) (hw _ (List.mem_of_getElem? (i := 7) rfl)) e0 (g := (mkF m 70 #[.val (.ref o0), .val (.int (3 : Int32))] [])) rfl (hb hby d1_70) (by decide) (by decide)
  obtain ⟨b10, g10⟩ : ∃ z, z = h0.size := ⟨_, rfl⟩
  rw [← g10] at A10 D10 U10 st10
  have g_b10 : n0 ≤ b10 := Nat.le_trans Z0 (Nat.le_of_eq g10.symm)
  have OLD10 := OLD.ext E10
  have sz_b10 : h0.size ≤ b10 := Nat.le_trans (Keep.refl h0 []).1 (Nat.le_of_eq g10.symm)
  have K10 : Keep h0 h10 [] := (Keep.refl h0 []).ext E10
  have Zs10 : n0 ≤ h10.size := Nat.le_trans Z0 E10.1
  have F10_coder : Fld Z h10 b10 "java/lang/String" "coder" "B" (.int (0 : Int32)) := D10 (Or.inr (hw _ (List.mem_of_getElem? (i := 31) rfl))) (ty := .byte) (by decide)
  have F10_value : Fld Z h10 b10 "java/lang/String" "value" "[B" .null := D10 (Or.inr (hw _ (List.mem_of_getElem? (i := 33) rfl))) (ty := (.array .byte)) (by decide)
  refine own_step st10 ?_
  show own_Ends p e below s _ _ _ T10 (mkF m 73 #[.val (.ref o0), .val (.int (3 : Int32))] [(.ref b10)])
  refine own_step (fun _ => XS.dup X10.here hx rfl (hb hby d1_73) rfl rfl) ?_
  show own_Ends p e below s _ _ _ T10 (mkF m 74 #[.val (.ref o0), .val (.int (3 : Int32))] [(.ref b10), (.ref b10)])
  refine own_step (fun _ => XS.iconst X10.here hx rfl (hb hby d1_74)) ?_
  show own_Ends p e below s _ _ _ T10 (mkF m 75 #[.val (.ref o0), .val (.int (3 : Int32))] [(.int (3 : Int32)), (.ref b10), (.ref b10)])
  obtain ⟨T11, h11, k11, X11, e11, E11, A11, st11⟩ := newP X10 hx hZ (hw _ (List.mem_of_getElem? (i := 0) rfl)) e10 (g := (mkF m 75 #[.val (.ref o0), .val (.int (3 : Int32))] [(.int (3 : Int32)), (.ref b10), (.ref b10)])) rfl (hb hby d1_75) rfl (by decide) (cap := 3) (by decide) (by decide) (by decide) (by decide)
  obtain ⟨b11, g11⟩ : ∃ z, z = h10.size := ⟨_, rfl⟩
  rw [← g11] at A11 st11
  have V11 : Arv Z h11 b11 k11 .char (3 : Int32) [(.int (0 : Int32)), (.int (0 : Int32)), (.int (0 : Int32))] (.int (0 : Int32)) := (Arv.new A11 (by decide)).pad (pad_rep [] (.int (0 : Int32)) 3)
  have ne_b10_b11 : b10 ≠ b11 := Nat.ne_of_lt (Nat.lt_of_lt_of_le A10.lt (Nat.le_of_eq g11.symm))
  have g_b11 : n0 ≤ b11 := Nat.le_trans Zs10 (Nat.le_of_eq g11.symm)
  have OLD11 := OLD10.ext E11
  have sz_b11 : h0.size ≤ b11 := Nat.le_trans K10.1 (Nat.le_of_eq g11.symm)
  have K11 : Keep h0 h11 [] := K10.ext E11
  have Zs11 : n0 ≤ h11.size := Nat.le_trans Zs10 E11.1
  refine own_step st11 ?_
  show own_Ends p e below s _ _ _ T11 (mkF m 77 #[.val (.ref o0), .val (.int (3 : Int32))] [(.ref b11), (.ref b10), (.ref b10)])
  refine own_step (fun _ => XS.dup X11.here hx rfl (hb hby d1_77) rfl rfl) ?_
  show own_Ends p e below s _ _ _ T11 (mkF m 78 #[.val (.ref o0), .val (.int (3 : Int32))] [(.ref b11), (.ref b11), (.ref b10), (.ref b10)])
  refine own_step (fun _ => XS.iconst X11.here hx rfl (hb hby d1_78)) ?_
  show own_Ends p e below s _ _ _ T11 (mkF m 79 #[.val (.ref o0), .val (.int (3 : Int32))] [(.int (0 : Int32)), (.ref b11), (.ref b11), (.ref b10), (.ref b10)])
  refine own_step (fun _ => XS.aloadN X11.here hx rfl (hb hby d1_79) rfl rfl) ?_
  show own_Ends p e below s _ _ _ T11 (mkF m 80 #[.val (.ref o0), .val (.int (3 : Int32))] [(.ref o0), (.int (0 : Int32)), (.ref b11), (.ref b11), (.ref b10), (.ref b10)])
  refine own_step (fun _ => XS.iconst X11.here hx rfl (hb hby d1_80)) ?_
  show own_Ends p e below s _ _ _ T11 (mkF m 81 #[.val (.ref o0), .val (.int (3 : Int32))] [(.int (0 : Int32)), (.ref o0), (.int (0 : Int32)), (.ref b11), (.ref b11), (.ref b10), (.ref b10)])
  obtain ⟨cl12, Ar12, q12, S12, N12_, H12, G12⟩ := id ((Va.ext E10).ext E11)
  have hin12 : ¬ ((0 : Int32) < 0 ∨ cl12.slots.size ≤ ((0 : Int32)).toNatClampNeg) := inb_of S12 ⟨by decide, by decide⟩
  have hat12 : cl12.slots[((0 : Int32)).toNatClampNeg]? = some (.int (li.getD (0 : Int32).toNatClampNeg 0)) := H12.at hin12 (own_getD li _)
  refine own_step (fun _ => X11.caload hx (j := (0 : Int32)) (v := (.int (li.getD (0 : Int32).toNatClampNeg 0))) (by rw [e11]; exact Ar12.1) (State.isArrayOf_alike hZ.alike Ar12.2.1) Ar12.2.2 hin12 hat12 (g := (mkF m 81 #[.val (.ref o0), .val (.int (3 : Int32))] [(.int (0 : Int32)), (.ref o0), (.int (0 : Int32)), (.ref b11), (.ref b11), (.ref b10), (.ref b10)])) rfl rfl (hb hby d1_81) _) ?_
  show own_Ends p e below s _ _ _ T11 (mkF m 82 #[.val (.ref o0), .val (.int (3 : Int32))] [(.int (li.getD (0 : Int32).toNatClampNeg 0)), (.int (0 : Int32)), (.ref b11), (.ref b11), (.ref b10), (.ref b10)])
  obtain ⟨cl13, Ar13, q13, S13, N13_, H13, G13⟩ := id V11
  have hin13 : ¬ ((0 : Int32) < 0 ∨ cl13.slots.size ≤ ((0 : Int32)).toNatClampNeg) := inb_of S13 ⟨by decide, by decide⟩
  obtain ⟨T13, h13, X13, e13, W13, st13⟩ := stC X11 hx hZ e11 Ar13 (j := (0 : Int32)) hin13 (g := (mkF m 82 #[.val (.ref o0), .val (.int (3 : Int32))] [(.int (li.getD (0 : Int32).toNatClampNeg 0)), (.int (0 : Int32)), (.ref b11), (.ref b11), (.ref b10), (.ref b10)])) rfl rfl (hb hby d1_82)
  have V13 : Arv Z h13 b11 k11 .char (3 : Int32) [(.int (nar .char (li.getD (0 : Int32).toNatClampNeg 0))), (.int (0 : Int32)), (.int (0 : Int32))] (.int (0 : Int32)) := Arv.set Ar13 q13 S13 N13_ H13 G13 (fits_nar_char _) W13 0 rfl (Nat.le_of_ble_eq_true rfl)
  have K13 : Keep h0 h13 [] := K11.wr W13 (Or.inr sz_b11)
  have OLD13 := OLD11.wr W13 g_b11
  have Zs13 : n0 ≤ h13.size := (by rw [W13.size]; exact Zs11)
  have N13 := Fr.snoc X13 N0 g_b11
  refine own_step st13 ?_
  show own_Ends p e below s _ _ _ T13 (mkF m 83 #[.val (.ref o0), .val (.int (3 : Int32))] [(.ref b11), (.ref b10), (.ref b10)])
  refine own_step (fun _ => XS.dup X13.here hx rfl (hb hby d1_83) rfl rfl) ?_
  show own_Ends p e below s _ _ _ T13 (mkF m 84 #[.val (.ref o0), .val (.int (3 : Int32))] [(.ref b11), (.ref b11), (.ref b10), (.ref b10)])
  refine own_step (fun _ => XS.iconst X13.here hx rfl (hb hby d1_84)) ?_
  show own_Ends p e below s _ _ _ T13 (mkF m 85 #[.val (.ref o0), .val (.int (3 : Int32))] [(.int (1 : Int32)), (.ref b11), (.ref b11), (.ref b10), (.ref b10)])
  refine own_step (fun _ => XS.aloadN X13.here hx rfl (hb hby d1_85) rfl rfl) ?_
  show own_Ends p e below s _ _ _ T13 (mkF m 86 #[.val (.ref o0), .val (.int (3 : Int32))] [(.ref o0), (.int (1 : Int32)), (.ref b11), (.ref b11), (.ref b10), (.ref b10)])
  refine own_step (fun _ => XS.iconst X13.here hx rfl (hb hby d1_86)) ?_
  show own_Ends p e below s _ _ _ T13 (mkF m 87 #[.val (.ref o0), .val (.int (3 : Int32))] [(.int (1 : Int32)), (.ref o0), (.int (1 : Int32)), (.ref b11), (.ref b11), (.ref b10), (.ref b10)])
  obtain ⟨cl14, Ar14, q14, S14, N14_, H14, G14⟩ := id (((Va.ext E10).ext E11).other W13 (Nat.ne_of_lt (Nat.lt_of_lt_of_le Va.lt sz_b11)))
  have hin14 : ¬ ((1 : Int32) < 0 ∨ cl14.slots.size ≤ ((1 : Int32)).toNatClampNeg) := inb_of S14 ⟨by decide, by decide⟩
  have hat14 : cl14.slots[((1 : Int32)).toNatClampNeg]? = some (.int (li.getD (1 : Int32).toNatClampNeg 0)) := H14.at hin14 (own_getD li _)
  refine own_step (fun _ => X13.caload hx (j := (1 : Int32)) (v := (.int (li.getD (1 : Int32).toNatClampNeg 0))) (by rw [e13]; exact Ar14.1) (State.isArrayOf_alike hZ.alike Ar14.2.1) Ar14.2.2 hin14 hat14 (g := (mkF m 87 #[.val (.ref o0), .val (.int (3 : Int32))] [(.int (1 : Int32)), (.ref o0), (.int (1 : Int32)), (.ref b11), (.ref b11), (.ref b10), (.ref b10)])) rfl rfl (hb hby d1_87) _) ?_
  show own_Ends p e below s _ _ _ T13 (mkF m 88 #[.val (.ref o0), .val (.int (3 : Int32))] [(.int (li.getD (1 : Int32).toNatClampNeg 0)), (.int (1 : Int32)), (.ref b11), (.ref b11), (.ref b10), (.ref b10)])
  obtain ⟨cl15, Ar15, q15, S15, N15_, H15, G15⟩ := id V13
  have hin15 : ¬ ((1 : Int32) < 0 ∨ cl15.slots.size ≤ ((1 : Int32)).toNatClampNeg) := inb_of S15 ⟨by decide, by decide⟩
  obtain ⟨T15, h15, X15, e15, W15, st15⟩ := stC X13 hx hZ e13 Ar15 (j := (1 : Int32)) hin15 (g := (mkF m 88 #[.val (.ref o0), .val (.int (3 : Int32))] [(.int (li.getD (1 : Int32).toNatClampNeg 0)), (.int (1 : Int32)), (.ref b11), (.ref b11), (.ref b10), (.ref b10)])) rfl rfl (hb hby d1_88)
  have V15 : Arv Z h15 b11 k11 .char (3 : Int32) [(.int (nar .char (li.getD (0 : Int32).toNatClampNeg 0))), (.int (nar .char (li.getD (1 : Int32).toNatClampNeg 0))), (.int (0 : Int32))] (.int (0 : Int32)) := Arv.set Ar15 q15 S15 N15_ H15 G15 (fits_nar_char _) W15 1 rfl (Nat.le_of_ble_eq_true rfl)
  have K15 : Keep h0 h15 [] := K13.wr W15 (Or.inr sz_b11)
  have OLD15 := OLD13.wr W15 g_b11
  have Zs15 : n0 ≤ h15.size := (by rw [W15.size]; exact Zs13)
  have N15 := Fr.snoc X15 N13 g_b11
  refine own_step st15 ?_
  show own_Ends p e below s _ _ _ T15 (mkF m 89 #[.val (.ref o0), .val (.int (3 : Int32))] [(.ref b11), (.ref b10), (.ref b10)])
  refine own_step (fun _ => XS.dup X15.here hx rfl (hb hby d1_89) rfl rfl) ?_
  show own_Ends p e below s _ _ _ T15 (mkF m 90 #[.val (.ref o0), .val (.int (3 : Int32))] [(.ref b11), (.ref b11), (.ref b10), (.ref b10)])
  refine own_step (fun _ => XS.iconst X15.here hx rfl (hb hby d1_90)) ?_
  show own_Ends p e below s _ _ _ T15 (mkF m 91 #[.val (.ref o0), .val (.int (3 : Int32))] [(.int (2 : Int32)), (.ref b11), (.ref b11), (.ref b10), (.ref b10)])
  refine own_step (fun _ => XS.aloadN X15.here hx rfl (hb hby d1_91) rfl rfl) ?_
  show own_Ends p e below s _ _ _ T15 (mkF m 92 #[.val (.ref o0), .val (.int (3 : Int32))] [(.ref o0), (.int (2 : Int32)), (.ref b11), (.ref b11), (.ref b10), (.ref b10)])
  refine own_step (fun _ => XS.iconst X15.here hx rfl (hb hby d1_92)) ?_
  show own_Ends p e below s _ _ _ T15 (mkF m 93 #[.val (.ref o0), .val (.int (3 : Int32))] [(.int (2 : Int32)), (.ref o0), (.int (2 : Int32)), (.ref b11), (.ref b11), (.ref b10), (.ref b10)])
  obtain ⟨cl16, Ar16, q16, S16, N16_, H16, G16⟩ := id ((((Va.ext E10).ext E11).other W13 (Nat.ne_of_lt (Nat.lt_of_lt_of_le Va.lt sz_b11))).other W15 (Nat.ne_of_lt (Nat.lt_of_lt_of_le Va.lt sz_b11)))
  have hin16 : ¬ ((2 : Int32) < 0 ∨ cl16.slots.size ≤ ((2 : Int32)).toNatClampNeg) := inb_of S16 ⟨by decide, by decide⟩
  have hat16 : cl16.slots[((2 : Int32)).toNatClampNeg]? = some (.int (li.getD (2 : Int32).toNatClampNeg 0)) := H16.at hin16 (own_getD li _)
  refine own_step (fun _ => X15.caload hx (j := (2 : Int32)) (v := (.int (li.getD (2 : Int32).toNatClampNeg 0))) (by rw [e15]; exact Ar16.1) (State.isArrayOf_alike hZ.alike Ar16.2.1) Ar16.2.2 hin16 hat16 (g := (mkF m 93 #[.val (.ref o0), .val (.int (3 : Int32))] [(.int (2 : Int32)), (.ref o0), (.int (2 : Int32)), (.ref b11), (.ref b11), (.ref b10), (.ref b10)])) rfl rfl (hb hby d1_93) _) ?_
  show own_Ends p e below s _ _ _ T15 (mkF m 94 #[.val (.ref o0), .val (.int (3 : Int32))] [(.int (li.getD (2 : Int32).toNatClampNeg 0)), (.int (2 : Int32)), (.ref b11), (.ref b11), (.ref b10), (.ref b10)])
  obtain ⟨cl17, Ar17, q17, S17, N17_, H17, G17⟩ := id V15
  have hin17 : ¬ ((2 : Int32) < 0 ∨ cl17.slots.size ≤ ((2 : Int32)).toNatClampNeg) := inb_of S17 ⟨by decide, by decide⟩
  obtain ⟨T17, h17, X17, e17, W17, st17⟩ := stC X15 hx hZ e15 Ar17 (j := (2 : Int32)) hin17 (g := (mkF m 94 #[.val (.ref o0), .val (.int (3 : Int32))] [(.int (li.getD (2 : Int32).toNatClampNeg 0)), (.int (2 : Int32)), (.ref b11), (.ref b11), (.ref b10), (.ref b10)])) rfl rfl (hb hby d1_94)
  have V17 : Arv Z h17 b11 k11 .char (3 : Int32) [(.int (nar .char (li.getD (0 : Int32).toNatClampNeg 0))), (.int (nar .char (li.getD (1 : Int32).toNatClampNeg 0))), (.int (nar .char (li.getD (2 : Int32).toNatClampNeg 0)))] (.int (0 : Int32)) := Arv.set Ar17 q17 S17 N17_ H17 G17 (fits_nar_char _) W17 2 rfl (Nat.le_of_ble_eq_true rfl)
  have K17 : Keep h0 h17 [] := K15.wr W17 (Or.inr sz_b11)
  have OLD17 := OLD15.wr W17 g_b11
  have Zs17 : n0 ≤ h17.size := (by rw [W17.size]; exact Zs15)
  have N17 := Fr.snoc X17 N15 g_b11
  refine own_step st17 ?_
  show own_Ends p e below s _ _ _ T17 (mkF m 95 #[.val (.ref o0), .val (.int (3 : Int32))] [(.ref b11), (.ref b10), (.ref b10)])
  have hp18 : ∀ c ∈ ([(nar .char (li.getD (0 : Int32).toNatClampNeg 0)), (nar .char (li.getD (1 : Int32).toNatClampNeg 0)), (nar .char (li.getD (2 : Int32).toNatClampNeg 0))] : List Int32), own_R c := (own_lc (own_rn hr _) (own_lc (own_rn hr _) (own_lc (own_rn hr _) own_ln)))
  obtain ⟨_, _, ⟨T18, L18, k18, n18⟩, -, X18, ⟨Lc18, hQ18, l18, y18, z18⟩, st18⟩ := X17.specialBack hx (y := (⟨"java/lang/String", "<init>", "([C)V"⟩ : MethodName)) rfl hown (mvT hZ (hw _ (List.mem_of_getElem? (i := 8) rfl))) (mvT hZ (hw _ (List.mem_of_getElem? (i := 9) rfl))) (mvT hZ (hw _ (List.mem_of_getElem? (i := 10) rfl))) (by decide) (StrChars.Road.backV (W := 1) hZ (own_ws hw) (kI := 4) (hw _ (List.mem_of_getElem? (i := 6) rfl)) (cs := ([(nar .char (li.getD (0 : Int32).toNatClampNeg 0)), (nar .char (li.getD (1 : Int32).toNatClampNeg 0)), (nar .char (li.getD (2 : Int32).toNatClampNeg 0))] : List Int32)) (bs := ([(nar .char (li.getD (0 : Int32).toNatClampNeg 0)), (nar .char (li.getD (1 : Int32).toNatClampNeg 0)), (nar .char (li.getD (2 : Int32).toNatClampNeg 0))] : List Int32).map StrChars.lo8) (n := 3) g_b10 Zs17 ((((A10.ext E11).wr W13).wr W15).wr W17) ((((F10_value.ext E11).other W13 (Or.inl ne_b10_b11)).other W15 (Or.inl ne_b10_b11)).other W17 (Or.inl ne_b10_b11)) ((((F10_coder.ext E11).other W13 (Or.inl ne_b10_b11)).other W15 (Or.inl ne_b10_b11)).other W17 (Or.inl ne_b10_b11)) V17 (O2.ext OLD17.2) P5 rfl rfl (by decide) (by decide) hp18 rfl (by decide) (by decide)) (g := (mkF m 95 #[.val (.ref o0), .val (.int (3 : Int32))] [(.ref b11), (.ref b10), (.ref b10)])) rfl (by rw [hml]; rfl) (Steps.refl _) (a := b10) (argsL := [(.ref b11)]) (rest := [(.ref b10)]) (lenOf pd_1 rfl) rfl (by show 2 * 0 + _ ≤ _; exact Nat.le_of_eq rfl) (hb hby d1_95) (fun _ _ => ⟨rfl, e17, (by decide : 2 + 1 ≤ _), (by decide : 7 + 3 ≤ _)⟩)
  dsimp only [Pt.U, Pt.locs, Pt.cells, Pt.slots] at X18 l18 y18 z18 st18 hQ18
  subst l18 y18 z18
  obtain ⟨rfl, N18q, K18, gE18, gC18, t18, kb18, -, -, -, gV18, gA18⟩ := hQ18
  have N18 := Fr.app N17 N18q
  have KK18 : Keep h0 T18.heap [] := K17.trans K18 (allS (Or.inr sz_b10) all0)
  have OLDk18 := OLD17.keep K18 (allS g_b10 all0)
  have Zs18 : n0 ≤ T18.heap.size := Nat.le_trans Zs17 K18.1
  refine own_step (fun _ => st18.trans) ?_
  show own_Ends p e below s _ _ _ T18 (mkF m 98 #[.val (.ref o0), .val (.int (3 : Int32))] [(.ref b10)])
  exact own_retR X18 hx hret hlk (hb hby d1_98) (by decide) (by decide) rfl rfl ⟨b10, t18, kb18, rfl, N18, KK18, gE18, gC18, gV18, gA18⟩
theorem ef_rm1_3 (m : MethodId) (o0 : Addr) : entryFrame m #[(.ref o0), (.int (3 : Int32))] 2 = mkF m 0 #[.val (.ref o0), .val (.int (3 : Int32))] [] := by first | (simp [entryFrame, mkF, argsToLocals, Value.category]; done) | rfl
set_option maxRecDepth 65536 in
set_option maxHeartbeats 40000000 in
theorem rm1_3 (l : Launch) (Z : State) (a0 : Array Value) (hw : ∀ d ∈ tables_1, d.before a0 Z = true) (ws : List Jvm.Cond) (o0 : Addr) (ka : ClassId) (li : List Int32) (G1 : Int32) (h0 : Heap) (n0 : Nat) (Z0 : n0 ≤ h0.size) (OLD : Old Z n0 h0) (Va : Arv Z h0 o0 ka .char (6 : Int32) (li.map Value.int) (.int (0 : Int32))) (O2 : Sta Z Z.heap "java/lang/String" "COMPACT_STRINGS" "Z" (.int G1)) (P5 : ¬ (G1 = (0 : Int32))) (hr : ∀ c ∈ li, own_R c) :
    MetFree l (⟨"lomwright/lom/PartOfPinLaw", "text", "([CI)Ljava/lang/String;"⟩ : MethodName) (head1 (Jvm.Cond.code (⟨"lomwright/lom/PartOfPinLaw", "text", "([CI)Ljava/lang/String;"⟩ : MethodName) method_3_code 2 (some (.object "java/lang/String")) :: ws) ({ frames := 4, cells := 3, slots := 10, locals := 66 } : Room)) (fun a U => a = #[(.ref o0), (.int (3 : Int32))] ∧ Z.Warmed39 U.vm ∧ U.heap = h0) (fun _ _ _ _ _ => True) (fun _ U o U' => ∃ v L, o = .returned v ∧ (own_QT Z n0 h0 (3 : Int32) [(nar .char (li.getD (0 : Int32).toNatClampNeg 0)), (nar .char (li.getD (1 : Int32).toNatClampNeg 0)), (nar .char (li.getD (2 : Int32).toNatClampNeg 0))]) v U'.heap L ∧ FrameEnd U o U' L ({ frames := 4, cells := 3, slots := 10, locals := 66 } : Room).cells ({ frames := 4, cells := 3, slots := 10, locals := 66 } : Room).slots) := by
  refine MetFree.of_bodySF (plainFor_of_name pn_1) hisR ?_
  intro p e s m args below meth c s₁ Bd hml0 hP hK
  obtain ⟨rfl, hZ, hh⟩ := hP
  have X0 : Stand p l e ({ frames := 4, cells := 3, slots := 10, locals := 66 } : Room) s m #[(.ref o0), (.int (3 : Int32))] below meth c s₁ [] 0 0 := Stand.of_body Bd
  have e0 : s₁.heap = h0 := by rw [← hh, Bd.state]; rfl
  have C : own_C "lomwright/lom/PartOfPinLaw" method_3_code 2 (some (.object "java/lang/String")) "text" p s m meth c Z a0 := ⟨Bd.exec, hZ, hw, Bd.bytes, hml0, findClass_of_methodNamed Bd.named, Bd.returns, Bd.notSynchronized, (name_of_methodNamed Bd.named Bd.method).1⟩
  have r := b1_3n_0 C Z0 X0 e0 (Fr.nil n0) o0 ka li G1 OLD Va O2 P5 hr
  rw [ef_rm1_3 m o0]
  exact r
theorem d1_99 : decode method_3_code 99 = .ok (.iload_n 1, 1) := by decide +kernel
theorem d1_100 : decode method_3_code 100 = .ok (.iconst 4, 1) := by decide +kernel
theorem d1_101 : decode method_3_code 101 = .ok (.if_icmp .ne 38, 3) := by decide +kernel
theorem d1_104 : decode method_3_code 104 = .ok (.new 30, 3) := by decide +kernel
theorem d1_107 : decode method_3_code 107 = .ok (.dup, 1) := by decide +kernel
theorem d1_108 : decode method_3_code 108 = .ok (.iconst 4, 1) := by decide +kernel
theorem d1_109 : decode method_3_code 109 = .ok (.newarray .char, 2) := by decide +kernel
theorem d1_111 : decode method_3_code 111 = .ok (.dup, 1) := by decide +kernel
theorem d1_112 : decode method_3_code 112 = .ok (.iconst 0, 1) := by decide +kernel
theorem d1_113 : decode method_3_code 113 = .ok (.aload_n 0, 1) := by decide +kernel
theorem d1_114 : decode method_3_code 114 = .ok (.iconst 0, 1) := by decide +kernel
theorem d1_115 : decode method_3_code 115 = .ok (.caload, 1) := by decide +kernel
theorem d1_116 : decode method_3_code 116 = .ok (.castore, 1) := by decide +kernel
theorem d1_117 : decode method_3_code 117 = .ok (.dup, 1) := by decide +kernel
theorem d1_118 : decode method_3_code 118 = .ok (.iconst 1, 1) := by decide +kernel
theorem d1_119 : decode method_3_code 119 = .ok (.aload_n 0, 1) := by decide +kernel
theorem d1_120 : decode method_3_code 120 = .ok (.iconst 1, 1) := by decide +kernel
theorem d1_121 : decode method_3_code 121 = .ok (.caload, 1) := by decide +kernel
theorem d1_122 : decode method_3_code 122 = .ok (.castore, 1) := by decide +kernel
theorem d1_123 : decode method_3_code 123 = .ok (.dup, 1) := by decide +kernel
theorem d1_124 : decode method_3_code 124 = .ok (.iconst 2, 1) := by decide +kernel
theorem d1_125 : decode method_3_code 125 = .ok (.aload_n 0, 1) := by decide +kernel
theorem d1_126 : decode method_3_code 126 = .ok (.iconst 2, 1) := by decide +kernel
theorem d1_127 : decode method_3_code 127 = .ok (.caload, 1) := by decide +kernel
theorem d1_128 : decode method_3_code 128 = .ok (.castore, 1) := by decide +kernel
theorem d1_129 : decode method_3_code 129 = .ok (.dup, 1) := by decide +kernel
theorem d1_130 : decode method_3_code 130 = .ok (.iconst 3, 1) := by decide +kernel
theorem d1_131 : decode method_3_code 131 = .ok (.aload_n 0, 1) := by decide +kernel
theorem d1_132 : decode method_3_code 132 = .ok (.iconst 3, 1) := by decide +kernel
theorem d1_133 : decode method_3_code 133 = .ok (.caload, 1) := by decide +kernel
theorem d1_134 : decode method_3_code 134 = .ok (.castore, 1) := by decide +kernel
theorem d1_135 : decode method_3_code 135 = .ok (.invokespecial 32, 3) := by decide +kernel
theorem d1_138 : decode method_3_code 138 = .ok (.areturn, 1) := by decide +kernel
set_option maxRecDepth 65536 in
set_option maxHeartbeats 40000000 in
theorem b1_4n_0 {p : Program} {l : Launch} {e : Env} {s : State} {m : MethodId} {args : Array Value} {below : List Frame} {meth : Method} {c : Code} {Z : State} {a0 : Array Value} {h0 : Heap} {n0 : Nat} (C : own_C "lomwright/lom/PartOfPinLaw" method_3_code 2 (some (.object "java/lang/String")) "text" p s m meth c Z a0) (Z0 : n0 ≤ h0.size) {T0 : State} {locs : List Loc} (X0 : Stand p l e ({ frames := 4, cells := 3, slots := 12, locals := 66 } : Room) s m args below meth c T0 locs 0 0) (e0 : T0.heap = h0) (N0 : Fr n0 locs) (o0 : Addr) (ka : ClassId) (li : List Int32) (G1 : Int32) (OLD : Old Z n0 h0) (Va : Arv Z h0 o0 ka .char (6 : Int32) (li.map Value.int) (.int (0 : Int32))) (O2 : Sta Z Z.heap "java/lang/String" "COMPACT_STRINGS" "Z" (.int G1)) (P5 : ¬ (G1 = (0 : Int32))) (hr : ∀ c ∈ li, own_R c) :
    own_Ends p e below s ({ frames := 4, cells := 3, slots := 12, locals := 66 } : Room).cells ({ frames := 4, cells := 3, slots := 12, locals := 66 } : Room).slots (own_QT Z n0 h0 (4 : Int32) [(nar .char (li.getD (0 : Int32).toNatClampNeg 0)), (nar .char (li.getD (1 : Int32).toNatClampNeg 0)), (nar .char (li.getD (2 : Int32).toNatClampNeg 0)), (nar .char (li.getD (3 : Int32).toNatClampNeg 0))]) T0 (mkF m 0 #[.val (.ref o0), .val (.int (4 : Int32))] []) := by
  obtain ⟨hx, hZ, hw, hby, hml, hown, hret, hlk, hnm⟩ := C
  have C : own_C "lomwright/lom/PartOfPinLaw" method_3_code 2 (some (.object "java/lang/String")) "text" p s m meth c Z a0 := ⟨hx, hZ, hw, hby, hml, hown, hret, hlk, hnm⟩
  refine own_step (fun _ => XS.iloadN X0.here hx rfl (hb hby d1_0) rfl) ?_
  show own_Ends p e below s _ _ _ T0 (mkF m 1 #[.val (.ref o0), .val (.int (4 : Int32))] [(.int (4 : Int32))])
  refine own_step (fun _ => XS.ifYes X0.here hx rfl (pc0 := 1) (pc' := 15) rfl (hb hby d1_1) rfl ((if0 _ _).trans (feq (show ¬ ((4 : Int32) = (0 : Int32)) from (by decide))).2) (by decide) (by decide)) ?_
  show own_Ends p e below s _ _ _ T0 (mkF m 15 #[.val (.ref o0), .val (.int (4 : Int32))] [])
  refine own_step (fun _ => XS.iloadN X0.here hx rfl (hb hby d1_15) rfl) ?_
  show own_Ends p e below s _ _ _ T0 (mkF m 16 #[.val (.ref o0), .val (.int (4 : Int32))] [(.int (4 : Int32))])
  refine own_step (fun _ => XS.iconst X0.here hx rfl (hb hby d1_16)) ?_
  show own_Ends p e below s _ _ _ T0 (mkF m 17 #[.val (.ref o0), .val (.int (4 : Int32))] [(.int (1 : Int32)), (.int (4 : Int32))])
  refine own_step (fun _ => XS.icmpYes X0.here hx rfl (pc0 := 17) (pc' := 37) rfl (hb hby d1_17) rfl (feq (show ¬ ((4 : Int32) = (1 : Int32)) from (by decide))).2 (by decide) (by decide)) ?_
  show own_Ends p e below s _ _ _ T0 (mkF m 37 #[.val (.ref o0), .val (.int (4 : Int32))] [])
  refine own_step (fun _ => XS.iloadN X0.here hx rfl (hb hby d1_37) rfl) ?_
  show own_Ends p e below s _ _ _ T0 (mkF m 38 #[.val (.ref o0), .val (.int (4 : Int32))] [(.int (4 : Int32))])
  refine own_step (fun _ => XS.iconst X0.here hx rfl (hb hby d1_38)) ?_
  show own_Ends p e below s _ _ _ T0 (mkF m 39 #[.val (.ref o0), .val (.int (4 : Int32))] [(.int (2 : Int32)), (.int (4 : Int32))])
  refine own_step (fun _ => XS.icmpYes X0.here hx rfl (pc0 := 39) (pc' := 65) rfl (hb hby d1_39) rfl (feq (show ¬ ((4 : Int32) = (2 : Int32)) from (by decide))).2 (by decide) (by decide)) ?_
  show own_Ends p e below s _ _ _ T0 (mkF m 65 #[.val (.ref o0), .val (.int (4 : Int32))] [])
  refine own_step (fun _ => XS.iloadN X0.here hx rfl (hb hby d1_65) rfl) ?_
  show own_Ends p e below s _ _ _ T0 (mkF m 66 #[.val (.ref o0), .val (.int (4 : Int32))] [(.int (4 : Int32))])
  refine own_step (fun _ => XS.iconst X0.here hx rfl (hb hby d1_66)) ?_
  show own_Ends p e below s _ _ _ T0 (mkF m 67 #[.val (.ref o0), .val (.int (4 : Int32))] [(.int (3 : Int32)), (.int (4 : Int32))])
  refine own_step (fun _ => XS.icmpYes X0.here hx rfl (pc0 := 67) (pc' := 99) rfl (hb hby d1_67) rfl (feq (show ¬ ((4 : Int32) = (3 : Int32)) from (by decide))).2 (by decide) (by decide)) ?_
  show own_Ends p e below s _ _ _ T0 (mkF m 99 #[.val (.ref o0), .val (.int (4 : Int32))] [])
  refine own_step (fun _ => XS.iloadN X0.here hx rfl (hb hby d1_99) rfl) ?_
  show own_Ends p e below s _ _ _ T0 (mkF m 100 #[.val (.ref o0), .val (.int (4 : Int32))] [(.int (4 : Int32))])
  refine own_step (fun _ => XS.iconst X0.here hx rfl (hb hby d1_100)) ?_
  show own_Ends p e below s _ _ _ T0 (mkF m 101 #[.val (.ref o0), .val (.int (4 : Int32))] [(.int (4 : Int32)), (.int (4 : Int32))])
  refine own_step (fun _ => XS.icmpNo X0.here hx rfl (hb hby d1_101) rfl (teq (show (4 : Int32) = (4 : Int32) from (by decide))).2) ?_
  show own_Ends p e below s _ _ _ T0 (mkF m 104 #[.val (.ref o0), .val (.int (4 : Int32))] [])
  obtain ⟨T12, h12, X12, e12, E12, A12, D12, U12, st12⟩ := newO X0 hx hZ hown (hw _ (List.mem_of_getElem? (i := 5) rfl)) (hw _ (List.mem_of_getElem? (i := 6) rfl)) (hw _ (List.mem_of_getElem? (i := 7) rfl)) e0 (g := (mkF m 104 #[.val (.ref o0), .val (.int (4 : Int32))] [])) rfl (hb hby d1_104) (by decide) (by decide)
  obtain ⟨b12, g12⟩ : ∃ z, z = h0.size := ⟨_, rfl⟩
  rw [← g12] at A12 D12 U12 st12
  have g_b12 : n0 ≤ b12 := Nat.le_trans Z0 (Nat.le_of_eq g12.symm)
  have OLD12 := OLD.ext E12
  have sz_b12 : h0.size ≤ b12 := Nat.le_trans (Keep.refl h0 []).1 (Nat.le_of_eq g12.symm)
  have K12 : Keep h0 h12 [] := (Keep.refl h0 []).ext E12
  have Zs12 : n0 ≤ h12.size := Nat.le_trans Z0 E12.1
  have F12_coder : Fld Z h12 b12 "java/lang/String" "coder" "B" (.int (0 : Int32)) := D12 (Or.inr (hw _ (List.mem_of_getElem? (i := 31) rfl))) (ty := .byte) (by decide)
  have F12_value : Fld Z h12 b12 "java/lang/String" "value" "[B" .null := D12 (Or.inr (hw _ (List.mem_of_getElem? (i := 33) rfl))) (ty := (.array .byte)) (by decide)
  refine own_step st12 ?_
  show own_Ends p e below s _ _ _ T12 (mkF m 107 #[.val (.ref o0), .val (.int (4 : Int32))] [(.ref b12)])
  refine own_step (fun _ => XS.dup X12.here hx rfl (hb hby d1_107) rfl rfl) ?_
  show own_Ends p e below s _ _ _ T12 (mkF m 108 #[.val (.ref o0), .val (.int (4 : Int32))] [(.ref b12), (.ref b12)])
  refine own_step (fun _ => XS.iconst X12.here hx rfl (hb hby d1_108)) ?_
  show own_Ends p e below s _ _ _ T12 (mkF m 109 #[.val (.ref o0), .val (.int (4 : Int32))] [(.int (4 : Int32)), (.ref b12), (.ref b12)])
  obtain ⟨T13, h13, k13, X13, e13, E13, A13, st13⟩ := newP X12 hx hZ (hw _ (List.mem_of_getElem? (i := 0) rfl)) e12 (g := (mkF m 109 #[.val (.ref o0), .val (.int (4 : Int32))] [(.int (4 : Int32)), (.ref b12), (.ref b12)])) rfl (hb hby d1_109) rfl (by decide) (cap := 4) (by decide) (by decide) (by decide) (by decide)
  obtain ⟨b13, g13⟩ : ∃ z, z = h12.size := ⟨_, rfl⟩
  rw [← g13] at A13 st13
  have V13 : Arv Z h13 b13 k13 .char (4 : Int32) [(.int (0 : Int32)), (.int (0 : Int32)), (.int (0 : Int32)), (.int (0 : Int32))] (.int (0 : Int32)) := (Arv.new A13 (by decide)).pad (pad_rep [] (.int (0 : Int32)) 4)
  have ne_b12_b13 : b12 ≠ b13 := Nat.ne_of_lt (Nat.lt_of_lt_of_le A12.lt (Nat.le_of_eq g13.symm))
  have g_b13 : n0 ≤ b13 := Nat.le_trans Zs12 (Nat.le_of_eq g13.symm)
  have OLD13 := OLD12.ext E13
  have sz_b13 : h0.size ≤ b13 := Nat.le_trans K12.1 (Nat.le_of_eq g13.symm)
  have K13 : Keep h0 h13 [] := K12.ext E13
  have Zs13 : n0 ≤ h13.size := Nat.le_trans Zs12 E13.1
  refine own_step st13 ?_
  show own_Ends p e below s _ _ _ T13 (mkF m 111 #[.val (.ref o0), .val (.int (4 : Int32))] [(.ref b13), (.ref b12), (.ref b12)])
  refine own_step (fun _ => XS.dup X13.here hx rfl (hb hby d1_111) rfl rfl) ?_
  show own_Ends p e below s _ _ _ T13 (mkF m 112 #[.val (.ref o0), .val (.int (4 : Int32))] [(.ref b13), (.ref b13), (.ref b12), (.ref b12)])
  refine own_step (fun _ => XS.iconst X13.here hx rfl (hb hby d1_112)) ?_
  show own_Ends p e below s _ _ _ T13 (mkF m 113 #[.val (.ref o0), .val (.int (4 : Int32))] [(.int (0 : Int32)), (.ref b13), (.ref b13), (.ref b12), (.ref b12)])
  refine own_step (fun _ => XS.aloadN X13.here hx rfl (hb hby d1_113) rfl rfl) ?_
  show own_Ends p e below s _ _ _ T13 (mkF m 114 #[.val (.ref o0), .val (.int (4 : Int32))] [(.ref o0), (.int (0 : Int32)), (.ref b13), (.ref b13), (.ref b12), (.ref b12)])
  refine own_step (fun _ => XS.iconst X13.here hx rfl (hb hby d1_114)) ?_
  show own_Ends p e below s _ _ _ T13 (mkF m 115 #[.val (.ref o0), .val (.int (4 : Int32))] [(.int (0 : Int32)), (.ref o0), (.int (0 : Int32)), (.ref b13), (.ref b13), (.ref b12), (.ref b12)])
  obtain ⟨cl14, Ar14, q14, S14, N14_, H14, G14⟩ := id ((Va.ext E12).ext E13)
  have hin14 : ¬ ((0 : Int32) < 0 ∨ cl14.slots.size ≤ ((0 : Int32)).toNatClampNeg) := inb_of S14 ⟨by decide, by decide⟩
  have hat14 : cl14.slots[((0 : Int32)).toNatClampNeg]? = some (.int (li.getD (0 : Int32).toNatClampNeg 0)) := H14.at hin14 (own_getD li _)
  refine own_step (fun _ => X13.caload hx (j := (0 : Int32)) (v := (.int (li.getD (0 : Int32).toNatClampNeg 0))) (by rw [e13]; exact Ar14.1) (State.isArrayOf_alike hZ.alike Ar14.2.1) Ar14.2.2 hin14 hat14 (g := (mkF m 115 #[.val (.ref o0), .val (.int (4 : Int32))] [(.int (0 : Int32)), (.ref o0), (.int (0 : Int32)), (.ref b13), (.ref b13), (.ref b12), (.ref b12)])) rfl rfl (hb hby d1_115) _) ?_
  show own_Ends p e below s _ _ _ T13 (mkF m 116 #[.val (.ref o0), .val (.int (4 : Int32))] [(.int (li.getD (0 : Int32).toNatClampNeg 0)), (.int (0 : Int32)), (.ref b13), (.ref b13), (.ref b12), (.ref b12)])
  obtain ⟨cl15, Ar15, q15, S15, N15_, H15, G15⟩ := id V13
  have hin15 : ¬ ((0 : Int32) < 0 ∨ cl15.slots.size ≤ ((0 : Int32)).toNatClampNeg) := inb_of S15 ⟨by decide, by decide⟩
  obtain ⟨T15, h15, X15, e15, W15, st15⟩ := stC X13 hx hZ e13 Ar15 (j := (0 : Int32)) hin15 (g := (mkF m 116 #[.val (.ref o0), .val (.int (4 : Int32))] [(.int (li.getD (0 : Int32).toNatClampNeg 0)), (.int (0 : Int32)), (.ref b13), (.ref b13), (.ref b12), (.ref b12)])) rfl rfl (hb hby d1_116)
  have V15 : Arv Z h15 b13 k13 .char (4 : Int32) [(.int (nar .char (li.getD (0 : Int32).toNatClampNeg 0))), (.int (0 : Int32)), (.int (0 : Int32)), (.int (0 : Int32))] (.int (0 : Int32)) := Arv.set Ar15 q15 S15 N15_ H15 G15 (fits_nar_char _) W15 0 rfl (Nat.le_of_ble_eq_true rfl)
  have K15 : Keep h0 h15 [] := K13.wr W15 (Or.inr sz_b13)
  have OLD15 := OLD13.wr W15 g_b13
  have Zs15 : n0 ≤ h15.size := (by rw [W15.size]; exact Zs13)
  have N15 := Fr.snoc X15 N0 g_b13
  refine own_step st15 ?_
  show own_Ends p e below s _ _ _ T15 (mkF m 117 #[.val (.ref o0), .val (.int (4 : Int32))] [(.ref b13), (.ref b12), (.ref b12)])
  refine own_step (fun _ => XS.dup X15.here hx rfl (hb hby d1_117) rfl rfl) ?_
  show own_Ends p e below s _ _ _ T15 (mkF m 118 #[.val (.ref o0), .val (.int (4 : Int32))] [(.ref b13), (.ref b13), (.ref b12), (.ref b12)])
  refine own_step (fun _ => XS.iconst X15.here hx rfl (hb hby d1_118)) ?_
  show own_Ends p e below s _ _ _ T15 (mkF m 119 #[.val (.ref o0), .val (.int (4 : Int32))] [(.int (1 : Int32)), (.ref b13), (.ref b13), (.ref b12), (.ref b12)])
  refine own_step (fun _ => XS.aloadN X15.here hx rfl (hb hby d1_119) rfl rfl) ?_
  show own_Ends p e below s _ _ _ T15 (mkF m 120 #[.val (.ref o0), .val (.int (4 : Int32))] [(.ref o0), (.int (1 : Int32)), (.ref b13), (.ref b13), (.ref b12), (.ref b12)])
  refine own_step (fun _ => XS.iconst X15.here hx rfl (hb hby d1_120)) ?_
  show own_Ends p e below s _ _ _ T15 (mkF m 121 #[.val (.ref o0), .val (.int (4 : Int32))] [(.int (1 : Int32)), (.ref o0), (.int (1 : Int32)), (.ref b13), (.ref b13), (.ref b12), (.ref b12)])
  obtain ⟨cl16, Ar16, q16, S16, N16_, H16, G16⟩ := id (((Va.ext E12).ext E13).other W15 (Nat.ne_of_lt (Nat.lt_of_lt_of_le Va.lt sz_b13)))
  have hin16 : ¬ ((1 : Int32) < 0 ∨ cl16.slots.size ≤ ((1 : Int32)).toNatClampNeg) := inb_of S16 ⟨by decide, by decide⟩
  have hat16 : cl16.slots[((1 : Int32)).toNatClampNeg]? = some (.int (li.getD (1 : Int32).toNatClampNeg 0)) := H16.at hin16 (own_getD li _)
  refine own_step (fun _ => X15.caload hx (j := (1 : Int32)) (v := (.int (li.getD (1 : Int32).toNatClampNeg 0))) (by rw [e15]; exact Ar16.1) (State.isArrayOf_alike hZ.alike Ar16.2.1) Ar16.2.2 hin16 hat16 (g := (mkF m 121 #[.val (.ref o0), .val (.int (4 : Int32))] [(.int (1 : Int32)), (.ref o0), (.int (1 : Int32)), (.ref b13), (.ref b13), (.ref b12), (.ref b12)])) rfl rfl (hb hby d1_121) _) ?_
  show own_Ends p e below s _ _ _ T15 (mkF m 122 #[.val (.ref o0), .val (.int (4 : Int32))] [(.int (li.getD (1 : Int32).toNatClampNeg 0)), (.int (1 : Int32)), (.ref b13), (.ref b13), (.ref b12), (.ref b12)])
  obtain ⟨cl17, Ar17, q17, S17, N17_, H17, G17⟩ := id V15
  have hin17 : ¬ ((1 : Int32) < 0 ∨ cl17.slots.size ≤ ((1 : Int32)).toNatClampNeg) := inb_of S17 ⟨by decide, by decide⟩
  obtain ⟨T17, h17, X17, e17, W17, st17⟩ := stC X15 hx hZ e15 Ar17 (j := (1 : Int32)) hin17 (g := (mkF m 122 #[.val (.ref o0), .val (.int (4 : Int32))] [(.int (li.getD (1 : Int32).toNatClampNeg 0)), (.int (1 : Int32)), (.ref b13), (.ref b13), (.ref b12), (.ref b12)])) rfl rfl (hb hby d1_122)
  have V17 : Arv Z h17 b13 k13 .char (4 : Int32) [(.int (nar .char (li.getD (0 : Int32).toNatClampNeg 0))), (.int (nar .char (li.getD (1 : Int32).toNatClampNeg 0))), (.int (0 : Int32)), (.int (0 : Int32))] (.int (0 : Int32)) := Arv.set Ar17 q17 S17 N17_ H17 G17 (fits_nar_char _) W17 1 rfl (Nat.le_of_ble_eq_true rfl)
  have K17 : Keep h0 h17 [] := K15.wr W17 (Or.inr sz_b13)
  have OLD17 := OLD15.wr W17 g_b13
  have Zs17 : n0 ≤ h17.size := (by rw [W17.size]; exact Zs15)
  have N17 := Fr.snoc X17 N15 g_b13
  refine own_step st17 ?_
  show own_Ends p e below s _ _ _ T17 (mkF m 123 #[.val (.ref o0), .val (.int (4 : Int32))] [(.ref b13), (.ref b12), (.ref b12)])
  refine own_step (fun _ => XS.dup X17.here hx rfl (hb hby d1_123) rfl rfl) ?_
  show own_Ends p e below s _ _ _ T17 (mkF m 124 #[.val (.ref o0), .val (.int (4 : Int32))] [(.ref b13), (.ref b13), (.ref b12), (.ref b12)])
  refine own_step (fun _ => XS.iconst X17.here hx rfl (hb hby d1_124)) ?_
  show own_Ends p e below s _ _ _ T17 (mkF m 125 #[.val (.ref o0), .val (.int (4 : Int32))] [(.int (2 : Int32)), (.ref b13), (.ref b13), (.ref b12), (.ref b12)])
  refine own_step (fun _ => XS.aloadN X17.here hx rfl (hb hby d1_125) rfl rfl) ?_
  show own_Ends p e below s _ _ _ T17 (mkF m 126 #[.val (.ref o0), .val (.int (4 : Int32))] [(.ref o0), (.int (2 : Int32)), (.ref b13), (.ref b13), (.ref b12), (.ref b12)])
  refine own_step (fun _ => XS.iconst X17.here hx rfl (hb hby d1_126)) ?_
  show own_Ends p e below s _ _ _ T17 (mkF m 127 #[.val (.ref o0), .val (.int (4 : Int32))] [(.int (2 : Int32)), (.ref o0), (.int (2 : Int32)), (.ref b13), (.ref b13), (.ref b12), (.ref b12)])
  obtain ⟨cl18, Ar18, q18, S18, N18_, H18, G18⟩ := id ((((Va.ext E12).ext E13).other W15 (Nat.ne_of_lt (Nat.lt_of_lt_of_le Va.lt sz_b13))).other W17 (Nat.ne_of_lt (Nat.lt_of_lt_of_le Va.lt sz_b13)))
  have hin18 : ¬ ((2 : Int32) < 0 ∨ cl18.slots.size ≤ ((2 : Int32)).toNatClampNeg) := inb_of S18 ⟨by decide, by decide⟩
  have hat18 : cl18.slots[((2 : Int32)).toNatClampNeg]? = some (.int (li.getD (2 : Int32).toNatClampNeg 0)) := H18.at hin18 (own_getD li _)
  refine own_step (fun _ => X17.caload hx (j := (2 : Int32)) (v := (.int (li.getD (2 : Int32).toNatClampNeg 0))) (by rw [e17]; exact Ar18.1) (State.isArrayOf_alike hZ.alike Ar18.2.1) Ar18.2.2 hin18 hat18 (g := (mkF m 127 #[.val (.ref o0), .val (.int (4 : Int32))] [(.int (2 : Int32)), (.ref o0), (.int (2 : Int32)), (.ref b13), (.ref b13), (.ref b12), (.ref b12)])) rfl rfl (hb hby d1_127) _) ?_
  show own_Ends p e below s _ _ _ T17 (mkF m 128 #[.val (.ref o0), .val (.int (4 : Int32))] [(.int (li.getD (2 : Int32).toNatClampNeg 0)), (.int (2 : Int32)), (.ref b13), (.ref b13), (.ref b12), (.ref b12)])
  obtain ⟨cl19, Ar19, q19, S19, N19_, H19, G19⟩ := id V17
  have hin19 : ¬ ((2 : Int32) < 0 ∨ cl19.slots.size ≤ ((2 : Int32)).toNatClampNeg) := inb_of S19 ⟨by decide, by decide⟩
  obtain ⟨T19, h19, X19, e19, W19, st19⟩ := stC X17 hx hZ e17 Ar19 (j := (2 : Int32)) hin19 (g := (mkF m 128 #[.val (.ref o0), .val (.int (4 : Int32))] [(.int (li.getD (2 : Int32).toNatClampNeg 0)), (.int (2 : Int32)), (.ref b13), (.ref b13), (.ref b12), (.ref b12)])) rfl rfl (hb hby d1_128)
  have V19 : Arv Z h19 b13 k13 .char (4 : Int32) [(.int (nar .char (li.getD (0 : Int32).toNatClampNeg 0))), (.int (nar .char (li.getD (1 : Int32).toNatClampNeg 0))), (.int (nar .char (li.getD (2 : Int32).toNatClampNeg 0))), (.int (0 : Int32))] (.int (0 : Int32)) := Arv.set Ar19 q19 S19 N19_ H19 G19 (fits_nar_char _) W19 2 rfl (Nat.le_of_ble_eq_true rfl)
  have K19 : Keep h0 h19 [] := K17.wr W19 (Or.inr sz_b13)
  have OLD19 := OLD17.wr W19 g_b13
  have Zs19 : n0 ≤ h19.size := (by rw [W19.size]; exact Zs17)
  have N19 := Fr.snoc X19 N17 g_b13
  refine own_step st19 ?_
  show own_Ends p e below s _ _ _ T19 (mkF m 129 #[.val (.ref o0), .val (.int (4 : Int32))] [(.ref b13), (.ref b12), (.ref b12)])
  refine own_step (fun _ => XS.dup X19.here hx rfl (hb hby d1_129) rfl rfl) ?_
  show own_Ends p e below s _ _ _ T19 (mkF m 130 #[.val (.ref o0), .val (.int (4 : Int32))] [(.ref b13), (.ref b13), (.ref b12), (.ref b12)])
  refine own_step (fun _ => XS.iconst X19.here hx rfl (hb hby d1_130)) ?_
  show own_Ends p e below s _ _ _ T19 (mkF m 131 #[.val (.ref o0), .val (.int (4 : Int32))] [(.int (3 : Int32)), (.ref b13), (.ref b13), (.ref b12), (.ref b12)])
  refine own_step (fun _ => XS.aloadN X19.here hx rfl (hb hby d1_131) rfl rfl) ?_
  show own_Ends p e below s _ _ _ T19 (mkF m 132 #[.val (.ref o0), .val (.int (4 : Int32))] [(.ref o0), (.int (3 : Int32)), (.ref b13), (.ref b13), (.ref b12), (.ref b12)])
  refine own_step (fun _ => XS.iconst X19.here hx rfl (hb hby d1_132)) ?_
  show own_Ends p e below s _ _ _ T19 (mkF m 133 #[.val (.ref o0), .val (.int (4 : Int32))] [(.int (3 : Int32)), (.ref o0), (.int (3 : Int32)), (.ref b13), (.ref b13), (.ref b12), (.ref b12)])
  obtain ⟨cl20, Ar20, q20, S20, N20_, H20, G20⟩ := id (((((Va.ext E12).ext E13).other W15 (Nat.ne_of_lt (Nat.lt_of_lt_of_le Va.lt sz_b13))).other W17 (Nat.ne_of_lt (Nat.lt_of_lt_of_le Va.lt sz_b13))).other W19 (Nat.ne_of_lt (Nat.lt_of_lt_of_le Va.lt sz_b13)))
  have hin20 : ¬ ((3 : Int32) < 0 ∨ cl20.slots.size ≤ ((3 : Int32)).toNatClampNeg) := inb_of S20 ⟨by decide, by decide⟩
  have hat20 : cl20.slots[((3 : Int32)).toNatClampNeg]? = some (.int (li.getD (3 : Int32).toNatClampNeg 0)) := H20.at hin20 (own_getD li _)
  refine own_step (fun _ => X19.caload hx (j := (3 : Int32)) (v := (.int (li.getD (3 : Int32).toNatClampNeg 0))) (by rw [e19]; exact Ar20.1) (State.isArrayOf_alike hZ.alike Ar20.2.1) Ar20.2.2 hin20 hat20 (g := (mkF m 133 #[.val (.ref o0), .val (.int (4 : Int32))] [(.int (3 : Int32)), (.ref o0), (.int (3 : Int32)), (.ref b13), (.ref b13), (.ref b12), (.ref b12)])) rfl rfl (hb hby d1_133) _) ?_
  show own_Ends p e below s _ _ _ T19 (mkF m 134 #[.val (.ref o0), .val (.int (4 : Int32))] [(.int (li.getD (3 : Int32).toNatClampNeg 0)), (.int (3 : Int32)), (.ref b13), (.ref b13), (.ref b12), (.ref b12)])
  obtain ⟨cl21, Ar21, q21, S21, N21_, H21, G21⟩ := id V19
  have hin21 : ¬ ((3 : Int32) < 0 ∨ cl21.slots.size ≤ ((3 : Int32)).toNatClampNeg) := inb_of S21 ⟨by decide, by decide⟩
  obtain ⟨T21, h21, X21, e21, W21, st21⟩ := stC X19 hx hZ e19 Ar21 (j := (3 : Int32)) hin21 (g := (mkF m 134 #[.val (.ref o0), .val (.int (4 : Int32))] [(.int (li.getD (3 : Int32).toNatClampNeg 0)), (.int (3 : Int32)), (.ref b13), (.ref b13), (.ref b12), (.ref b12)])) rfl rfl (hb hby d1_134)
  have V21 : Arv Z h21 b13 k13 .char (4 : Int32) [(.int (nar .char (li.getD (0 : Int32).toNatClampNeg 0))), (.int (nar .char (li.getD (1 : Int32).toNatClampNeg 0))), (.int (nar .char (li.getD (2 : Int32).toNatClampNeg 0))), (.int (nar .char (li.getD (3 : Int32).toNatClampNeg 0)))] (.int (0 : Int32)) := Arv.set Ar21 q21 S21 N21_ H21 G21 (fits_nar_char _) W21 3 rfl (Nat.le_of_ble_eq_true rfl)
  have K21 : Keep h0 h21 [] := K19.wr W21 (Or.inr sz_b13)
  have OLD21 := OLD19.wr W21 g_b13
  have Zs21 : n0 ≤ h21.size := (by rw [W21.size]; exact Zs19)
  have N21 := Fr.snoc X21 N19 g_b13
  refine own_step st21 ?_
  show own_Ends p e below s _ _ _ T21 (mkF m 135 #[.val (.ref o0), .val (.int (4 : Int32))] [(.ref b13), (.ref b12), (.ref b12)])
  have hp22 : ∀ c ∈ ([(nar .char (li.getD (0 : Int32).toNatClampNeg 0)), (nar .char (li.getD (1 : Int32).toNatClampNeg 0)), (nar .char (li.getD (2 : Int32).toNatClampNeg 0)), (nar .char (li.getD (3 : Int32).toNatClampNeg 0))] : List Int32), own_R c := (own_lc (own_rn hr _) (own_lc (own_rn hr _) (own_lc (own_rn hr _) (own_lc (own_rn hr _) own_ln))))
  obtain ⟨_, _, ⟨T22, L22, k22, n22⟩, -, X22, ⟨Lc22, hQ22, l22, y22, z22⟩, st22⟩ := X21.specialBack hx (y := (⟨"java/lang/String", "<init>", "([C)V"⟩ : MethodName)) rfl hown (mvT hZ (hw _ (List.mem_of_getElem? (i := 8) rfl))) (mvT hZ (hw _ (List.mem_of_getElem? (i := 9) rfl))) (mvT hZ (hw _ (List.mem_of_getElem? (i := 10) rfl))) (by decide) (StrChars.Road.backV (W := 1) hZ (own_ws hw) (kI := 4) (hw _ (List.mem_of_getElem? (i := 6) rfl)) (cs := ([(nar .char (li.getD (0 : Int32).toNatClampNeg 0)), (nar .char (li.getD (1 : Int32).toNatClampNeg 0)), (nar .char (li.getD (2 : Int32).toNatClampNeg 0)), (nar .char (li.getD (3 : Int32).toNatClampNeg 0))] : List Int32)) (bs := ([(nar .char (li.getD (0 : Int32).toNatClampNeg 0)), (nar .char (li.getD (1 : Int32).toNatClampNeg 0)), (nar .char (li.getD (2 : Int32).toNatClampNeg 0)), (nar .char (li.getD (3 : Int32).toNatClampNeg 0))] : List Int32).map StrChars.lo8) (n := 4) g_b12 Zs21 (((((A12.ext E13).wr W15).wr W17).wr W19).wr W21) (((((F12_value.ext E13).other W15 (Or.inl ne_b12_b13)).other W17 (Or.inl ne_b12_b13)).other W19 (Or.inl ne_b12_b13)).other W21 (Or.inl ne_b12_b13)) (((((F12_coder.ext E13).other W15 (Or.inl ne_b12_b13)).other W17 (Or.inl ne_b12_b13)).other W19 (Or.inl ne_b12_b13)).other W21 (Or.inl ne_b12_b13)) V21 (O2.ext OLD21.2) P5 rfl rfl (by decide) (by decide) hp22 rfl (by decide) (by decide)) (g := (mkF m 135 #[.val (.ref o0), .val (.int (4 : Int32))] [(.ref b13), (.ref b12), (.ref b12)])) rfl (by rw [hml]; rfl) (Steps.refl _) (a := b12) (argsL := [(.ref b13)]) (rest := [(.ref b12)]) (lenOf pd_1 rfl) rfl (by show 2 * 0 + _ ≤ _; exact Nat.le_of_eq rfl) (hb hby d1_135) (fun _ _ => ⟨rfl, e21, (by decide : 2 + 1 ≤ _), (by decide : 8 + 4 ≤ _)⟩)
  dsimp only [Pt.U, Pt.locs, Pt.cells, Pt.slots] at X22 l22 y22 z22 st22 hQ22
  subst l22 y22 z22
  obtain ⟨rfl, N22q, K22, gE22, gC22, t22, kb22, -, -, -, gV22, gA22⟩ := hQ22
  have N22 := Fr.app N21 N22q
  have KK22 : Keep h0 T22.heap [] := K21.trans K22 (allS (Or.inr sz_b12) all0)
  have OLDk22 := OLD21.keep K22 (allS g_b12 all0)
  have Zs22 : n0 ≤ T22.heap.size := Nat.le_trans Zs21 K22.1
  refine own_step (fun _ => st22.trans) ?_
  show own_Ends p e below s _ _ _ T22 (mkF m 138 #[.val (.ref o0), .val (.int (4 : Int32))] [(.ref b12)])
  exact own_retR X22 hx hret hlk (hb hby d1_138) (by decide) (by decide) rfl rfl ⟨b12, t22, kb22, rfl, N22, KK22, gE22, gC22, gV22, gA22⟩
theorem ef_rm1_4 (m : MethodId) (o0 : Addr) : entryFrame m #[(.ref o0), (.int (4 : Int32))] 2 = mkF m 0 #[.val (.ref o0), .val (.int (4 : Int32))] [] := by first | (simp [entryFrame, mkF, argsToLocals, Value.category]; done) | rfl
set_option maxRecDepth 65536 in
set_option maxHeartbeats 40000000 in
theorem rm1_4 (l : Launch) (Z : State) (a0 : Array Value) (hw : ∀ d ∈ tables_1, d.before a0 Z = true) (ws : List Jvm.Cond) (o0 : Addr) (ka : ClassId) (li : List Int32) (G1 : Int32) (h0 : Heap) (n0 : Nat) (Z0 : n0 ≤ h0.size) (OLD : Old Z n0 h0) (Va : Arv Z h0 o0 ka .char (6 : Int32) (li.map Value.int) (.int (0 : Int32))) (O2 : Sta Z Z.heap "java/lang/String" "COMPACT_STRINGS" "Z" (.int G1)) (P5 : ¬ (G1 = (0 : Int32))) (hr : ∀ c ∈ li, own_R c) :
    MetFree l (⟨"lomwright/lom/PartOfPinLaw", "text", "([CI)Ljava/lang/String;"⟩ : MethodName) (head1 (Jvm.Cond.code (⟨"lomwright/lom/PartOfPinLaw", "text", "([CI)Ljava/lang/String;"⟩ : MethodName) method_3_code 2 (some (.object "java/lang/String")) :: ws) ({ frames := 4, cells := 3, slots := 12, locals := 66 } : Room)) (fun a U => a = #[(.ref o0), (.int (4 : Int32))] ∧ Z.Warmed39 U.vm ∧ U.heap = h0) (fun _ _ _ _ _ => True) (fun _ U o U' => ∃ v L, o = .returned v ∧ (own_QT Z n0 h0 (4 : Int32) [(nar .char (li.getD (0 : Int32).toNatClampNeg 0)), (nar .char (li.getD (1 : Int32).toNatClampNeg 0)), (nar .char (li.getD (2 : Int32).toNatClampNeg 0)), (nar .char (li.getD (3 : Int32).toNatClampNeg 0))]) v U'.heap L ∧ FrameEnd U o U' L ({ frames := 4, cells := 3, slots := 12, locals := 66 } : Room).cells ({ frames := 4, cells := 3, slots := 12, locals := 66 } : Room).slots) := by
  refine MetFree.of_bodySF (plainFor_of_name pn_1) hisR ?_
  intro p e s m args below meth c s₁ Bd hml0 hP hK
  obtain ⟨rfl, hZ, hh⟩ := hP
  have X0 : Stand p l e ({ frames := 4, cells := 3, slots := 12, locals := 66 } : Room) s m #[(.ref o0), (.int (4 : Int32))] below meth c s₁ [] 0 0 := Stand.of_body Bd
  have e0 : s₁.heap = h0 := by rw [← hh, Bd.state]; rfl
  have C : own_C "lomwright/lom/PartOfPinLaw" method_3_code 2 (some (.object "java/lang/String")) "text" p s m meth c Z a0 := ⟨Bd.exec, hZ, hw, Bd.bytes, hml0, findClass_of_methodNamed Bd.named, Bd.returns, Bd.notSynchronized, (name_of_methodNamed Bd.named Bd.method).1⟩
  have r := b1_4n_0 C Z0 X0 e0 (Fr.nil n0) o0 ka li G1 OLD Va O2 P5 hr
  rw [ef_rm1_4 m o0]
  exact r
theorem d1_139 : decode method_3_code 139 = .ok (.iload_n 1, 1) := by decide +kernel
theorem d1_140 : decode method_3_code 140 = .ok (.iconst 5, 1) := by decide +kernel
theorem d1_141 : decode method_3_code 141 = .ok (.if_icmp .ne 44, 3) := by decide +kernel
theorem d1_144 : decode method_3_code 144 = .ok (.new 30, 3) := by decide +kernel
theorem d1_147 : decode method_3_code 147 = .ok (.dup, 1) := by decide +kernel
theorem d1_148 : decode method_3_code 148 = .ok (.iconst 5, 1) := by decide +kernel
theorem d1_149 : decode method_3_code 149 = .ok (.newarray .char, 2) := by decide +kernel
theorem d1_151 : decode method_3_code 151 = .ok (.dup, 1) := by decide +kernel
theorem d1_152 : decode method_3_code 152 = .ok (.iconst 0, 1) := by decide +kernel
theorem d1_153 : decode method_3_code 153 = .ok (.aload_n 0, 1) := by decide +kernel
theorem d1_154 : decode method_3_code 154 = .ok (.iconst 0, 1) := by decide +kernel
theorem d1_155 : decode method_3_code 155 = .ok (.caload, 1) := by decide +kernel
theorem d1_156 : decode method_3_code 156 = .ok (.castore, 1) := by decide +kernel
theorem d1_157 : decode method_3_code 157 = .ok (.dup, 1) := by decide +kernel
theorem d1_158 : decode method_3_code 158 = .ok (.iconst 1, 1) := by decide +kernel
theorem d1_159 : decode method_3_code 159 = .ok (.aload_n 0, 1) := by decide +kernel
theorem d1_160 : decode method_3_code 160 = .ok (.iconst 1, 1) := by decide +kernel
theorem d1_161 : decode method_3_code 161 = .ok (.caload, 1) := by decide +kernel
theorem d1_162 : decode method_3_code 162 = .ok (.castore, 1) := by decide +kernel
theorem d1_163 : decode method_3_code 163 = .ok (.dup, 1) := by decide +kernel
theorem d1_164 : decode method_3_code 164 = .ok (.iconst 2, 1) := by decide +kernel
theorem d1_165 : decode method_3_code 165 = .ok (.aload_n 0, 1) := by decide +kernel
theorem d1_166 : decode method_3_code 166 = .ok (.iconst 2, 1) := by decide +kernel
theorem d1_167 : decode method_3_code 167 = .ok (.caload, 1) := by decide +kernel
theorem d1_168 : decode method_3_code 168 = .ok (.castore, 1) := by decide +kernel
theorem d1_169 : decode method_3_code 169 = .ok (.dup, 1) := by decide +kernel
theorem d1_170 : decode method_3_code 170 = .ok (.iconst 3, 1) := by decide +kernel
theorem d1_171 : decode method_3_code 171 = .ok (.aload_n 0, 1) := by decide +kernel
theorem d1_172 : decode method_3_code 172 = .ok (.iconst 3, 1) := by decide +kernel
theorem d1_173 : decode method_3_code 173 = .ok (.caload, 1) := by decide +kernel
theorem d1_174 : decode method_3_code 174 = .ok (.castore, 1) := by decide +kernel
theorem d1_175 : decode method_3_code 175 = .ok (.dup, 1) := by decide +kernel
theorem d1_176 : decode method_3_code 176 = .ok (.iconst 4, 1) := by decide +kernel
theorem d1_177 : decode method_3_code 177 = .ok (.aload_n 0, 1) := by decide +kernel
theorem d1_178 : decode method_3_code 178 = .ok (.iconst 4, 1) := by decide +kernel
theorem d1_179 : decode method_3_code 179 = .ok (.caload, 1) := by decide +kernel
theorem d1_180 : decode method_3_code 180 = .ok (.castore, 1) := by decide +kernel
theorem d1_181 : decode method_3_code 181 = .ok (.invokespecial 32, 3) := by decide +kernel
theorem d1_184 : decode method_3_code 184 = .ok (.areturn, 1) := by decide +kernel
set_option maxRecDepth 65536 in
set_option maxHeartbeats 40000000 in
theorem b1_5n_0 {p : Program} {l : Launch} {e : Env} {s : State} {m : MethodId} {args : Array Value} {below : List Frame} {meth : Method} {c : Code} {Z : State} {a0 : Array Value} {h0 : Heap} {n0 : Nat} (C : own_C "lomwright/lom/PartOfPinLaw" method_3_code 2 (some (.object "java/lang/String")) "text" p s m meth c Z a0) (Z0 : n0 ≤ h0.size) {T0 : State} {locs : List Loc} (X0 : Stand p l e ({ frames := 4, cells := 3, slots := 14, locals := 66 } : Room) s m args below meth c T0 locs 0 0) (e0 : T0.heap = h0) (N0 : Fr n0 locs) (o0 : Addr) (ka : ClassId) (li : List Int32) (G1 : Int32) (OLD : Old Z n0 h0) (Va : Arv Z h0 o0 ka .char (6 : Int32) (li.map Value.int) (.int (0 : Int32))) (O2 : Sta Z Z.heap "java/lang/String" "COMPACT_STRINGS" "Z" (.int G1)) (P5 : ¬ (G1 = (0 : Int32))) (hr : ∀ c ∈ li, own_R c) :
    own_Ends p e below s ({ frames := 4, cells := 3, slots := 14, locals := 66 } : Room).cells ({ frames := 4, cells := 3, slots := 14, locals := 66 } : Room).slots (own_QT Z n0 h0 (5 : Int32) [(nar .char (li.getD (0 : Int32).toNatClampNeg 0)), (nar .char (li.getD (1 : Int32).toNatClampNeg 0)), (nar .char (li.getD (2 : Int32).toNatClampNeg 0)), (nar .char (li.getD (3 : Int32).toNatClampNeg 0)), (nar .char (li.getD (4 : Int32).toNatClampNeg 0))]) T0 (mkF m 0 #[.val (.ref o0), .val (.int (5 : Int32))] []) := by
  obtain ⟨hx, hZ, hw, hby, hml, hown, hret, hlk, hnm⟩ := C
  have C : own_C "lomwright/lom/PartOfPinLaw" method_3_code 2 (some (.object "java/lang/String")) "text" p s m meth c Z a0 := ⟨hx, hZ, hw, hby, hml, hown, hret, hlk, hnm⟩
  refine own_step (fun _ => XS.iloadN X0.here hx rfl (hb hby d1_0) rfl) ?_
  show own_Ends p e below s _ _ _ T0 (mkF m 1 #[.val (.ref o0), .val (.int (5 : Int32))] [(.int (5 : Int32))])
  refine own_step (fun _ => XS.ifYes X0.here hx rfl (pc0 := 1) (pc' := 15) rfl (hb hby d1_1) rfl ((if0 _ _).trans (feq (show ¬ ((5 : Int32) = (0 : Int32)) from (by decide))).2) (by decide) (by decide)) ?_
  show own_Ends p e below s _ _ _ T0 (mkF m 15 #[.val (.ref o0), .val (.int (5 : Int32))] [])
  refine own_step (fun _ => XS.iloadN X0.here hx rfl (hb hby d1_15) rfl) ?_
  show own_Ends p e below s _ _ _ T0 (mkF m 16 #[.val (.ref o0), .val (.int (5 : Int32))] [(.int (5 : Int32))])
  refine own_step (fun _ => XS.iconst X0.here hx rfl (hb hby d1_16)) ?_
  show own_Ends p e below s _ _ _ T0 (mkF m 17 #[.val (.ref o0), .val (.int (5 : Int32))] [(.int (1 : Int32)), (.int (5 : Int32))])
  refine own_step (fun _ => XS.icmpYes X0.here hx rfl (pc0 := 17) (pc' := 37) rfl (hb hby d1_17) rfl (feq (show ¬ ((5 : Int32) = (1 : Int32)) from (by decide))).2 (by decide) (by decide)) ?_
  show own_Ends p e below s _ _ _ T0 (mkF m 37 #[.val (.ref o0), .val (.int (5 : Int32))] [])
  refine own_step (fun _ => XS.iloadN X0.here hx rfl (hb hby d1_37) rfl) ?_
  show own_Ends p e below s _ _ _ T0 (mkF m 38 #[.val (.ref o0), .val (.int (5 : Int32))] [(.int (5 : Int32))])
  refine own_step (fun _ => XS.iconst X0.here hx rfl (hb hby d1_38)) ?_
  show own_Ends p e below s _ _ _ T0 (mkF m 39 #[.val (.ref o0), .val (.int (5 : Int32))] [(.int (2 : Int32)), (.int (5 : Int32))])
  refine own_step (fun _ => XS.icmpYes X0.here hx rfl (pc0 := 39) (pc' := 65) rfl (hb hby d1_39) rfl (feq (show ¬ ((5 : Int32) = (2 : Int32)) from (by decide))).2 (by decide) (by decide)) ?_
  show own_Ends p e below s _ _ _ T0 (mkF m 65 #[.val (.ref o0), .val (.int (5 : Int32))] [])
  refine own_step (fun _ => XS.iloadN X0.here hx rfl (hb hby d1_65) rfl) ?_
  show own_Ends p e below s _ _ _ T0 (mkF m 66 #[.val (.ref o0), .val (.int (5 : Int32))] [(.int (5 : Int32))])
  refine own_step (fun _ => XS.iconst X0.here hx rfl (hb hby d1_66)) ?_
  show own_Ends p e below s _ _ _ T0 (mkF m 67 #[.val (.ref o0), .val (.int (5 : Int32))] [(.int (3 : Int32)), (.int (5 : Int32))])
  refine own_step (fun _ => XS.icmpYes X0.here hx rfl (pc0 := 67) (pc' := 99) rfl (hb hby d1_67) rfl (feq (show ¬ ((5 : Int32) = (3 : Int32)) from (by decide))).2 (by decide) (by decide)) ?_
  show own_Ends p e below s _ _ _ T0 (mkF m 99 #[.val (.ref o0), .val (.int (5 : Int32))] [])
  refine own_step (fun _ => XS.iloadN X0.here hx rfl (hb hby d1_99) rfl) ?_
  show own_Ends p e below s _ _ _ T0 (mkF m 100 #[.val (.ref o0), .val (.int (5 : Int32))] [(.int (5 : Int32))])
  refine own_step (fun _ => XS.iconst X0.here hx rfl (hb hby d1_100)) ?_
  show own_Ends p e below s _ _ _ T0 (mkF m 101 #[.val (.ref o0), .val (.int (5 : Int32))] [(.int (4 : Int32)), (.int (5 : Int32))])
  refine own_step (fun _ => XS.icmpYes X0.here hx rfl (pc0 := 101) (pc' := 139) rfl (hb hby d1_101) rfl (feq (show ¬ ((5 : Int32) = (4 : Int32)) from (by decide))).2 (by decide) (by decide)) ?_
  show own_Ends p e below s _ _ _ T0 (mkF m 139 #[.val (.ref o0), .val (.int (5 : Int32))] [])
  refine own_step (fun _ => XS.iloadN X0.here hx rfl (hb hby d1_139) rfl) ?_
  show own_Ends p e below s _ _ _ T0 (mkF m 140 #[.val (.ref o0), .val (.int (5 : Int32))] [(.int (5 : Int32))])
  refine own_step (fun _ => XS.iconst X0.here hx rfl (hb hby d1_140)) ?_
  show own_Ends p e below s _ _ _ T0 (mkF m 141 #[.val (.ref o0), .val (.int (5 : Int32))] [(.int (5 : Int32)), (.int (5 : Int32))])
  refine own_step (fun _ => XS.icmpNo X0.here hx rfl (hb hby d1_141) rfl (teq (show (5 : Int32) = (5 : Int32) from (by decide))).2) ?_
  show own_Ends p e below s _ _ _ T0 (mkF m 144 #[.val (.ref o0), .val (.int (5 : Int32))] [])
  obtain ⟨T14, h14, X14, e14, E14, A14, D14, U14, st14⟩ := newO X0 hx hZ hown (hw _ (List.mem_of_getElem? (i := 5) rfl)) (hw _ (List.mem_of_getElem? (i := 6) rfl)) (hw _ (List.mem_of_getElem? (i := 7) rfl)) e0 (g := (mkF m 144 #[.val (.ref o0), .val (.int (5 : Int32))] [])) rfl (hb hby d1_144) (by decide) (by decide)
  obtain ⟨b14, g14⟩ : ∃ z, z = h0.size := ⟨_, rfl⟩
  rw [← g14] at A14 D14 U14 st14
  have g_b14 : n0 ≤ b14 := Nat.le_trans Z0 (Nat.le_of_eq g14.symm)
  have OLD14 := OLD.ext E14
  have sz_b14 : h0.size ≤ b14 := Nat.le_trans (Keep.refl h0 []).1 (Nat.le_of_eq g14.symm)
  have K14 : Keep h0 h14 [] := (Keep.refl h0 []).ext E14
  have Zs14 : n0 ≤ h14.size := Nat.le_trans Z0 E14.1
  have F14_coder : Fld Z h14 b14 "java/lang/String" "coder" "B" (.int (0 : Int32)) := D14 (Or.inr (hw _ (List.mem_of_getElem? (i := 31) rfl))) (ty := .byte) (by decide)
  have F14_value : Fld Z h14 b14 "java/lang/String" "value" "[B" .null := D14 (Or.inr (hw _ (List.mem_of_getElem? (i := 33) rfl))) (ty := (.array .byte)) (by decide)
  refine own_step st14 ?_
  show own_Ends p e below s _ _ _ T14 (mkF m 147 #[.val (.ref o0), .val (.int (5 : Int32))] [(.ref b14)])
  refine own_step (fun _ => XS.dup X14.here hx rfl (hb hby d1_147) rfl rfl) ?_
  show own_Ends p e below s _ _ _ T14 (mkF m 148 #[.val (.ref o0), .val (.int (5 : Int32))] [(.ref b14), (.ref b14)])
  refine own_step (fun _ => XS.iconst X14.here hx rfl (hb hby d1_148)) ?_
  show own_Ends p e below s _ _ _ T14 (mkF m 149 #[.val (.ref o0), .val (.int (5 : Int32))] [(.int (5 : Int32)), (.ref b14), (.ref b14)])
  obtain ⟨T15, h15, k15, X15, e15, E15, A15, st15⟩ := newP X14 hx hZ (hw _ (List.mem_of_getElem? (i := 0) rfl)) e14 (g := (mkF m 149 #[.val (.ref o0), .val (.int (5 : Int32))] [(.int (5 : Int32)), (.ref b14), (.ref b14)])) rfl (hb hby d1_149) rfl (by decide) (cap := 5) (by decide) (by decide) (by decide) (by decide)
  obtain ⟨b15, g15⟩ : ∃ z, z = h14.size := ⟨_, rfl⟩
  rw [← g15] at A15 st15
  have V15 : Arv Z h15 b15 k15 .char (5 : Int32) [(.int (0 : Int32)), (.int (0 : Int32)), (.int (0 : Int32)), (.int (0 : Int32)), (.int (0 : Int32))] (.int (0 : Int32)) := (Arv.new A15 (by decide)).pad (pad_rep [] (.int (0 : Int32)) 5)
  have ne_b14_b15 : b14 ≠ b15 := Nat.ne_of_lt (Nat.lt_of_lt_of_le A14.lt (Nat.le_of_eq g15.symm))
  have g_b15 : n0 ≤ b15 := Nat.le_trans Zs14 (Nat.le_of_eq g15.symm)
  have OLD15 := OLD14.ext E15
  have sz_b15 : h0.size ≤ b15 := Nat.le_trans K14.1 (Nat.le_of_eq g15.symm)
  have K15 : Keep h0 h15 [] := K14.ext E15
  have Zs15 : n0 ≤ h15.size := Nat.le_trans Zs14 E15.1
  refine own_step st15 ?_
  show own_Ends p e below s _ _ _ T15 (mkF m 151 #[.val (.ref o0), .val (.int (5 : Int32))] [(.ref b15), (.ref b14), (.ref b14)])
  refine own_step (fun _ => XS.dup X15.here hx rfl (hb hby d1_151) rfl rfl) ?_
  show own_Ends p e below s _ _ _ T15 (mkF m 152 #[.val (.ref o0), .val (.int (5 : Int32))] [(.ref b15), (.ref b15), (.ref b14), (.ref b14)])
  refine own_step (fun _ => XS.iconst X15.here hx rfl (hb hby d1_152)) ?_
  show own_Ends p e below s _ _ _ T15 (mkF m 153 #[.val (.ref o0), .val (.int (5 : Int32))] [(.int (0 : Int32)), (.ref b15), (.ref b15), (.ref b14), (.ref b14)])
  refine own_step (fun _ => XS.aloadN X15.here hx rfl (hb hby d1_153) rfl rfl) ?_
  show own_Ends p e below s _ _ _ T15 (mkF m 154 #[.val (.ref o0), .val (.int (5 : Int32))] [(.ref o0), (.int (0 : Int32)), (.ref b15), (.ref b15), (.ref b14), (.ref b14)])
  refine own_step (fun _ => XS.iconst X15.here hx rfl (hb hby d1_154)) ?_
  show own_Ends p e below s _ _ _ T15 (mkF m 155 #[.val (.ref o0), .val (.int (5 : Int32))] [(.int (0 : Int32)), (.ref o0), (.int (0 : Int32)), (.ref b15), (.ref b15), (.ref b14), (.ref b14)])
  obtain ⟨cl16, Ar16, q16, S16, N16_, H16, G16⟩ := id ((Va.ext E14).ext E15)
  have hin16 : ¬ ((0 : Int32) < 0 ∨ cl16.slots.size ≤ ((0 : Int32)).toNatClampNeg) := inb_of S16 ⟨by decide, by decide⟩
  have hat16 : cl16.slots[((0 : Int32)).toNatClampNeg]? = some (.int (li.getD (0 : Int32).toNatClampNeg 0)) := H16.at hin16 (own_getD li _)
  refine own_step (fun _ => X15.caload hx (j := (0 : Int32)) (v := (.int (li.getD (0 : Int32).toNatClampNeg 0))) (by rw [e15]; exact Ar16.1) (State.isArrayOf_alike hZ.alike Ar16.2.1) Ar16.2.2 hin16 hat16 (g := (mkF m 155 #[.val (.ref o0), .val (.int (5 : Int32))] [(.int (0 : Int32)), (.ref o0), (.int (0 : Int32)), (.ref b15), (.ref b15), (.ref b14), (.ref b14)])) rfl rfl (hb hby d1_155) _) ?_
  show own_Ends p e below s _ _ _ T15 (mkF m 156 #[.val (.ref o0), .val (.int (5 : Int32))] [(.int (li.getD (0 : Int32).toNatClampNeg 0)), (.int (0 : Int32)), (.ref b15), (.ref b15), (.ref b14), (.ref b14)])
  obtain ⟨cl17, Ar17, q17, S17, N17_, H17, G17⟩ := id V15
  have hin17 : ¬ ((0 : Int32) < 0 ∨ cl17.slots.size ≤ ((0 : Int32)).toNatClampNeg) := inb_of S17 ⟨by decide, by decide⟩
  obtain ⟨T17, h17, X17, e17, W17, st17⟩ := stC X15 hx hZ e15 Ar17 (j := (0 : Int32)) hin17 (g := (mkF m 156 #[.val (.ref o0), .val (.int (5 : Int32))] [(.int (li.getD (0 : Int32).toNatClampNeg 0)), (.int (0 : Int32)), (.ref b15), (.ref b15), (.ref b14), (.ref b14)])) rfl rfl (hb hby d1_156)
  have V17 : Arv Z h17 b15 k15 .char (5 : Int32) [(.int (nar .char (li.getD (0 : Int32).toNatClampNeg 0))), (.int (0 : Int32)), (.int (0 : Int32)), (.int (0 : Int32)), (.int (0 : Int32))] (.int (0 : Int32)) := Arv.set Ar17 q17 S17 N17_ H17 G17 (fits_nar_char _) W17 0 rfl (Nat.le_of_ble_eq_true rfl)
  have K17 : Keep h0 h17 [] := K15.wr W17 (Or.inr sz_b15)
  have OLD17 := OLD15.wr W17 g_b15
  have Zs17 : n0 ≤ h17.size := (by rw [W17.size]; exact Zs15)
  have N17 := Fr.snoc X17 N0 g_b15
  refine own_step st17 ?_
  show own_Ends p e below s _ _ _ T17 (mkF m 157 #[.val (.ref o0), .val (.int (5 : Int32))] [(.ref b15), (.ref b14), (.ref b14)])
  refine own_step (fun _ => XS.dup X17.here hx rfl (hb hby d1_157) rfl rfl) ?_
  show own_Ends p e below s _ _ _ T17 (mkF m 158 #[.val (.ref o0), .val (.int (5 : Int32))] [(.ref b15), (.ref b15), (.ref b14), (.ref b14)])
  refine own_step (fun _ => XS.iconst X17.here hx rfl (hb hby d1_158)) ?_
  show own_Ends p e below s _ _ _ T17 (mkF m 159 #[.val (.ref o0), .val (.int (5 : Int32))] [(.int (1 : Int32)), (.ref b15), (.ref b15), (.ref b14), (.ref b14)])
  refine own_step (fun _ => XS.aloadN X17.here hx rfl (hb hby d1_159) rfl rfl) ?_
  show own_Ends p e below s _ _ _ T17 (mkF m 160 #[.val (.ref o0), .val (.int (5 : Int32))] [(.ref o0), (.int (1 : Int32)), (.ref b15), (.ref b15), (.ref b14), (.ref b14)])
  refine own_step (fun _ => XS.iconst X17.here hx rfl (hb hby d1_160)) ?_
  show own_Ends p e below s _ _ _ T17 (mkF m 161 #[.val (.ref o0), .val (.int (5 : Int32))] [(.int (1 : Int32)), (.ref o0), (.int (1 : Int32)), (.ref b15), (.ref b15), (.ref b14), (.ref b14)])
  obtain ⟨cl18, Ar18, q18, S18, N18_, H18, G18⟩ := id (((Va.ext E14).ext E15).other W17 (Nat.ne_of_lt (Nat.lt_of_lt_of_le Va.lt sz_b15)))
  have hin18 : ¬ ((1 : Int32) < 0 ∨ cl18.slots.size ≤ ((1 : Int32)).toNatClampNeg) := inb_of S18 ⟨by decide, by decide⟩
  have hat18 : cl18.slots[((1 : Int32)).toNatClampNeg]? = some (.int (li.getD (1 : Int32).toNatClampNeg 0)) := H18.at hin18 (own_getD li _)
  refine own_step (fun _ => X17.caload hx (j := (1 : Int32)) (v := (.int (li.getD (1 : Int32).toNatClampNeg 0))) (by rw [e17]; exact Ar18.1) (State.isArrayOf_alike hZ.alike Ar18.2.1) Ar18.2.2 hin18 hat18 (g := (mkF m 161 #[.val (.ref o0), .val (.int (5 : Int32))] [(.int (1 : Int32)), (.ref o0), (.int (1 : Int32)), (.ref b15), (.ref b15), (.ref b14), (.ref b14)])) rfl rfl (hb hby d1_161) _) ?_
  show own_Ends p e below s _ _ _ T17 (mkF m 162 #[.val (.ref o0), .val (.int (5 : Int32))] [(.int (li.getD (1 : Int32).toNatClampNeg 0)), (.int (1 : Int32)), (.ref b15), (.ref b15), (.ref b14), (.ref b14)])
  obtain ⟨cl19, Ar19, q19, S19, N19_, H19, G19⟩ := id V17
  have hin19 : ¬ ((1 : Int32) < 0 ∨ cl19.slots.size ≤ ((1 : Int32)).toNatClampNeg) := inb_of S19 ⟨by decide, by decide⟩
  obtain ⟨T19, h19, X19, e19, W19, st19⟩ := stC X17 hx hZ e17 Ar19 (j := (1 : Int32)) hin19 (g := (mkF m 162 #[.val (.ref o0), .val (.int (5 : Int32))] [(.int (li.getD (1 : Int32).toNatClampNeg 0)), (.int (1 : Int32)), (.ref b15), (.ref b15), (.ref b14), (.ref b14)])) rfl rfl (hb hby d1_162)
  have V19 : Arv Z h19 b15 k15 .char (5 : Int32) [(.int (nar .char (li.getD (0 : Int32).toNatClampNeg 0))), (.int (nar .char (li.getD (1 : Int32).toNatClampNeg 0))), (.int (0 : Int32)), (.int (0 : Int32)), (.int (0 : Int32))] (.int (0 : Int32)) := Arv.set Ar19 q19 S19 N19_ H19 G19 (fits_nar_char _) W19 1 rfl (Nat.le_of_ble_eq_true rfl)
  have K19 : Keep h0 h19 [] := K17.wr W19 (Or.inr sz_b15)
  have OLD19 := OLD17.wr W19 g_b15
  have Zs19 : n0 ≤ h19.size := (by rw [W19.size]; exact Zs17)
  have N19 := Fr.snoc X19 N17 g_b15
  refine own_step st19 ?_
  show own_Ends p e below s _ _ _ T19 (mkF m 163 #[.val (.ref o0), .val (.int (5 : Int32))] [(.ref b15), (.ref b14), (.ref b14)])
  refine own_step (fun _ => XS.dup X19.here hx rfl (hb hby d1_163) rfl rfl) ?_
  show own_Ends p e below s _ _ _ T19 (mkF m 164 #[.val (.ref o0), .val (.int (5 : Int32))] [(.ref b15), (.ref b15), (.ref b14), (.ref b14)])
  refine own_step (fun _ => XS.iconst X19.here hx rfl (hb hby d1_164)) ?_
  show own_Ends p e below s _ _ _ T19 (mkF m 165 #[.val (.ref o0), .val (.int (5 : Int32))] [(.int (2 : Int32)), (.ref b15), (.ref b15), (.ref b14), (.ref b14)])
  refine own_step (fun _ => XS.aloadN X19.here hx rfl (hb hby d1_165) rfl rfl) ?_
  show own_Ends p e below s _ _ _ T19 (mkF m 166 #[.val (.ref o0), .val (.int (5 : Int32))] [(.ref o0), (.int (2 : Int32)), (.ref b15), (.ref b15), (.ref b14), (.ref b14)])
  refine own_step (fun _ => XS.iconst X19.here hx rfl (hb hby d1_166)) ?_
  show own_Ends p e below s _ _ _ T19 (mkF m 167 #[.val (.ref o0), .val (.int (5 : Int32))] [(.int (2 : Int32)), (.ref o0), (.int (2 : Int32)), (.ref b15), (.ref b15), (.ref b14), (.ref b14)])
  obtain ⟨cl20, Ar20, q20, S20, N20_, H20, G20⟩ := id ((((Va.ext E14).ext E15).other W17 (Nat.ne_of_lt (Nat.lt_of_lt_of_le Va.lt sz_b15))).other W19 (Nat.ne_of_lt (Nat.lt_of_lt_of_le Va.lt sz_b15)))
  have hin20 : ¬ ((2 : Int32) < 0 ∨ cl20.slots.size ≤ ((2 : Int32)).toNatClampNeg) := inb_of S20 ⟨by decide, by decide⟩
  have hat20 : cl20.slots[((2 : Int32)).toNatClampNeg]? = some (.int (li.getD (2 : Int32).toNatClampNeg 0)) := H20.at hin20 (own_getD li _)
  refine own_step (fun _ => X19.caload hx (j := (2 : Int32)) (v := (.int (li.getD (2 : Int32).toNatClampNeg 0))) (by rw [e19]; exact Ar20.1) (State.isArrayOf_alike hZ.alike Ar20.2.1) Ar20.2.2 hin20 hat20 (g := (mkF m 167 #[.val (.ref o0), .val (.int (5 : Int32))] [(.int (2 : Int32)), (.ref o0), (.int (2 : Int32)), (.ref b15), (.ref b15), (.ref b14), (.ref b14)])) rfl rfl (hb hby d1_167) _) ?_
  show own_Ends p e below s _ _ _ T19 (mkF m 168 #[.val (.ref o0), .val (.int (5 : Int32))] [(.int (li.getD (2 : Int32).toNatClampNeg 0)), (.int (2 : Int32)), (.ref b15), (.ref b15), (.ref b14), (.ref b14)])
  obtain ⟨cl21, Ar21, q21, S21, N21_, H21, G21⟩ := id V19
  have hin21 : ¬ ((2 : Int32) < 0 ∨ cl21.slots.size ≤ ((2 : Int32)).toNatClampNeg) := inb_of S21 ⟨by decide, by decide⟩
  obtain ⟨T21, h21, X21, e21, W21, st21⟩ := stC X19 hx hZ e19 Ar21 (j := (2 : Int32)) hin21 (g := (mkF m 168 #[.val (.ref o0), .val (.int (5 : Int32))] [(.int (li.getD (2 : Int32).toNatClampNeg 0)), (.int (2 : Int32)), (.ref b15), (.ref b15), (.ref b14), (.ref b14)])) rfl rfl (hb hby d1_168)
  have V21 : Arv Z h21 b15 k15 .char (5 : Int32) [(.int (nar .char (li.getD (0 : Int32).toNatClampNeg 0))), (.int (nar .char (li.getD (1 : Int32).toNatClampNeg 0))), (.int (nar .char (li.getD (2 : Int32).toNatClampNeg 0))), (.int (0 : Int32)), (.int (0 : Int32))] (.int (0 : Int32)) := Arv.set Ar21 q21 S21 N21_ H21 G21 (fits_nar_char _) W21 2 rfl (Nat.le_of_ble_eq_true rfl)
  have K21 : Keep h0 h21 [] := K19.wr W21 (Or.inr sz_b15)
  have OLD21 := OLD19.wr W21 g_b15
  have Zs21 : n0 ≤ h21.size := (by rw [W21.size]; exact Zs19)
  have N21 := Fr.snoc X21 N19 g_b15
  refine own_step st21 ?_
  show own_Ends p e below s _ _ _ T21 (mkF m 169 #[.val (.ref o0), .val (.int (5 : Int32))] [(.ref b15), (.ref b14), (.ref b14)])
  refine own_step (fun _ => XS.dup X21.here hx rfl (hb hby d1_169) rfl rfl) ?_
  show own_Ends p e below s _ _ _ T21 (mkF m 170 #[.val (.ref o0), .val (.int (5 : Int32))] [(.ref b15), (.ref b15), (.ref b14), (.ref b14)])
  refine own_step (fun _ => XS.iconst X21.here hx rfl (hb hby d1_170)) ?_
  show own_Ends p e below s _ _ _ T21 (mkF m 171 #[.val (.ref o0), .val (.int (5 : Int32))] [(.int (3 : Int32)), (.ref b15), (.ref b15), (.ref b14), (.ref b14)])
  refine own_step (fun _ => XS.aloadN X21.here hx rfl (hb hby d1_171) rfl rfl) ?_
  show own_Ends p e below s _ _ _ T21 (mkF m 172 #[.val (.ref o0), .val (.int (5 : Int32))] [(.ref o0), (.int (3 : Int32)), (.ref b15), (.ref b15), (.ref b14), (.ref b14)])
  refine own_step (fun _ => XS.iconst X21.here hx rfl (hb hby d1_172)) ?_
  show own_Ends p e below s _ _ _ T21 (mkF m 173 #[.val (.ref o0), .val (.int (5 : Int32))] [(.int (3 : Int32)), (.ref o0), (.int (3 : Int32)), (.ref b15), (.ref b15), (.ref b14), (.ref b14)])
  obtain ⟨cl22, Ar22, q22, S22, N22_, H22, G22⟩ := id (((((Va.ext E14).ext E15).other W17 (Nat.ne_of_lt (Nat.lt_of_lt_of_le Va.lt sz_b15))).other W19 (Nat.ne_of_lt (Nat.lt_of_lt_of_le Va.lt sz_b15))).other W21 (Nat.ne_of_lt (Nat.lt_of_lt_of_le Va.lt sz_b15)))
  have hin22 : ¬ ((3 : Int32) < 0 ∨ cl22.slots.size ≤ ((3 : Int32)).toNatClampNeg) := inb_of S22 ⟨by decide, by decide⟩
  have hat22 : cl22.slots[((3 : Int32)).toNatClampNeg]? = some (.int (li.getD (3 : Int32).toNatClampNeg 0)) := H22.at hin22 (own_getD li _)
  refine own_step (fun _ => X21.caload hx (j := (3 : Int32)) (v := (.int (li.getD (3 : Int32).toNatClampNeg 0))) (by rw [e21]; exact Ar22.1) (State.isArrayOf_alike hZ.alike Ar22.2.1) Ar22.2.2 hin22 hat22 (g := (mkF m 173 #[.val (.ref o0), .val (.int (5 : Int32))] [(.int (3 : Int32)), (.ref o0), (.int (3 : Int32)), (.ref b15), (.ref b15), (.ref b14), (.ref b14)])) rfl rfl (hb hby d1_173) _) ?_
  show own_Ends p e below s _ _ _ T21 (mkF m 174 #[.val (.ref o0), .val (.int (5 : Int32))] [(.int (li.getD (3 : Int32).toNatClampNeg 0)), (.int (3 : Int32)), (.ref b15), (.ref b15), (.ref b14), (.ref b14)])
  obtain ⟨cl23, Ar23, q23, S23, N23_, H23, G23⟩ := id V21
  have hin23 : ¬ ((3 : Int32) < 0 ∨ cl23.slots.size ≤ ((3 : Int32)).toNatClampNeg) := inb_of S23 ⟨by decide, by decide⟩
  obtain ⟨T23, h23, X23, e23, W23, st23⟩ := stC X21 hx hZ e21 Ar23 (j := (3 : Int32)) hin23 (g := (mkF m 174 #[.val (.ref o0), .val (.int (5 : Int32))] [(.int (li.getD (3 : Int32).toNatClampNeg 0)), (.int (3 : Int32)), (.ref b15), (.ref b15), (.ref b14), (.ref b14)])) rfl rfl (hb hby d1_174)
  have V23 : Arv Z h23 b15 k15 .char (5 : Int32) [(.int (nar .char (li.getD (0 : Int32).toNatClampNeg 0))), (.int (nar .char (li.getD (1 : Int32).toNatClampNeg 0))), (.int (nar .char (li.getD (2 : Int32).toNatClampNeg 0))), (.int (nar .char (li.getD (3 : Int32).toNatClampNeg 0))), (.int (0 : Int32))] (.int (0 : Int32)) := Arv.set Ar23 q23 S23 N23_ H23 G23 (fits_nar_char _) W23 3 rfl (Nat.le_of_ble_eq_true rfl)
  have K23 : Keep h0 h23 [] := K21.wr W23 (Or.inr sz_b15)
  have OLD23 := OLD21.wr W23 g_b15
  have Zs23 : n0 ≤ h23.size := (by rw [W23.size]; exact Zs21)
  have N23 := Fr.snoc X23 N21 g_b15
  refine own_step st23 ?_
  show own_Ends p e below s _ _ _ T23 (mkF m 175 #[.val (.ref o0), .val (.int (5 : Int32))] [(.ref b15), (.ref b14), (.ref b14)])
  refine own_step (fun _ => XS.dup X23.here hx rfl (hb hby d1_175) rfl rfl) ?_
  show own_Ends p e below s _ _ _ T23 (mkF m 176 #[.val (.ref o0), .val (.int (5 : Int32))] [(.ref b15), (.ref b15), (.ref b14), (.ref b14)])
  refine own_step (fun _ => XS.iconst X23.here hx rfl (hb hby d1_176)) ?_
  show own_Ends p e below s _ _ _ T23 (mkF m 177 #[.val (.ref o0), .val (.int (5 : Int32))] [(.int (4 : Int32)), (.ref b15), (.ref b15), (.ref b14), (.ref b14)])
  refine own_step (fun _ => XS.aloadN X23.here hx rfl (hb hby d1_177) rfl rfl) ?_
  show own_Ends p e below s _ _ _ T23 (mkF m 178 #[.val (.ref o0), .val (.int (5 : Int32))] [(.ref o0), (.int (4 : Int32)), (.ref b15), (.ref b15), (.ref b14), (.ref b14)])
  refine own_step (fun _ => XS.iconst X23.here hx rfl (hb hby d1_178)) ?_
  show own_Ends p e below s _ _ _ T23 (mkF m 179 #[.val (.ref o0), .val (.int (5 : Int32))] [(.int (4 : Int32)), (.ref o0), (.int (4 : Int32)), (.ref b15), (.ref b15), (.ref b14), (.ref b14)])
  obtain ⟨cl24, Ar24, q24, S24, N24_, H24, G24⟩ := id ((((((Va.ext E14).ext E15).other W17 (Nat.ne_of_lt (Nat.lt_of_lt_of_le Va.lt sz_b15))).other W19 (Nat.ne_of_lt (Nat.lt_of_lt_of_le Va.lt sz_b15))).other W21 (Nat.ne_of_lt (Nat.lt_of_lt_of_le Va.lt sz_b15))).other W23 (Nat.ne_of_lt (Nat.lt_of_lt_of_le Va.lt sz_b15)))
  have hin24 : ¬ ((4 : Int32) < 0 ∨ cl24.slots.size ≤ ((4 : Int32)).toNatClampNeg) := inb_of S24 ⟨by decide, by decide⟩
  have hat24 : cl24.slots[((4 : Int32)).toNatClampNeg]? = some (.int (li.getD (4 : Int32).toNatClampNeg 0)) := H24.at hin24 (own_getD li _)
  refine own_step (fun _ => X23.caload hx (j := (4 : Int32)) (v := (.int (li.getD (4 : Int32).toNatClampNeg 0))) (by rw [e23]; exact Ar24.1) (State.isArrayOf_alike hZ.alike Ar24.2.1) Ar24.2.2 hin24 hat24 (g := (mkF m 179 #[.val (.ref o0), .val (.int (5 : Int32))] [(.int (4 : Int32)), (.ref o0), (.int (4 : Int32)), (.ref b15), (.ref b15), (.ref b14), (.ref b14)])) rfl rfl (hb hby d1_179) _) ?_
  show own_Ends p e below s _ _ _ T23 (mkF m 180 #[.val (.ref o0), .val (.int (5 : Int32))] [(.int (li.getD (4 : Int32).toNatClampNeg 0)), (.int (4 : Int32)), (.ref b15), (.ref b15), (.ref b14), (.ref b14)])
  obtain ⟨cl25, Ar25, q25, S25, N25_, H25, G25⟩ := id V23
  have hin25 : ¬ ((4 : Int32) < 0 ∨ cl25.slots.size ≤ ((4 : Int32)).toNatClampNeg) := inb_of S25 ⟨by decide, by decide⟩
  obtain ⟨T25, h25, X25, e25, W25, st25⟩ := stC X23 hx hZ e23 Ar25 (j := (4 : Int32)) hin25 (g := (mkF m 180 #[.val (.ref o0), .val (.int (5 : Int32))] [(.int (li.getD (4 : Int32).toNatClampNeg 0)), (.int (4 : Int32)), (.ref b15), (.ref b15), (.ref b14), (.ref b14)])) rfl rfl (hb hby d1_180)
  have V25 : Arv Z h25 b15 k15 .char (5 : Int32) [(.int (nar .char (li.getD (0 : Int32).toNatClampNeg 0))), (.int (nar .char (li.getD (1 : Int32).toNatClampNeg 0))), (.int (nar .char (li.getD (2 : Int32).toNatClampNeg 0))), (.int (nar .char (li.getD (3 : Int32).toNatClampNeg 0))), (.int (nar .char (li.getD (4 : Int32).toNatClampNeg 0)))] (.int (0 : Int32)) := Arv.set Ar25 q25 S25 N25_ H25 G25 (fits_nar_char _) W25 4 rfl (Nat.le_of_ble_eq_true rfl)
  have K25 : Keep h0 h25 [] := K23.wr W25 (Or.inr sz_b15)
  have OLD25 := OLD23.wr W25 g_b15
  have Zs25 : n0 ≤ h25.size := (by rw [W25.size]; exact Zs23)
  have N25 := Fr.snoc X25 N23 g_b15
  refine own_step st25 ?_
  show own_Ends p e below s _ _ _ T25 (mkF m 181 #[.val (.ref o0), .val (.int (5 : Int32))] [(.ref b15), (.ref b14), (.ref b14)])
  have hp26 : ∀ c ∈ ([(nar .char (li.getD (0 : Int32).toNatClampNeg 0)), (nar .char (li.getD (1 : Int32).toNatClampNeg 0)), (nar .char (li.getD (2 : Int32).toNatClampNeg 0)), (nar .char (li.getD (3 : Int32).toNatClampNeg 0)), (nar .char (li.getD (4 : Int32).toNatClampNeg 0))] : List Int32), own_R c := (own_lc (own_rn hr _) (own_lc (own_rn hr _) (own_lc (own_rn hr _) (own_lc (own_rn hr _) (own_lc (own_rn hr _) own_ln)))))
  obtain ⟨_, _, ⟨T26, L26, k26, n26⟩, -, X26, ⟨Lc26, hQ26, l26, y26, z26⟩, st26⟩ := X25.specialBack hx (y := (⟨"java/lang/String", "<init>", "([C)V"⟩ : MethodName)) rfl hown (mvT hZ (hw _ (List.mem_of_getElem? (i := 8) rfl))) (mvT hZ (hw _ (List.mem_of_getElem? (i := 9) rfl))) (mvT hZ (hw _ (List.mem_of_getElem? (i := 10) rfl))) (by decide) (StrChars.Road.backV (W := 1) hZ (own_ws hw) (kI := 4) (hw _ (List.mem_of_getElem? (i := 6) rfl)) (cs := ([(nar .char (li.getD (0 : Int32).toNatClampNeg 0)), (nar .char (li.getD (1 : Int32).toNatClampNeg 0)), (nar .char (li.getD (2 : Int32).toNatClampNeg 0)), (nar .char (li.getD (3 : Int32).toNatClampNeg 0)), (nar .char (li.getD (4 : Int32).toNatClampNeg 0))] : List Int32)) (bs := ([(nar .char (li.getD (0 : Int32).toNatClampNeg 0)), (nar .char (li.getD (1 : Int32).toNatClampNeg 0)), (nar .char (li.getD (2 : Int32).toNatClampNeg 0)), (nar .char (li.getD (3 : Int32).toNatClampNeg 0)), (nar .char (li.getD (4 : Int32).toNatClampNeg 0))] : List Int32).map StrChars.lo8) (n := 5) g_b14 Zs25 ((((((A14.ext E15).wr W17).wr W19).wr W21).wr W23).wr W25) ((((((F14_value.ext E15).other W17 (Or.inl ne_b14_b15)).other W19 (Or.inl ne_b14_b15)).other W21 (Or.inl ne_b14_b15)).other W23 (Or.inl ne_b14_b15)).other W25 (Or.inl ne_b14_b15)) ((((((F14_coder.ext E15).other W17 (Or.inl ne_b14_b15)).other W19 (Or.inl ne_b14_b15)).other W21 (Or.inl ne_b14_b15)).other W23 (Or.inl ne_b14_b15)).other W25 (Or.inl ne_b14_b15)) V25 (O2.ext OLD25.2) P5 rfl rfl (by decide) (by decide) hp26 rfl (by decide) (by decide)) (g := (mkF m 181 #[.val (.ref o0), .val (.int (5 : Int32))] [(.ref b15), (.ref b14), (.ref b14)])) rfl (by rw [hml]; rfl) (Steps.refl _) (a := b14) (argsL := [(.ref b15)]) (rest := [(.ref b14)]) (lenOf pd_1 rfl) rfl (by show 2 * 0 + _ ≤ _; exact Nat.le_of_eq rfl) (hb hby d1_181) (fun _ _ => ⟨rfl, e25, (by decide : 2 + 1 ≤ _), (by decide : 9 + 5 ≤ _)⟩)
  dsimp only [Pt.U, Pt.locs, Pt.cells, Pt.slots] at X26 l26 y26 z26 st26 hQ26
  subst l26 y26 z26
  obtain ⟨rfl, N26q, K26, gE26, gC26, t26, kb26, -, -, -, gV26, gA26⟩ := hQ26
  have N26 := Fr.app N25 N26q
  have KK26 : Keep h0 T26.heap [] := K25.trans K26 (allS (Or.inr sz_b14) all0)
  have OLDk26 := OLD25.keep K26 (allS g_b14 all0)
  have Zs26 : n0 ≤ T26.heap.size := Nat.le_trans Zs25 K26.1
  refine own_step (fun _ => st26.trans) ?_
  show own_Ends p e below s _ _ _ T26 (mkF m 184 #[.val (.ref o0), .val (.int (5 : Int32))] [(.ref b14)])
  exact own_retR X26 hx hret hlk (hb hby d1_184) (by decide) (by decide) rfl rfl ⟨b14, t26, kb26, rfl, N26, KK26, gE26, gC26, gV26, gA26⟩
theorem ef_rm1_5 (m : MethodId) (o0 : Addr) : entryFrame m #[(.ref o0), (.int (5 : Int32))] 2 = mkF m 0 #[.val (.ref o0), .val (.int (5 : Int32))] [] := by first | (simp [entryFrame, mkF, argsToLocals, Value.category]; done) | rfl
set_option maxRecDepth 65536 in
set_option maxHeartbeats 40000000 in
theorem rm1_5 (l : Launch) (Z : State) (a0 : Array Value) (hw : ∀ d ∈ tables_1, d.before a0 Z = true) (ws : List Jvm.Cond) (o0 : Addr) (ka : ClassId) (li : List Int32) (G1 : Int32) (h0 : Heap) (n0 : Nat) (Z0 : n0 ≤ h0.size) (OLD : Old Z n0 h0) (Va : Arv Z h0 o0 ka .char (6 : Int32) (li.map Value.int) (.int (0 : Int32))) (O2 : Sta Z Z.heap "java/lang/String" "COMPACT_STRINGS" "Z" (.int G1)) (P5 : ¬ (G1 = (0 : Int32))) (hr : ∀ c ∈ li, own_R c) :
    MetFree l (⟨"lomwright/lom/PartOfPinLaw", "text", "([CI)Ljava/lang/String;"⟩ : MethodName) (head1 (Jvm.Cond.code (⟨"lomwright/lom/PartOfPinLaw", "text", "([CI)Ljava/lang/String;"⟩ : MethodName) method_3_code 2 (some (.object "java/lang/String")) :: ws) ({ frames := 4, cells := 3, slots := 14, locals := 66 } : Room)) (fun a U => a = #[(.ref o0), (.int (5 : Int32))] ∧ Z.Warmed39 U.vm ∧ U.heap = h0) (fun _ _ _ _ _ => True) (fun _ U o U' => ∃ v L, o = .returned v ∧ (own_QT Z n0 h0 (5 : Int32) [(nar .char (li.getD (0 : Int32).toNatClampNeg 0)), (nar .char (li.getD (1 : Int32).toNatClampNeg 0)), (nar .char (li.getD (2 : Int32).toNatClampNeg 0)), (nar .char (li.getD (3 : Int32).toNatClampNeg 0)), (nar .char (li.getD (4 : Int32).toNatClampNeg 0))]) v U'.heap L ∧ FrameEnd U o U' L ({ frames := 4, cells := 3, slots := 14, locals := 66 } : Room).cells ({ frames := 4, cells := 3, slots := 14, locals := 66 } : Room).slots) := by
  refine MetFree.of_bodySF (plainFor_of_name pn_1) hisR ?_
  intro p e s m args below meth c s₁ Bd hml0 hP hK
  obtain ⟨rfl, hZ, hh⟩ := hP
  have X0 : Stand p l e ({ frames := 4, cells := 3, slots := 14, locals := 66 } : Room) s m #[(.ref o0), (.int (5 : Int32))] below meth c s₁ [] 0 0 := Stand.of_body Bd
  have e0 : s₁.heap = h0 := by rw [← hh, Bd.state]; rfl
  have C : own_C "lomwright/lom/PartOfPinLaw" method_3_code 2 (some (.object "java/lang/String")) "text" p s m meth c Z a0 := ⟨Bd.exec, hZ, hw, Bd.bytes, hml0, findClass_of_methodNamed Bd.named, Bd.returns, Bd.notSynchronized, (name_of_methodNamed Bd.named Bd.method).1⟩
  have r := b1_5n_0 C Z0 X0 e0 (Fr.nil n0) o0 ka li G1 OLD Va O2 P5 hr
  rw [ef_rm1_5 m o0]
  exact r
theorem d1_185 : decode method_3_code 185 = .ok (.new 30, 3) := by decide +kernel
theorem d1_188 : decode method_3_code 188 = .ok (.dup, 1) := by decide +kernel
theorem d1_189 : decode method_3_code 189 = .ok (.bipush 6, 2) := by decide +kernel
theorem d1_191 : decode method_3_code 191 = .ok (.newarray .char, 2) := by decide +kernel
theorem d1_193 : decode method_3_code 193 = .ok (.dup, 1) := by decide +kernel
theorem d1_194 : decode method_3_code 194 = .ok (.iconst 0, 1) := by decide +kernel
theorem d1_195 : decode method_3_code 195 = .ok (.aload_n 0, 1) := by decide +kernel
theorem d1_196 : decode method_3_code 196 = .ok (.iconst 0, 1) := by decide +kernel
theorem d1_197 : decode method_3_code 197 = .ok (.caload, 1) := by decide +kernel
theorem d1_198 : decode method_3_code 198 = .ok (.castore, 1) := by decide +kernel
theorem d1_199 : decode method_3_code 199 = .ok (.dup, 1) := by decide +kernel
theorem d1_200 : decode method_3_code 200 = .ok (.iconst 1, 1) := by decide +kernel
theorem d1_201 : decode method_3_code 201 = .ok (.aload_n 0, 1) := by decide +kernel
theorem d1_202 : decode method_3_code 202 = .ok (.iconst 1, 1) := by decide +kernel
theorem d1_203 : decode method_3_code 203 = .ok (.caload, 1) := by decide +kernel
theorem d1_204 : decode method_3_code 204 = .ok (.castore, 1) := by decide +kernel
theorem d1_205 : decode method_3_code 205 = .ok (.dup, 1) := by decide +kernel
theorem d1_206 : decode method_3_code 206 = .ok (.iconst 2, 1) := by decide +kernel
theorem d1_207 : decode method_3_code 207 = .ok (.aload_n 0, 1) := by decide +kernel
theorem d1_208 : decode method_3_code 208 = .ok (.iconst 2, 1) := by decide +kernel
theorem d1_209 : decode method_3_code 209 = .ok (.caload, 1) := by decide +kernel
theorem d1_210 : decode method_3_code 210 = .ok (.castore, 1) := by decide +kernel
theorem d1_211 : decode method_3_code 211 = .ok (.dup, 1) := by decide +kernel
theorem d1_212 : decode method_3_code 212 = .ok (.iconst 3, 1) := by decide +kernel
theorem d1_213 : decode method_3_code 213 = .ok (.aload_n 0, 1) := by decide +kernel
theorem d1_214 : decode method_3_code 214 = .ok (.iconst 3, 1) := by decide +kernel
theorem d1_215 : decode method_3_code 215 = .ok (.caload, 1) := by decide +kernel
theorem d1_216 : decode method_3_code 216 = .ok (.castore, 1) := by decide +kernel
theorem d1_217 : decode method_3_code 217 = .ok (.dup, 1) := by decide +kernel
theorem d1_218 : decode method_3_code 218 = .ok (.iconst 4, 1) := by decide +kernel
theorem d1_219 : decode method_3_code 219 = .ok (.aload_n 0, 1) := by decide +kernel
theorem d1_220 : decode method_3_code 220 = .ok (.iconst 4, 1) := by decide +kernel
theorem d1_221 : decode method_3_code 221 = .ok (.caload, 1) := by decide +kernel
theorem d1_222 : decode method_3_code 222 = .ok (.castore, 1) := by decide +kernel
theorem d1_223 : decode method_3_code 223 = .ok (.dup, 1) := by decide +kernel
theorem d1_224 : decode method_3_code 224 = .ok (.iconst 5, 1) := by decide +kernel
theorem d1_225 : decode method_3_code 225 = .ok (.aload_n 0, 1) := by decide +kernel
theorem d1_226 : decode method_3_code 226 = .ok (.iconst 5, 1) := by decide +kernel
theorem d1_227 : decode method_3_code 227 = .ok (.caload, 1) := by decide +kernel
theorem d1_228 : decode method_3_code 228 = .ok (.castore, 1) := by decide +kernel
theorem d1_229 : decode method_3_code 229 = .ok (.invokespecial 32, 3) := by decide +kernel
theorem d1_232 : decode method_3_code 232 = .ok (.areturn, 1) := by decide +kernel
set_option maxRecDepth 65536 in
set_option maxHeartbeats 40000000 in
theorem b1_6n_0 {p : Program} {l : Launch} {e : Env} {s : State} {m : MethodId} {args : Array Value} {below : List Frame} {meth : Method} {c : Code} {Z : State} {a0 : Array Value} {h0 : Heap} {n0 : Nat} (C : own_C "lomwright/lom/PartOfPinLaw" method_3_code 2 (some (.object "java/lang/String")) "text" p s m meth c Z a0) (Z0 : n0 ≤ h0.size) {T0 : State} {locs : List Loc} (X0 : Stand p l e ({ frames := 4, cells := 3, slots := 16, locals := 66 } : Room) s m args below meth c T0 locs 0 0) (e0 : T0.heap = h0) (N0 : Fr n0 locs) (o0 : Addr) (ka : ClassId) (li : List Int32) (G1 : Int32) (OLD : Old Z n0 h0) (Va : Arv Z h0 o0 ka .char (6 : Int32) (li.map Value.int) (.int (0 : Int32))) (O2 : Sta Z Z.heap "java/lang/String" "COMPACT_STRINGS" "Z" (.int G1)) (P5 : ¬ (G1 = (0 : Int32))) (hr : ∀ c ∈ li, own_R c) :
    own_Ends p e below s ({ frames := 4, cells := 3, slots := 16, locals := 66 } : Room).cells ({ frames := 4, cells := 3, slots := 16, locals := 66 } : Room).slots (own_QT Z n0 h0 (6 : Int32) [(nar .char (li.getD (0 : Int32).toNatClampNeg 0)), (nar .char (li.getD (1 : Int32).toNatClampNeg 0)), (nar .char (li.getD (2 : Int32).toNatClampNeg 0)), (nar .char (li.getD (3 : Int32).toNatClampNeg 0)), (nar .char (li.getD (4 : Int32).toNatClampNeg 0)), (nar .char (li.getD (5 : Int32).toNatClampNeg 0))]) T0 (mkF m 0 #[.val (.ref o0), .val (.int (6 : Int32))] []) := by
  obtain ⟨hx, hZ, hw, hby, hml, hown, hret, hlk, hnm⟩ := C
  have C : own_C "lomwright/lom/PartOfPinLaw" method_3_code 2 (some (.object "java/lang/String")) "text" p s m meth c Z a0 := ⟨hx, hZ, hw, hby, hml, hown, hret, hlk, hnm⟩
  refine own_step (fun _ => XS.iloadN X0.here hx rfl (hb hby d1_0) rfl) ?_
  show own_Ends p e below s _ _ _ T0 (mkF m 1 #[.val (.ref o0), .val (.int (6 : Int32))] [(.int (6 : Int32))])
  refine own_step (fun _ => XS.ifYes X0.here hx rfl (pc0 := 1) (pc' := 15) rfl (hb hby d1_1) rfl ((if0 _ _).trans (feq (show ¬ ((6 : Int32) = (0 : Int32)) from (by decide))).2) (by decide) (by decide)) ?_
  show own_Ends p e below s _ _ _ T0 (mkF m 15 #[.val (.ref o0), .val (.int (6 : Int32))] [])
  refine own_step (fun _ => XS.iloadN X0.here hx rfl (hb hby d1_15) rfl) ?_
  show own_Ends p e below s _ _ _ T0 (mkF m 16 #[.val (.ref o0), .val (.int (6 : Int32))] [(.int (6 : Int32))])
  refine own_step (fun _ => XS.iconst X0.here hx rfl (hb hby d1_16)) ?_
  show own_Ends p e below s _ _ _ T0 (mkF m 17 #[.val (.ref o0), .val (.int (6 : Int32))] [(.int (1 : Int32)), (.int (6 : Int32))])
  refine own_step (fun _ => XS.icmpYes X0.here hx rfl (pc0 := 17) (pc' := 37) rfl (hb hby d1_17) rfl (feq (show ¬ ((6 : Int32) = (1 : Int32)) from (by decide))).2 (by decide) (by decide)) ?_
  show own_Ends p e below s _ _ _ T0 (mkF m 37 #[.val (.ref o0), .val (.int (6 : Int32))] [])
  refine own_step (fun _ => XS.iloadN X0.here hx rfl (hb hby d1_37) rfl) ?_
  show own_Ends p e below s _ _ _ T0 (mkF m 38 #[.val (.ref o0), .val (.int (6 : Int32))] [(.int (6 : Int32))])
  refine own_step (fun _ => XS.iconst X0.here hx rfl (hb hby d1_38)) ?_
  show own_Ends p e below s _ _ _ T0 (mkF m 39 #[.val (.ref o0), .val (.int (6 : Int32))] [(.int (2 : Int32)), (.int (6 : Int32))])
  refine own_step (fun _ => XS.icmpYes X0.here hx rfl (pc0 := 39) (pc' := 65) rfl (hb hby d1_39) rfl (feq (show ¬ ((6 : Int32) = (2 : Int32)) from (by decide))).2 (by decide) (by decide)) ?_
  show own_Ends p e below s _ _ _ T0 (mkF m 65 #[.val (.ref o0), .val (.int (6 : Int32))] [])
  refine own_step (fun _ => XS.iloadN X0.here hx rfl (hb hby d1_65) rfl) ?_
  show own_Ends p e below s _ _ _ T0 (mkF m 66 #[.val (.ref o0), .val (.int (6 : Int32))] [(.int (6 : Int32))])
  refine own_step (fun _ => XS.iconst X0.here hx rfl (hb hby d1_66)) ?_
  show own_Ends p e below s _ _ _ T0 (mkF m 67 #[.val (.ref o0), .val (.int (6 : Int32))] [(.int (3 : Int32)), (.int (6 : Int32))])
  refine own_step (fun _ => XS.icmpYes X0.here hx rfl (pc0 := 67) (pc' := 99) rfl (hb hby d1_67) rfl (feq (show ¬ ((6 : Int32) = (3 : Int32)) from (by decide))).2 (by decide) (by decide)) ?_
  show own_Ends p e below s _ _ _ T0 (mkF m 99 #[.val (.ref o0), .val (.int (6 : Int32))] [])
  refine own_step (fun _ => XS.iloadN X0.here hx rfl (hb hby d1_99) rfl) ?_
  show own_Ends p e below s _ _ _ T0 (mkF m 100 #[.val (.ref o0), .val (.int (6 : Int32))] [(.int (6 : Int32))])
  refine own_step (fun _ => XS.iconst X0.here hx rfl (hb hby d1_100)) ?_
  show own_Ends p e below s _ _ _ T0 (mkF m 101 #[.val (.ref o0), .val (.int (6 : Int32))] [(.int (4 : Int32)), (.int (6 : Int32))])
  refine own_step (fun _ => XS.icmpYes X0.here hx rfl (pc0 := 101) (pc' := 139) rfl (hb hby d1_101) rfl (feq (show ¬ ((6 : Int32) = (4 : Int32)) from (by decide))).2 (by decide) (by decide)) ?_
  show own_Ends p e below s _ _ _ T0 (mkF m 139 #[.val (.ref o0), .val (.int (6 : Int32))] [])
  refine own_step (fun _ => XS.iloadN X0.here hx rfl (hb hby d1_139) rfl) ?_
  show own_Ends p e below s _ _ _ T0 (mkF m 140 #[.val (.ref o0), .val (.int (6 : Int32))] [(.int (6 : Int32))])
  refine own_step (fun _ => XS.iconst X0.here hx rfl (hb hby d1_140)) ?_
  show own_Ends p e below s _ _ _ T0 (mkF m 141 #[.val (.ref o0), .val (.int (6 : Int32))] [(.int (5 : Int32)), (.int (6 : Int32))])
  refine own_step (fun _ => XS.icmpYes X0.here hx rfl (pc0 := 141) (pc' := 185) rfl (hb hby d1_141) rfl (feq (show ¬ ((6 : Int32) = (5 : Int32)) from (by decide))).2 (by decide) (by decide)) ?_
  show own_Ends p e below s _ _ _ T0 (mkF m 185 #[.val (.ref o0), .val (.int (6 : Int32))] [])
  obtain ⟨T16, h16, X16, e16, E16, A16, D16, U16, st16⟩ := newO X0 hx hZ hown (hw _ (List.mem_of_getElem? (i := 5) rfl)) (hw _ (List.mem_of_getElem? (i := 6) rfl)) (hw _ (List.mem_of_getElem? (i := 7) rfl)) e0 (g := (mkF m 185 #[.val (.ref o0), .val (.int (6 : Int32))] [])) rfl (hb hby d1_185) (by decide) (by decide)
  obtain ⟨b16, g16⟩ : ∃ z, z = h0.size := ⟨_, rfl⟩
  rw [← g16] at A16 D16 U16 st16
  have g_b16 : n0 ≤ b16 := Nat.le_trans Z0 (Nat.le_of_eq g16.symm)
  have OLD16 := OLD.ext E16
  have sz_b16 : h0.size ≤ b16 := Nat.le_trans (Keep.refl h0 []).1 (Nat.le_of_eq g16.symm)
  have K16 : Keep h0 h16 [] := (Keep.refl h0 []).ext E16
  have Zs16 : n0 ≤ h16.size := Nat.le_trans Z0 E16.1
  have F16_coder : Fld Z h16 b16 "java/lang/String" "coder" "B" (.int (0 : Int32)) := D16 (Or.inr (hw _ (List.mem_of_getElem? (i := 31) rfl))) (ty := .byte) (by decide)
  have F16_value : Fld Z h16 b16 "java/lang/String" "value" "[B" .null := D16 (Or.inr (hw _ (List.mem_of_getElem? (i := 33) rfl))) (ty := (.array .byte)) (by decide)
  refine own_step st16 ?_
  show own_Ends p e below s _ _ _ T16 (mkF m 188 #[.val (.ref o0), .val (.int (6 : Int32))] [(.ref b16)])
  refine own_step (fun _ => XS.dup X16.here hx rfl (hb hby d1_188) rfl rfl) ?_
  show own_Ends p e below s _ _ _ T16 (mkF m 189 #[.val (.ref o0), .val (.int (6 : Int32))] [(.ref b16), (.ref b16)])
  refine own_step (fun _ => XS.bipush X16.here hx rfl (hb hby d1_189)) ?_
  show own_Ends p e below s _ _ _ T16 (mkF m 191 #[.val (.ref o0), .val (.int (6 : Int32))] [(.int (6 : Int32)), (.ref b16), (.ref b16)])
  obtain ⟨T17, h17, k17, X17, e17, E17, A17, st17⟩ := newP X16 hx hZ (hw _ (List.mem_of_getElem? (i := 0) rfl)) e16 (g := (mkF m 191 #[.val (.ref o0), .val (.int (6 : Int32))] [(.int (6 : Int32)), (.ref b16), (.ref b16)])) rfl (hb hby d1_191) rfl (by decide) (cap := 6) (by decide) (by decide) (by decide) (by decide)
  obtain ⟨b17, g17⟩ : ∃ z, z = h16.size := ⟨_, rfl⟩
  rw [← g17] at A17 st17
  have V17 : Arv Z h17 b17 k17 .char (6 : Int32) [(.int (0 : Int32)), (.int (0 : Int32)), (.int (0 : Int32)), (.int (0 : Int32)), (.int (0 : Int32)), (.int (0 : Int32))] (.int (0 : Int32)) := (Arv.new A17 (by decide)).pad (pad_rep [] (.int (0 : Int32)) 6)
  have ne_b16_b17 : b16 ≠ b17 := Nat.ne_of_lt (Nat.lt_of_lt_of_le A16.lt (Nat.le_of_eq g17.symm))
  have g_b17 : n0 ≤ b17 := Nat.le_trans Zs16 (Nat.le_of_eq g17.symm)
  have OLD17 := OLD16.ext E17
  have sz_b17 : h0.size ≤ b17 := Nat.le_trans K16.1 (Nat.le_of_eq g17.symm)
  have K17 : Keep h0 h17 [] := K16.ext E17
  have Zs17 : n0 ≤ h17.size := Nat.le_trans Zs16 E17.1
  refine own_step st17 ?_
  show own_Ends p e below s _ _ _ T17 (mkF m 193 #[.val (.ref o0), .val (.int (6 : Int32))] [(.ref b17), (.ref b16), (.ref b16)])
  refine own_step (fun _ => XS.dup X17.here hx rfl (hb hby d1_193) rfl rfl) ?_
  show own_Ends p e below s _ _ _ T17 (mkF m 194 #[.val (.ref o0), .val (.int (6 : Int32))] [(.ref b17), (.ref b17), (.ref b16), (.ref b16)])
  refine own_step (fun _ => XS.iconst X17.here hx rfl (hb hby d1_194)) ?_
  show own_Ends p e below s _ _ _ T17 (mkF m 195 #[.val (.ref o0), .val (.int (6 : Int32))] [(.int (0 : Int32)), (.ref b17), (.ref b17), (.ref b16), (.ref b16)])
  refine own_step (fun _ => XS.aloadN X17.here hx rfl (hb hby d1_195) rfl rfl) ?_
  show own_Ends p e below s _ _ _ T17 (mkF m 196 #[.val (.ref o0), .val (.int (6 : Int32))] [(.ref o0), (.int (0 : Int32)), (.ref b17), (.ref b17), (.ref b16), (.ref b16)])
  refine own_step (fun _ => XS.iconst X17.here hx rfl (hb hby d1_196)) ?_
  show own_Ends p e below s _ _ _ T17 (mkF m 197 #[.val (.ref o0), .val (.int (6 : Int32))] [(.int (0 : Int32)), (.ref o0), (.int (0 : Int32)), (.ref b17), (.ref b17), (.ref b16), (.ref b16)])
  obtain ⟨cl18, Ar18, q18, S18, N18_, H18, G18⟩ := id ((Va.ext E16).ext E17)
  have hin18 : ¬ ((0 : Int32) < 0 ∨ cl18.slots.size ≤ ((0 : Int32)).toNatClampNeg) := inb_of S18 ⟨by decide, by decide⟩
  have hat18 : cl18.slots[((0 : Int32)).toNatClampNeg]? = some (.int (li.getD (0 : Int32).toNatClampNeg 0)) := H18.at hin18 (own_getD li _)
  refine own_step (fun _ => X17.caload hx (j := (0 : Int32)) (v := (.int (li.getD (0 : Int32).toNatClampNeg 0))) (by rw [e17]; exact Ar18.1) (State.isArrayOf_alike hZ.alike Ar18.2.1) Ar18.2.2 hin18 hat18 (g := (mkF m 197 #[.val (.ref o0), .val (.int (6 : Int32))] [(.int (0 : Int32)), (.ref o0), (.int (0 : Int32)), (.ref b17), (.ref b17), (.ref b16), (.ref b16)])) rfl rfl (hb hby d1_197) _) ?_
  show own_Ends p e below s _ _ _ T17 (mkF m 198 #[.val (.ref o0), .val (.int (6 : Int32))] [(.int (li.getD (0 : Int32).toNatClampNeg 0)), (.int (0 : Int32)), (.ref b17), (.ref b17), (.ref b16), (.ref b16)])
  obtain ⟨cl19, Ar19, q19, S19, N19_, H19, G19⟩ := id V17
  have hin19 : ¬ ((0 : Int32) < 0 ∨ cl19.slots.size ≤ ((0 : Int32)).toNatClampNeg) := inb_of S19 ⟨by decide, by decide⟩
  obtain ⟨T19, h19, X19, e19, W19, st19⟩ := stC X17 hx hZ e17 Ar19 (j := (0 : Int32)) hin19 (g := (mkF m 198 #[.val (.ref o0), .val (.int (6 : Int32))] [(.int (li.getD (0 : Int32).toNatClampNeg 0)), (.int (0 : Int32)), (.ref b17), (.ref b17), (.ref b16), (.ref b16)])) rfl rfl (hb hby d1_198)
  have V19 : Arv Z h19 b17 k17 .char (6 : Int32) [(.int (nar .char (li.getD (0 : Int32).toNatClampNeg 0))), (.int (0 : Int32)), (.int (0 : Int32)), (.int (0 : Int32)), (.int (0 : Int32)), (.int (0 : Int32))] (.int (0 : Int32)) := Arv.set Ar19 q19 S19 N19_ H19 G19 (fits_nar_char _) W19 0 rfl (Nat.le_of_ble_eq_true rfl)
  have K19 : Keep h0 h19 [] := K17.wr W19 (Or.inr sz_b17)
  have OLD19 := OLD17.wr W19 g_b17
  have Zs19 : n0 ≤ h19.size := (by rw [W19.size]; exact Zs17)
  have N19 := Fr.snoc X19 N0 g_b17
  refine own_step st19 ?_
  show own_Ends p e below s _ _ _ T19 (mkF m 199 #[.val (.ref o0), .val (.int (6 : Int32))] [(.ref b17), (.ref b16), (.ref b16)])
  refine own_step (fun _ => XS.dup X19.here hx rfl (hb hby d1_199) rfl rfl) ?_
  show own_Ends p e below s _ _ _ T19 (mkF m 200 #[.val (.ref o0), .val (.int (6 : Int32))] [(.ref b17), (.ref b17), (.ref b16), (.ref b16)])
  refine own_step (fun _ => XS.iconst X19.here hx rfl (hb hby d1_200)) ?_
  show own_Ends p e below s _ _ _ T19 (mkF m 201 #[.val (.ref o0), .val (.int (6 : Int32))] [(.int (1 : Int32)), (.ref b17), (.ref b17), (.ref b16), (.ref b16)])
  refine own_step (fun _ => XS.aloadN X19.here hx rfl (hb hby d1_201) rfl rfl) ?_
  show own_Ends p e below s _ _ _ T19 (mkF m 202 #[.val (.ref o0), .val (.int (6 : Int32))] [(.ref o0), (.int (1 : Int32)), (.ref b17), (.ref b17), (.ref b16), (.ref b16)])
  refine own_step (fun _ => XS.iconst X19.here hx rfl (hb hby d1_202)) ?_
  show own_Ends p e below s _ _ _ T19 (mkF m 203 #[.val (.ref o0), .val (.int (6 : Int32))] [(.int (1 : Int32)), (.ref o0), (.int (1 : Int32)), (.ref b17), (.ref b17), (.ref b16), (.ref b16)])
  obtain ⟨cl20, Ar20, q20, S20, N20_, H20, G20⟩ := id (((Va.ext E16).ext E17).other W19 (Nat.ne_of_lt (Nat.lt_of_lt_of_le Va.lt sz_b17)))
  have hin20 : ¬ ((1 : Int32) < 0 ∨ cl20.slots.size ≤ ((1 : Int32)).toNatClampNeg) := inb_of S20 ⟨by decide, by decide⟩
  have hat20 : cl20.slots[((1 : Int32)).toNatClampNeg]? = some (.int (li.getD (1 : Int32).toNatClampNeg 0)) := H20.at hin20 (own_getD li _)
  refine own_step (fun _ => X19.caload hx (j := (1 : Int32)) (v := (.int (li.getD (1 : Int32).toNatClampNeg 0))) (by rw [e19]; exact Ar20.1) (State.isArrayOf_alike hZ.alike Ar20.2.1) Ar20.2.2 hin20 hat20 (g := (mkF m 203 #[.val (.ref o0), .val (.int (6 : Int32))] [(.int (1 : Int32)), (.ref o0), (.int (1 : Int32)), (.ref b17), (.ref b17), (.ref b16), (.ref b16)])) rfl rfl (hb hby d1_203) _) ?_
  show own_Ends p e below s _ _ _ T19 (mkF m 204 #[.val (.ref o0), .val (.int (6 : Int32))] [(.int (li.getD (1 : Int32).toNatClampNeg 0)), (.int (1 : Int32)), (.ref b17), (.ref b17), (.ref b16), (.ref b16)])
  obtain ⟨cl21, Ar21, q21, S21, N21_, H21, G21⟩ := id V19
  have hin21 : ¬ ((1 : Int32) < 0 ∨ cl21.slots.size ≤ ((1 : Int32)).toNatClampNeg) := inb_of S21 ⟨by decide, by decide⟩
  obtain ⟨T21, h21, X21, e21, W21, st21⟩ := stC X19 hx hZ e19 Ar21 (j := (1 : Int32)) hin21 (g := (mkF m 204 #[.val (.ref o0), .val (.int (6 : Int32))] [(.int (li.getD (1 : Int32).toNatClampNeg 0)), (.int (1 : Int32)), (.ref b17), (.ref b17), (.ref b16), (.ref b16)])) rfl rfl (hb hby d1_204)
  have V21 : Arv Z h21 b17 k17 .char (6 : Int32) [(.int (nar .char (li.getD (0 : Int32).toNatClampNeg 0))), (.int (nar .char (li.getD (1 : Int32).toNatClampNeg 0))), (.int (0 : Int32)), (.int (0 : Int32)), (.int (0 : Int32)), (.int (0 : Int32))] (.int (0 : Int32)) := Arv.set Ar21 q21 S21 N21_ H21 G21 (fits_nar_char _) W21 1 rfl (Nat.le_of_ble_eq_true rfl)
  have K21 : Keep h0 h21 [] := K19.wr W21 (Or.inr sz_b17)
  have OLD21 := OLD19.wr W21 g_b17
  have Zs21 : n0 ≤ h21.size := (by rw [W21.size]; exact Zs19)
  have N21 := Fr.snoc X21 N19 g_b17
  refine own_step st21 ?_
  show own_Ends p e below s _ _ _ T21 (mkF m 205 #[.val (.ref o0), .val (.int (6 : Int32))] [(.ref b17), (.ref b16), (.ref b16)])
  refine own_step (fun _ => XS.dup X21.here hx rfl (hb hby d1_205) rfl rfl) ?_
  show own_Ends p e below s _ _ _ T21 (mkF m 206 #[.val (.ref o0), .val (.int (6 : Int32))] [(.ref b17), (.ref b17), (.ref b16), (.ref b16)])
  refine own_step (fun _ => XS.iconst X21.here hx rfl (hb hby d1_206)) ?_
  show own_Ends p e below s _ _ _ T21 (mkF m 207 #[.val (.ref o0), .val (.int (6 : Int32))] [(.int (2 : Int32)), (.ref b17), (.ref b17), (.ref b16), (.ref b16)])
  refine own_step (fun _ => XS.aloadN X21.here hx rfl (hb hby d1_207) rfl rfl) ?_
  show own_Ends p e below s _ _ _ T21 (mkF m 208 #[.val (.ref o0), .val (.int (6 : Int32))] [(.ref o0), (.int (2 : Int32)), (.ref b17), (.ref b17), (.ref b16), (.ref b16)])
  refine own_step (fun _ => XS.iconst X21.here hx rfl (hb hby d1_208)) ?_
  show own_Ends p e below s _ _ _ T21 (mkF m 209 #[.val (.ref o0), .val (.int (6 : Int32))] [(.int (2 : Int32)), (.ref o0), (.int (2 : Int32)), (.ref b17), (.ref b17), (.ref b16), (.ref b16)])
  obtain ⟨cl22, Ar22, q22, S22, N22_, H22, G22⟩ := id ((((Va.ext E16).ext E17).other W19 (Nat.ne_of_lt (Nat.lt_of_lt_of_le Va.lt sz_b17))).other W21 (Nat.ne_of_lt (Nat.lt_of_lt_of_le Va.lt sz_b17)))
  have hin22 : ¬ ((2 : Int32) < 0 ∨ cl22.slots.size ≤ ((2 : Int32)).toNatClampNeg) := inb_of S22 ⟨by decide, by decide⟩
  have hat22 : cl22.slots[((2 : Int32)).toNatClampNeg]? = some (.int (li.getD (2 : Int32).toNatClampNeg 0)) := H22.at hin22 (own_getD li _)
  refine own_step (fun _ => X21.caload hx (j := (2 : Int32)) (v := (.int (li.getD (2 : Int32).toNatClampNeg 0))) (by rw [e21]; exact Ar22.1) (State.isArrayOf_alike hZ.alike Ar22.2.1) Ar22.2.2 hin22 hat22 (g := (mkF m 209 #[.val (.ref o0), .val (.int (6 : Int32))] [(.int (2 : Int32)), (.ref o0), (.int (2 : Int32)), (.ref b17), (.ref b17), (.ref b16), (.ref b16)])) rfl rfl (hb hby d1_209) _) ?_
  show own_Ends p e below s _ _ _ T21 (mkF m 210 #[.val (.ref o0), .val (.int (6 : Int32))] [(.int (li.getD (2 : Int32).toNatClampNeg 0)), (.int (2 : Int32)), (.ref b17), (.ref b17), (.ref b16), (.ref b16)])
  obtain ⟨cl23, Ar23, q23, S23, N23_, H23, G23⟩ := id V21
  have hin23 : ¬ ((2 : Int32) < 0 ∨ cl23.slots.size ≤ ((2 : Int32)).toNatClampNeg) := inb_of S23 ⟨by decide, by decide⟩
  obtain ⟨T23, h23, X23, e23, W23, st23⟩ := stC X21 hx hZ e21 Ar23 (j := (2 : Int32)) hin23 (g := (mkF m 210 #[.val (.ref o0), .val (.int (6 : Int32))] [(.int (li.getD (2 : Int32).toNatClampNeg 0)), (.int (2 : Int32)), (.ref b17), (.ref b17), (.ref b16), (.ref b16)])) rfl rfl (hb hby d1_210)
  have V23 : Arv Z h23 b17 k17 .char (6 : Int32) [(.int (nar .char (li.getD (0 : Int32).toNatClampNeg 0))), (.int (nar .char (li.getD (1 : Int32).toNatClampNeg 0))), (.int (nar .char (li.getD (2 : Int32).toNatClampNeg 0))), (.int (0 : Int32)), (.int (0 : Int32)), (.int (0 : Int32))] (.int (0 : Int32)) := Arv.set Ar23 q23 S23 N23_ H23 G23 (fits_nar_char _) W23 2 rfl (Nat.le_of_ble_eq_true rfl)
  have K23 : Keep h0 h23 [] := K21.wr W23 (Or.inr sz_b17)
  have OLD23 := OLD21.wr W23 g_b17
  have Zs23 : n0 ≤ h23.size := (by rw [W23.size]; exact Zs21)
  have N23 := Fr.snoc X23 N21 g_b17
  refine own_step st23 ?_
  show own_Ends p e below s _ _ _ T23 (mkF m 211 #[.val (.ref o0), .val (.int (6 : Int32))] [(.ref b17), (.ref b16), (.ref b16)])
  refine own_step (fun _ => XS.dup X23.here hx rfl (hb hby d1_211) rfl rfl) ?_
  show own_Ends p e below s _ _ _ T23 (mkF m 212 #[.val (.ref o0), .val (.int (6 : Int32))] [(.ref b17), (.ref b17), (.ref b16), (.ref b16)])
  refine own_step (fun _ => XS.iconst X23.here hx rfl (hb hby d1_212)) ?_
  show own_Ends p e below s _ _ _ T23 (mkF m 213 #[.val (.ref o0), .val (.int (6 : Int32))] [(.int (3 : Int32)), (.ref b17), (.ref b17), (.ref b16), (.ref b16)])
  refine own_step (fun _ => XS.aloadN X23.here hx rfl (hb hby d1_213) rfl rfl) ?_
  show own_Ends p e below s _ _ _ T23 (mkF m 214 #[.val (.ref o0), .val (.int (6 : Int32))] [(.ref o0), (.int (3 : Int32)), (.ref b17), (.ref b17), (.ref b16), (.ref b16)])
  refine own_step (fun _ => XS.iconst X23.here hx rfl (hb hby d1_214)) ?_
  show own_Ends p e below s _ _ _ T23 (mkF m 215 #[.val (.ref o0), .val (.int (6 : Int32))] [(.int (3 : Int32)), (.ref o0), (.int (3 : Int32)), (.ref b17), (.ref b17), (.ref b16), (.ref b16)])
  obtain ⟨cl24, Ar24, q24, S24, N24_, H24, G24⟩ := id (((((Va.ext E16).ext E17).other W19 (Nat.ne_of_lt (Nat.lt_of_lt_of_le Va.lt sz_b17))).other W21 (Nat.ne_of_lt (Nat.lt_of_lt_of_le Va.lt sz_b17))).other W23 (Nat.ne_of_lt (Nat.lt_of_lt_of_le Va.lt sz_b17)))
  have hin24 : ¬ ((3 : Int32) < 0 ∨ cl24.slots.size ≤ ((3 : Int32)).toNatClampNeg) := inb_of S24 ⟨by decide, by decide⟩
  have hat24 : cl24.slots[((3 : Int32)).toNatClampNeg]? = some (.int (li.getD (3 : Int32).toNatClampNeg 0)) := H24.at hin24 (own_getD li _)
  refine own_step (fun _ => X23.caload hx (j := (3 : Int32)) (v := (.int (li.getD (3 : Int32).toNatClampNeg 0))) (by rw [e23]; exact Ar24.1) (State.isArrayOf_alike hZ.alike Ar24.2.1) Ar24.2.2 hin24 hat24 (g := (mkF m 215 #[.val (.ref o0), .val (.int (6 : Int32))] [(.int (3 : Int32)), (.ref o0), (.int (3 : Int32)), (.ref b17), (.ref b17), (.ref b16), (.ref b16)])) rfl rfl (hb hby d1_215) _) ?_
  show own_Ends p e below s _ _ _ T23 (mkF m 216 #[.val (.ref o0), .val (.int (6 : Int32))] [(.int (li.getD (3 : Int32).toNatClampNeg 0)), (.int (3 : Int32)), (.ref b17), (.ref b17), (.ref b16), (.ref b16)])
  obtain ⟨cl25, Ar25, q25, S25, N25_, H25, G25⟩ := id V23
  have hin25 : ¬ ((3 : Int32) < 0 ∨ cl25.slots.size ≤ ((3 : Int32)).toNatClampNeg) := inb_of S25 ⟨by decide, by decide⟩
  obtain ⟨T25, h25, X25, e25, W25, st25⟩ := stC X23 hx hZ e23 Ar25 (j := (3 : Int32)) hin25 (g := (mkF m 216 #[.val (.ref o0), .val (.int (6 : Int32))] [(.int (li.getD (3 : Int32).toNatClampNeg 0)), (.int (3 : Int32)), (.ref b17), (.ref b17), (.ref b16), (.ref b16)])) rfl rfl (hb hby d1_216)
  have V25 : Arv Z h25 b17 k17 .char (6 : Int32) [(.int (nar .char (li.getD (0 : Int32).toNatClampNeg 0))), (.int (nar .char (li.getD (1 : Int32).toNatClampNeg 0))), (.int (nar .char (li.getD (2 : Int32).toNatClampNeg 0))), (.int (nar .char (li.getD (3 : Int32).toNatClampNeg 0))), (.int (0 : Int32)), (.int (0 : Int32))] (.int (0 : Int32)) := Arv.set Ar25 q25 S25 N25_ H25 G25 (fits_nar_char _) W25 3 rfl (Nat.le_of_ble_eq_true rfl)
  have K25 : Keep h0 h25 [] := K23.wr W25 (Or.inr sz_b17)
  have OLD25 := OLD23.wr W25 g_b17
  have Zs25 : n0 ≤ h25.size := (by rw [W25.size]; exact Zs23)
  have N25 := Fr.snoc X25 N23 g_b17
  refine own_step st25 ?_
  show own_Ends p e below s _ _ _ T25 (mkF m 217 #[.val (.ref o0), .val (.int (6 : Int32))] [(.ref b17), (.ref b16), (.ref b16)])
  refine own_step (fun _ => XS.dup X25.here hx rfl (hb hby d1_217) rfl rfl) ?_
  show own_Ends p e below s _ _ _ T25 (mkF m 218 #[.val (.ref o0), .val (.int (6 : Int32))] [(.ref b17), (.ref b17), (.ref b16), (.ref b16)])
  refine own_step (fun _ => XS.iconst X25.here hx rfl (hb hby d1_218)) ?_
  show own_Ends p e below s _ _ _ T25 (mkF m 219 #[.val (.ref o0), .val (.int (6 : Int32))] [(.int (4 : Int32)), (.ref b17), (.ref b17), (.ref b16), (.ref b16)])
  refine own_step (fun _ => XS.aloadN X25.here hx rfl (hb hby d1_219) rfl rfl) ?_
  show own_Ends p e below s _ _ _ T25 (mkF m 220 #[.val (.ref o0), .val (.int (6 : Int32))] [(.ref o0), (.int (4 : Int32)), (.ref b17), (.ref b17), (.ref b16), (.ref b16)])
  refine own_step (fun _ => XS.iconst X25.here hx rfl (hb hby d1_220)) ?_
  show own_Ends p e below s _ _ _ T25 (mkF m 221 #[.val (.ref o0), .val (.int (6 : Int32))] [(.int (4 : Int32)), (.ref o0), (.int (4 : Int32)), (.ref b17), (.ref b17), (.ref b16), (.ref b16)])
  obtain ⟨cl26, Ar26, q26, S26, N26_, H26, G26⟩ := id ((((((Va.ext E16).ext E17).other W19 (Nat.ne_of_lt (Nat.lt_of_lt_of_le Va.lt sz_b17))).other W21 (Nat.ne_of_lt (Nat.lt_of_lt_of_le Va.lt sz_b17))).other W23 (Nat.ne_of_lt (Nat.lt_of_lt_of_le Va.lt sz_b17))).other W25 (Nat.ne_of_lt (Nat.lt_of_lt_of_le Va.lt sz_b17)))
  have hin26 : ¬ ((4 : Int32) < 0 ∨ cl26.slots.size ≤ ((4 : Int32)).toNatClampNeg) := inb_of S26 ⟨by decide, by decide⟩
  have hat26 : cl26.slots[((4 : Int32)).toNatClampNeg]? = some (.int (li.getD (4 : Int32).toNatClampNeg 0)) := H26.at hin26 (own_getD li _)
  refine own_step (fun _ => X25.caload hx (j := (4 : Int32)) (v := (.int (li.getD (4 : Int32).toNatClampNeg 0))) (by rw [e25]; exact Ar26.1) (State.isArrayOf_alike hZ.alike Ar26.2.1) Ar26.2.2 hin26 hat26 (g := (mkF m 221 #[.val (.ref o0), .val (.int (6 : Int32))] [(.int (4 : Int32)), (.ref o0), (.int (4 : Int32)), (.ref b17), (.ref b17), (.ref b16), (.ref b16)])) rfl rfl (hb hby d1_221) _) ?_
  show own_Ends p e below s _ _ _ T25 (mkF m 222 #[.val (.ref o0), .val (.int (6 : Int32))] [(.int (li.getD (4 : Int32).toNatClampNeg 0)), (.int (4 : Int32)), (.ref b17), (.ref b17), (.ref b16), (.ref b16)])
  obtain ⟨cl27, Ar27, q27, S27, N27_, H27, G27⟩ := id V25
  have hin27 : ¬ ((4 : Int32) < 0 ∨ cl27.slots.size ≤ ((4 : Int32)).toNatClampNeg) := inb_of S27 ⟨by decide, by decide⟩
  obtain ⟨T27, h27, X27, e27, W27, st27⟩ := stC X25 hx hZ e25 Ar27 (j := (4 : Int32)) hin27 (g := (mkF m 222 #[.val (.ref o0), .val (.int (6 : Int32))] [(.int (li.getD (4 : Int32).toNatClampNeg 0)), (.int (4 : Int32)), (.ref b17), (.ref b17), (.ref b16), (.ref b16)])) rfl rfl (hb hby d1_222)
  have V27 : Arv Z h27 b17 k17 .char (6 : Int32) [(.int (nar .char (li.getD (0 : Int32).toNatClampNeg 0))), (.int (nar .char (li.getD (1 : Int32).toNatClampNeg 0))), (.int (nar .char (li.getD (2 : Int32).toNatClampNeg 0))), (.int (nar .char (li.getD (3 : Int32).toNatClampNeg 0))), (.int (nar .char (li.getD (4 : Int32).toNatClampNeg 0))), (.int (0 : Int32))] (.int (0 : Int32)) := Arv.set Ar27 q27 S27 N27_ H27 G27 (fits_nar_char _) W27 4 rfl (Nat.le_of_ble_eq_true rfl)
  have K27 : Keep h0 h27 [] := K25.wr W27 (Or.inr sz_b17)
  have OLD27 := OLD25.wr W27 g_b17
  have Zs27 : n0 ≤ h27.size := (by rw [W27.size]; exact Zs25)
  have N27 := Fr.snoc X27 N25 g_b17
  refine own_step st27 ?_
  show own_Ends p e below s _ _ _ T27 (mkF m 223 #[.val (.ref o0), .val (.int (6 : Int32))] [(.ref b17), (.ref b16), (.ref b16)])
  refine own_step (fun _ => XS.dup X27.here hx rfl (hb hby d1_223) rfl rfl) ?_
  show own_Ends p e below s _ _ _ T27 (mkF m 224 #[.val (.ref o0), .val (.int (6 : Int32))] [(.ref b17), (.ref b17), (.ref b16), (.ref b16)])
  refine own_step (fun _ => XS.iconst X27.here hx rfl (hb hby d1_224)) ?_
  show own_Ends p e below s _ _ _ T27 (mkF m 225 #[.val (.ref o0), .val (.int (6 : Int32))] [(.int (5 : Int32)), (.ref b17), (.ref b17), (.ref b16), (.ref b16)])
  refine own_step (fun _ => XS.aloadN X27.here hx rfl (hb hby d1_225) rfl rfl) ?_
  show own_Ends p e below s _ _ _ T27 (mkF m 226 #[.val (.ref o0), .val (.int (6 : Int32))] [(.ref o0), (.int (5 : Int32)), (.ref b17), (.ref b17), (.ref b16), (.ref b16)])
  refine own_step (fun _ => XS.iconst X27.here hx rfl (hb hby d1_226)) ?_
  show own_Ends p e below s _ _ _ T27 (mkF m 227 #[.val (.ref o0), .val (.int (6 : Int32))] [(.int (5 : Int32)), (.ref o0), (.int (5 : Int32)), (.ref b17), (.ref b17), (.ref b16), (.ref b16)])
  obtain ⟨cl28, Ar28, q28, S28, N28_, H28, G28⟩ := id (((((((Va.ext E16).ext E17).other W19 (Nat.ne_of_lt (Nat.lt_of_lt_of_le Va.lt sz_b17))).other W21 (Nat.ne_of_lt (Nat.lt_of_lt_of_le Va.lt sz_b17))).other W23 (Nat.ne_of_lt (Nat.lt_of_lt_of_le Va.lt sz_b17))).other W25 (Nat.ne_of_lt (Nat.lt_of_lt_of_le Va.lt sz_b17))).other W27 (Nat.ne_of_lt (Nat.lt_of_lt_of_le Va.lt sz_b17)))
  have hin28 : ¬ ((5 : Int32) < 0 ∨ cl28.slots.size ≤ ((5 : Int32)).toNatClampNeg) := inb_of S28 ⟨by decide, by decide⟩
  have hat28 : cl28.slots[((5 : Int32)).toNatClampNeg]? = some (.int (li.getD (5 : Int32).toNatClampNeg 0)) := H28.at hin28 (own_getD li _)
  refine own_step (fun _ => X27.caload hx (j := (5 : Int32)) (v := (.int (li.getD (5 : Int32).toNatClampNeg 0))) (by rw [e27]; exact Ar28.1) (State.isArrayOf_alike hZ.alike Ar28.2.1) Ar28.2.2 hin28 hat28 (g := (mkF m 227 #[.val (.ref o0), .val (.int (6 : Int32))] [(.int (5 : Int32)), (.ref o0), (.int (5 : Int32)), (.ref b17), (.ref b17), (.ref b16), (.ref b16)])) rfl rfl (hb hby d1_227) _) ?_
  show own_Ends p e below s _ _ _ T27 (mkF m 228 #[.val (.ref o0), .val (.int (6 : Int32))] [(.int (li.getD (5 : Int32).toNatClampNeg 0)), (.int (5 : Int32)), (.ref b17), (.ref b17), (.ref b16), (.ref b16)])
  obtain ⟨cl29, Ar29, q29, S29, N29_, H29, G29⟩ := id V27
  have hin29 : ¬ ((5 : Int32) < 0 ∨ cl29.slots.size ≤ ((5 : Int32)).toNatClampNeg) := inb_of S29 ⟨by decide, by decide⟩
  obtain ⟨T29, h29, X29, e29, W29, st29⟩ := stC X27 hx hZ e27 Ar29 (j := (5 : Int32)) hin29 (g := (mkF m 228 #[.val (.ref o0), .val (.int (6 : Int32))] [(.int (li.getD (5 : Int32).toNatClampNeg 0)), (.int (5 : Int32)), (.ref b17), (.ref b17), (.ref b16), (.ref b16)])) rfl rfl (hb hby d1_228)
  have V29 : Arv Z h29 b17 k17 .char (6 : Int32) [(.int (nar .char (li.getD (0 : Int32).toNatClampNeg 0))), (.int (nar .char (li.getD (1 : Int32).toNatClampNeg 0))), (.int (nar .char (li.getD (2 : Int32).toNatClampNeg 0))), (.int (nar .char (li.getD (3 : Int32).toNatClampNeg 0))), (.int (nar .char (li.getD (4 : Int32).toNatClampNeg 0))), (.int (nar .char (li.getD (5 : Int32).toNatClampNeg 0)))] (.int (0 : Int32)) := Arv.set Ar29 q29 S29 N29_ H29 G29 (fits_nar_char _) W29 5 rfl (Nat.le_of_ble_eq_true rfl)
  have K29 : Keep h0 h29 [] := K27.wr W29 (Or.inr sz_b17)
  have OLD29 := OLD27.wr W29 g_b17
  have Zs29 : n0 ≤ h29.size := (by rw [W29.size]; exact Zs27)
  have N29 := Fr.snoc X29 N27 g_b17
  refine own_step st29 ?_
  show own_Ends p e below s _ _ _ T29 (mkF m 229 #[.val (.ref o0), .val (.int (6 : Int32))] [(.ref b17), (.ref b16), (.ref b16)])
  have hp30 : ∀ c ∈ ([(nar .char (li.getD (0 : Int32).toNatClampNeg 0)), (nar .char (li.getD (1 : Int32).toNatClampNeg 0)), (nar .char (li.getD (2 : Int32).toNatClampNeg 0)), (nar .char (li.getD (3 : Int32).toNatClampNeg 0)), (nar .char (li.getD (4 : Int32).toNatClampNeg 0)), (nar .char (li.getD (5 : Int32).toNatClampNeg 0))] : List Int32), own_R c := (own_lc (own_rn hr _) (own_lc (own_rn hr _) (own_lc (own_rn hr _) (own_lc (own_rn hr _) (own_lc (own_rn hr _) (own_lc (own_rn hr _) own_ln))))))
  obtain ⟨_, _, ⟨T30, L30, k30, n30⟩, -, X30, ⟨Lc30, hQ30, l30, y30, z30⟩, st30⟩ := X29.specialBack hx (y := (⟨"java/lang/String", "<init>", "([C)V"⟩ : MethodName)) rfl hown (mvT hZ (hw _ (List.mem_of_getElem? (i := 8) rfl))) (mvT hZ (hw _ (List.mem_of_getElem? (i := 9) rfl))) (mvT hZ (hw _ (List.mem_of_getElem? (i := 10) rfl))) (by decide) (StrChars.Road.backV (W := 1) hZ (own_ws hw) (kI := 4) (hw _ (List.mem_of_getElem? (i := 6) rfl)) (cs := ([(nar .char (li.getD (0 : Int32).toNatClampNeg 0)), (nar .char (li.getD (1 : Int32).toNatClampNeg 0)), (nar .char (li.getD (2 : Int32).toNatClampNeg 0)), (nar .char (li.getD (3 : Int32).toNatClampNeg 0)), (nar .char (li.getD (4 : Int32).toNatClampNeg 0)), (nar .char (li.getD (5 : Int32).toNatClampNeg 0))] : List Int32)) (bs := ([(nar .char (li.getD (0 : Int32).toNatClampNeg 0)), (nar .char (li.getD (1 : Int32).toNatClampNeg 0)), (nar .char (li.getD (2 : Int32).toNatClampNeg 0)), (nar .char (li.getD (3 : Int32).toNatClampNeg 0)), (nar .char (li.getD (4 : Int32).toNatClampNeg 0)), (nar .char (li.getD (5 : Int32).toNatClampNeg 0))] : List Int32).map StrChars.lo8) (n := 6) g_b16 Zs29 (((((((A16.ext E17).wr W19).wr W21).wr W23).wr W25).wr W27).wr W29) (((((((F16_value.ext E17).other W19 (Or.inl ne_b16_b17)).other W21 (Or.inl ne_b16_b17)).other W23 (Or.inl ne_b16_b17)).other W25 (Or.inl ne_b16_b17)).other W27 (Or.inl ne_b16_b17)).other W29 (Or.inl ne_b16_b17)) (((((((F16_coder.ext E17).other W19 (Or.inl ne_b16_b17)).other W21 (Or.inl ne_b16_b17)).other W23 (Or.inl ne_b16_b17)).other W25 (Or.inl ne_b16_b17)).other W27 (Or.inl ne_b16_b17)).other W29 (Or.inl ne_b16_b17)) V29 (O2.ext OLD29.2) P5 rfl rfl (by decide) (by decide) hp30 rfl (by decide) (by decide)) (g := (mkF m 229 #[.val (.ref o0), .val (.int (6 : Int32))] [(.ref b17), (.ref b16), (.ref b16)])) rfl (by rw [hml]; rfl) (Steps.refl _) (a := b16) (argsL := [(.ref b17)]) (rest := [(.ref b16)]) (lenOf pd_1 rfl) rfl (by show 2 * 0 + _ ≤ _; exact Nat.le_of_eq rfl) (hb hby d1_229) (fun _ _ => ⟨rfl, e29, (by decide : 2 + 1 ≤ _), (by decide : 10 + 6 ≤ _)⟩)
  dsimp only [Pt.U, Pt.locs, Pt.cells, Pt.slots] at X30 l30 y30 z30 st30 hQ30
  subst l30 y30 z30
  obtain ⟨rfl, N30q, K30, gE30, gC30, t30, kb30, -, -, -, gV30, gA30⟩ := hQ30
  have N30 := Fr.app N29 N30q
  have KK30 : Keep h0 T30.heap [] := K29.trans K30 (allS (Or.inr sz_b16) all0)
  have OLDk30 := OLD29.keep K30 (allS g_b16 all0)
  have Zs30 : n0 ≤ T30.heap.size := Nat.le_trans Zs29 K30.1
  refine own_step (fun _ => st30.trans) ?_
  show own_Ends p e below s _ _ _ T30 (mkF m 232 #[.val (.ref o0), .val (.int (6 : Int32))] [(.ref b16)])
  exact own_retR X30 hx hret hlk (hb hby d1_232) (by decide) (by decide) rfl rfl ⟨b16, t30, kb30, rfl, N30, KK30, gE30, gC30, gV30, gA30⟩
theorem ef_rm1_6 (m : MethodId) (o0 : Addr) : entryFrame m #[(.ref o0), (.int (6 : Int32))] 2 = mkF m 0 #[.val (.ref o0), .val (.int (6 : Int32))] [] := by first | (simp [entryFrame, mkF, argsToLocals, Value.category]; done) | rfl
set_option maxRecDepth 65536 in
set_option maxHeartbeats 40000000 in
theorem rm1_6 (l : Launch) (Z : State) (a0 : Array Value) (hw : ∀ d ∈ tables_1, d.before a0 Z = true) (ws : List Jvm.Cond) (o0 : Addr) (ka : ClassId) (li : List Int32) (G1 : Int32) (h0 : Heap) (n0 : Nat) (Z0 : n0 ≤ h0.size) (OLD : Old Z n0 h0) (Va : Arv Z h0 o0 ka .char (6 : Int32) (li.map Value.int) (.int (0 : Int32))) (O2 : Sta Z Z.heap "java/lang/String" "COMPACT_STRINGS" "Z" (.int G1)) (P5 : ¬ (G1 = (0 : Int32))) (hr : ∀ c ∈ li, own_R c) :
    MetFree l (⟨"lomwright/lom/PartOfPinLaw", "text", "([CI)Ljava/lang/String;"⟩ : MethodName) (head1 (Jvm.Cond.code (⟨"lomwright/lom/PartOfPinLaw", "text", "([CI)Ljava/lang/String;"⟩ : MethodName) method_3_code 2 (some (.object "java/lang/String")) :: ws) ({ frames := 4, cells := 3, slots := 16, locals := 66 } : Room)) (fun a U => a = #[(.ref o0), (.int (6 : Int32))] ∧ Z.Warmed39 U.vm ∧ U.heap = h0) (fun _ _ _ _ _ => True) (fun _ U o U' => ∃ v L, o = .returned v ∧ (own_QT Z n0 h0 (6 : Int32) [(nar .char (li.getD (0 : Int32).toNatClampNeg 0)), (nar .char (li.getD (1 : Int32).toNatClampNeg 0)), (nar .char (li.getD (2 : Int32).toNatClampNeg 0)), (nar .char (li.getD (3 : Int32).toNatClampNeg 0)), (nar .char (li.getD (4 : Int32).toNatClampNeg 0)), (nar .char (li.getD (5 : Int32).toNatClampNeg 0))]) v U'.heap L ∧ FrameEnd U o U' L ({ frames := 4, cells := 3, slots := 16, locals := 66 } : Room).cells ({ frames := 4, cells := 3, slots := 16, locals := 66 } : Room).slots) := by
  refine MetFree.of_bodySF (plainFor_of_name pn_1) hisR ?_
  intro p e s m args below meth c s₁ Bd hml0 hP hK
  obtain ⟨rfl, hZ, hh⟩ := hP
  have X0 : Stand p l e ({ frames := 4, cells := 3, slots := 16, locals := 66 } : Room) s m #[(.ref o0), (.int (6 : Int32))] below meth c s₁ [] 0 0 := Stand.of_body Bd
  have e0 : s₁.heap = h0 := by rw [← hh, Bd.state]; rfl
  have C : own_C "lomwright/lom/PartOfPinLaw" method_3_code 2 (some (.object "java/lang/String")) "text" p s m meth c Z a0 := ⟨Bd.exec, hZ, hw, Bd.bytes, hml0, findClass_of_methodNamed Bd.named, Bd.returns, Bd.notSynchronized, (name_of_methodNamed Bd.named Bd.method).1⟩
  have r := b1_6n_0 C Z0 X0 e0 (Fr.nil n0) o0 ka li G1 OLD Va O2 P5 hr
  rw [ef_rm1_6 m o0]
  exact r
theorem d8_0 : decode prog_50_method_6_code 0 = .ok (.getstatic 55, 3) := by decide +kernel
theorem d8_3 : decode prog_50_method_6_code 3 = .ok (.astore_n 1, 1) := by decide +kernel
theorem d8_4 : decode prog_50_method_6_code 4 = .ok (.aload_n 1, 1) := by decide +kernel
theorem d8_5 : decode prog_50_method_6_code 5 = .ok (.arraylength, 1) := by decide +kernel
theorem d8_6 : decode prog_50_method_6_code 6 = .ok (.istore_n 2, 1) := by decide +kernel
theorem d8_7 : decode prog_50_method_6_code 7 = .ok (.iconst 0, 1) := by decide +kernel
theorem d8_8 : decode prog_50_method_6_code 8 = .ok (.istore_n 3, 1) := by decide +kernel
theorem d8_9 : decode prog_50_method_6_code 9 = .ok (.iload_n 3, 1) := by decide +kernel
theorem d8_10 : decode prog_50_method_6_code 10 = .ok (.iload_n 2, 1) := by decide +kernel
theorem d8_11 : decode prog_50_method_6_code 11 = .ok (.if_icmp .ge 29, 3) := by decide +kernel
theorem d8_14 : decode prog_50_method_6_code 14 = .ok (.aload_n 1, 1) := by decide +kernel
theorem d8_15 : decode prog_50_method_6_code 15 = .ok (.iload_n 3, 1) := by decide +kernel
theorem d8_16 : decode prog_50_method_6_code 16 = .ok (.aaload, 1) := by decide +kernel
theorem d8_17 : decode prog_50_method_6_code 17 = .ok (.astore 4, 2) := by decide +kernel
theorem d8_19 : decode prog_50_method_6_code 19 = .ok (.aload 4, 2) := by decide +kernel
theorem d8_21 : decode prog_50_method_6_code 21 = .ok (.getfield 52, 3) := by decide +kernel
theorem d8_24 : decode prog_50_method_6_code 24 = .ok (.aload_n 0, 1) := by decide +kernel
theorem d8_25 : decode prog_50_method_6_code 25 = .ok (.invokevirtual 58, 3) := by decide +kernel
theorem d8_28 : decode prog_50_method_6_code 28 = .ok (.ifCond .eq 6, 3) := by decide +kernel
theorem d8_31 : decode prog_50_method_6_code 31 = .ok (.aload 4, 2) := by decide +kernel
theorem d8_33 : decode prog_50_method_6_code 33 = .ok (.areturn, 1) := by decide +kernel
theorem d8_34 : decode prog_50_method_6_code 34 = .ok (.iinc 3 1, 3) := by decide +kernel
theorem d8_37 : decode prog_50_method_6_code 37 = .ok (.goto (-28), 3) := by decide +kernel
theorem d8_40 : decode prog_50_method_6_code 40 = .ok (.aconst_null, 1) := by decide +kernel
theorem d8_41 : decode prog_50_method_6_code 41 = .ok (.areturn, 1) := by decide +kernel
def f8_0 (cs : List Int32) (w3 : Addr) (w54 : Addr) (w83 : Addr) : Value := (if (if own_nm1 = cs then (1 : Int32) else 0) = (0 : Int32) then (if (if own_nm2 = cs then (1 : Int32) else 0) = (0 : Int32) then (if (if own_nm3 = cs then (1 : Int32) else 0) = (0 : Int32) then .null else (.ref w83)) else (.ref w54)) else (.ref w3))
set_option maxRecDepth 65536 in
set_option maxHeartbeats 40000000 in
theorem b8_0 {p : Program} {l : Launch} {e : Env} {s : State} {m : MethodId} {args : Array Value} {below : List Frame} {meth : Method} {c : Code} {Z : State} {a0 : Array Value} {h0 : Heap} {n0 : Nat} (C : own_C "lomwright/lom/Entity$Part" prog_50_method_6_code 5 (some (.object "lomwright/lom/Entity$Part")) "of" p s m meth c Z a0) (Z0 : n0 ≤ h0.size) {T0 : State} {locs : List Loc} (X0 : Stand p l e ({ frames := 2, cells := 0, slots := 0, locals := 28 } : Room) s m args below meth c T0 locs 0 0) (e0 : T0.heap = h0) (N0 : Fr n0 locs) (o0 : Addr) (t : Addr) (kb : ClassId) (cs : List Int32) (z : Int32) (G1 : Int32) (w3 : Addr) (w54 : Addr) (w83 : Addr) (w9 : Addr) (w22 : Addr) (w63 : Addr) (w92 : Addr) (w32 : Addr) (w73 : Addr) (w102 : Addr) (k_w9 : ClassId) (k_w32 : ClassId) (k_w73 : ClassId) (k_w102 : ClassId) (OLD : Old Z n0 h0) (E0 : Exa Z h0 o0 "java/lang/String") (FC : Fld Z h0 o0 "java/lang/String" "coder" "B" (.int (0 : Int32))) (FV : Fld Z h0 o0 "java/lang/String" "value" "[B" (.ref t)) (Va : Arv Z h0 t kb .byte z ((cs.map StrChars.lo8).map Value.int) (.int 0)) (O2 : Sta Z Z.heap "java/lang/String" "COMPACT_STRINGS" "Z" (.int G1)) (P5 : ¬ (G1 = (0 : Int32))) (hcd : StrChars.Road.CodA cs 0 z ((cs.map StrChars.lo8).map Value.int)) (hbd : ∀ c ∈ cs, ¬ c < 0 ∧ ¬ (65535 : Int32) < c) (hln : cs.length ≤ 4000) (bSNAME : Sta Z Z.heap "lomwright/lom/Entity$Part" "NAME" "Llomwright/lom/Entity$Part;" (.ref w3)) (bSORG : Sta Z Z.heap "lomwright/lom/Entity$Part" "ORG" "Llomwright/lom/Entity$Part;" (.ref w54)) (bSEMAIL : Sta Z Z.heap "lomwright/lom/Entity$Part" "EMAIL" "Llomwright/lom/Entity$Part;" (.ref w83)) (bSALL : Sta Z Z.heap "lomwright/lom/Entity$Part" "ALL" "[Llomwright/lom/Entity$Part;" (.ref w9)) (bE0 : Fld Z Z.heap w3 "lomwright/lom/Entity$Part" "element" "Ljava/lang/String;" (.ref w22)) (bX0 : Exa Z Z.heap w22 "java/lang/String") (bC0 : Fld Z Z.heap w22 "java/lang/String" "coder" "B" (.int (0 : Int32))) (bV0 : Fld Z Z.heap w22 "java/lang/String" "value" "[B" (.ref w32)) (bE1 : Fld Z Z.heap w54 "lomwright/lom/Entity$Part" "element" "Ljava/lang/String;" (.ref w63)) (bX1 : Exa Z Z.heap w63 "java/lang/String") (bC1 : Fld Z Z.heap w63 "java/lang/String" "coder" "B" (.int (0 : Int32))) (bV1 : Fld Z Z.heap w63 "java/lang/String" "value" "[B" (.ref w73)) (bE2 : Fld Z Z.heap w83 "lomwright/lom/Entity$Part" "element" "Ljava/lang/String;" (.ref w92)) (bX2 : Exa Z Z.heap w92 "java/lang/String") (bC2 : Fld Z Z.heap w92 "java/lang/String" "coder" "B" (.int (0 : Int32))) (bV2 : Fld Z Z.heap w92 "java/lang/String" "value" "[B" (.ref w102)) (bA0 : Arv Z Z.heap w9 k_w9 (.object "lomwright/lom/Entity$Part") (3 : Int32) [(.ref w3), (.ref w54), (.ref w83)] .null) (bA1 : Arv Z Z.heap w32 k_w32 .byte (4 : Int32) [(.int (110 : Int32)), (.int (97 : Int32)), (.int (109 : Int32)), (.int (101 : Int32))] (.int 0)) (bA2 : Arv Z Z.heap w73 k_w73 .byte (3 : Int32) [(.int (111 : Int32)), (.int (114 : Int32)), (.int (103 : Int32))] (.int 0)) (bA3 : Arv Z Z.heap w102 k_w102 .byte (5 : Int32) [(.int (101 : Int32)), (.int (109 : Int32)), (.int (97 : Int32)), (.int (105 : Int32)), (.int (108 : Int32))] (.int 0)) (W : Value) (hv : W = f8_0 cs w3 w54 w83) :
    own_Ends p e below s ({ frames := 2, cells := 0, slots := 0, locals := 28 } : Room).cells ({ frames := 2, cells := 0, slots := 0, locals := 28 } : Room).slots (own_Q n0 h0 (some W)) T0 (mkF m 0 #[.val (.ref o0), .unset, .unset, .unset, .unset] []) := by
  obtain ⟨hx, hZ, hw, hby, hml, hown, hret, hlk, hnm⟩ := C
  have C : own_C "lomwright/lom/Entity$Part" prog_50_method_6_code 5 (some (.object "lomwright/lom/Entity$Part")) "of" p s m meth c Z a0 := ⟨hx, hZ, hw, hby, hml, hown, hret, hlk, hnm⟩
  unfold f8_0 at hv
  obtain ⟨T12, X12, e12, st12⟩ := getS2 X0 hx hZ hown (host := "") (Or.inl (hw _ (List.mem_of_getElem? (i := 40) rfl))) Via.refl e0 (bSALL.ext OLD.2) (g := (mkF m 0 #[.val (.ref o0), .unset, .unset, .unset, .unset] [])) rfl (hb hby d8_0)
  refine own_step st12 ?_
  show own_Ends p e below s _ _ _ T12 (mkF m 3 #[.val (.ref o0), .unset, .unset, .unset, .unset] [(.ref w9)])
  refine own_step (fun _ => XS.astoreN X12.here hx rfl (hb hby d8_3) rfl rfl (l' := #[.val (.ref o0), .val (.ref w9), .unset, .unset, .unset]) rfl) ?_
  show own_Ends p e below s _ _ _ T12 (mkF m 4 #[.val (.ref o0), .val (.ref w9), .unset, .unset, .unset] [])
  refine own_step (fun _ => XS.aloadN X12.here hx rfl (hb hby d8_4) rfl rfl) ?_
  show own_Ends p e below s _ _ _ T12 (mkF m 5 #[.val (.ref o0), .val (.ref w9), .unset, .unset, .unset] [(.ref w9)])
  obtain ⟨cl13, Ar13, q13, S13, N13_, H13, G13⟩ := id (bA0.ext OLD.2)
  refine own_step (fun _ => X12.arraylength hx (by rw [e12]; exact Ar13.1) (State.isArrayOf_alike hZ.alike Ar13.2.1) (g := (mkF m 5 #[.val (.ref o0), .val (.ref w9), .unset, .unset, .unset] [(.ref w9)])) rfl rfl (hb hby d8_5) _) ?_
  rw [len_of S13 N13_]
  show own_Ends p e below s _ _ _ T12 (mkF m 6 #[.val (.ref o0), .val (.ref w9), .unset, .unset, .unset] [(.int (3 : Int32))])
  refine own_step (fun _ => XS.istoreN X12.here hx rfl (hb hby d8_6) rfl (l' := #[.val (.ref o0), .val (.ref w9), .val (.int (3 : Int32)), .unset, .unset]) rfl) ?_
  show own_Ends p e below s _ _ _ T12 (mkF m 7 #[.val (.ref o0), .val (.ref w9), .val (.int (3 : Int32)), .unset, .unset] [])
  refine own_step (fun _ => XS.iconst X12.here hx rfl (hb hby d8_7)) ?_
  show own_Ends p e below s _ _ _ T12 (mkF m 8 #[.val (.ref o0), .val (.ref w9), .val (.int (3 : Int32)), .unset, .unset] [(.int (0 : Int32))])
  refine own_step (fun _ => XS.istoreN X12.here hx rfl (hb hby d8_8) rfl (l' := #[.val (.ref o0), .val (.ref w9), .val (.int (3 : Int32)), .val (.int (0 : Int32)), .unset]) rfl) ?_
  show own_Ends p e below s _ _ _ T12 (mkF m 9 #[.val (.ref o0), .val (.ref w9), .val (.int (3 : Int32)), .val (.int (0 : Int32)), .unset] [])
  refine own_step (fun _ => XS.iloadN X12.here hx rfl (hb hby d8_9) rfl) ?_
  show own_Ends p e below s _ _ _ T12 (mkF m 10 #[.val (.ref o0), .val (.ref w9), .val (.int (3 : Int32)), .val (.int (0 : Int32)), .unset] [(.int (0 : Int32))])
  refine own_step (fun _ => XS.iloadN X12.here hx rfl (hb hby d8_10) rfl) ?_
  show own_Ends p e below s _ _ _ T12 (mkF m 11 #[.val (.ref o0), .val (.ref w9), .val (.int (3 : Int32)), .val (.int (0 : Int32)), .unset] [(.int (3 : Int32)), (.int (0 : Int32))])
  refine own_step (fun _ => XS.icmpNo X12.here hx rfl (hb hby d8_11) rfl (tlt (show (0 : Int32) < (3 : Int32) from (by decide))).2.1) ?_
  show own_Ends p e below s _ _ _ T12 (mkF m 14 #[.val (.ref o0), .val (.ref w9), .val (.int (3 : Int32)), .val (.int (0 : Int32)), .unset] [])
  refine own_step (fun _ => XS.aloadN X12.here hx rfl (hb hby d8_14) rfl rfl) ?_
  show own_Ends p e below s _ _ _ T12 (mkF m 15 #[.val (.ref o0), .val (.ref w9), .val (.int (3 : Int32)), .val (.int (0 : Int32)), .unset] [(.ref w9)])
  refine own_step (fun _ => XS.iloadN X12.here hx rfl (hb hby d8_15) rfl) ?_
  show own_Ends p e below s _ _ _ T12 (mkF m 16 #[.val (.ref o0), .val (.ref w9), .val (.int (3 : Int32)), .val (.int (0 : Int32)), .unset] [(.int (0 : Int32)), (.ref w9)])
  obtain ⟨cl14, Ar14, q14, S14, N14_, H14, G14⟩ := id (bA0.ext OLD.2)
  have hin14 : ¬ ((0 : Int32) < 0 ∨ cl14.slots.size ≤ ((0 : Int32)).toNatClampNeg) := inb_of S14 ⟨by decide, by decide⟩
  have hat14 : cl14.slots[((0 : Int32)).toNatClampNeg]? = some (.ref w3) := H14.at hin14 rfl
  refine own_step (fun _ => X12.aaload hx (j := (0 : Int32)) (v := (.ref w3)) (by rw [e12]; exact Ar14.1) (State.isArrayOf_alike hZ.alike Ar14.2.1) rfl Ar14.2.2 hin14 hat14 (g := (mkF m 16 #[.val (.ref o0), .val (.ref w9), .val (.int (3 : Int32)), .val (.int (0 : Int32)), .unset] [(.int (0 : Int32)), (.ref w9)])) rfl rfl (hb hby d8_16) _) ?_
  show own_Ends p e below s _ _ _ T12 (mkF m 17 #[.val (.ref o0), .val (.ref w9), .val (.int (3 : Int32)), .val (.int (0 : Int32)), .unset] [(.ref w3)])
  refine own_step (fun _ => XS.astore X12.here hx rfl (hb hby d8_17) rfl rfl (l' := #[.val (.ref o0), .val (.ref w9), .val (.int (3 : Int32)), .val (.int (0 : Int32)), .val (.ref w3)]) rfl) ?_
  show own_Ends p e below s _ _ _ T12 (mkF m 19 #[.val (.ref o0), .val (.ref w9), .val (.int (3 : Int32)), .val (.int (0 : Int32)), .val (.ref w3)] [])
  refine own_step (fun _ => XS.aload X12.here hx rfl (hb hby d8_19) rfl rfl) ?_
  show own_Ends p e below s _ _ _ T12 (mkF m 21 #[.val (.ref o0), .val (.ref w9), .val (.int (3 : Int32)), .val (.int (0 : Int32)), .val (.ref w3)] [(.ref w3)])
  obtain ⟨T15, X15, e15, st15⟩ := getF X12 hx hZ hown (host := "") (Or.inl (hw _ (List.mem_of_getElem? (i := 42) rfl))) Via.refl e12 (bE0.ext OLD.2) (g := (mkF m 21 #[.val (.ref o0), .val (.ref w9), .val (.int (3 : Int32)), .val (.int (0 : Int32)), .val (.ref w3)] [(.ref w3)])) rfl rfl (hb hby d8_21)
  refine own_step st15 ?_
  show own_Ends p e below s _ _ _ T15 (mkF m 24 #[.val (.ref o0), .val (.ref w9), .val (.int (3 : Int32)), .val (.int (0 : Int32)), .val (.ref w3)] [(.ref w22)])
  refine own_step (fun _ => XS.aloadN X15.here hx rfl (hb hby d8_24) rfl rfl) ?_
  show own_Ends p e below s _ _ _ T15 (mkF m 25 #[.val (.ref o0), .val (.ref w9), .val (.int (3 : Int32)), .val (.int (0 : Int32)), .val (.ref w3)] [(.ref o0), (.ref w22)])
  obtain ⟨cq16, kq16, q16a, q16b, q16c⟩ := isOf hZ e15 (bX0.ext OLD.2)
  obtain ⟨_, _, ⟨T16, L16, k16, n16⟩, -, X16, ⟨Lc16, hQ16, l16, y16, z16⟩, st16⟩ := X15.virtualBack hx (y := (⟨"java/lang/String", "equals", "(Ljava/lang/Object;)Z"⟩ : MethodName)) (z := (⟨"java/lang/String", "equals", "(Ljava/lang/Object;)Z"⟩ : MethodName)) hown (mvT hZ (hw _ (List.mem_of_getElem? (i := 44) rfl))) (mvT hZ (hw _ (List.mem_of_getElem? (i := 45) rfl))) (notFace_of_selects (args := #[]) (mvT hZ (hw _ (List.mem_of_getElem? (i := 47) rfl)))) (mvT hZ (hw _ (List.mem_of_getElem? (i := 47) rfl))) (mvT hZ (hw _ (List.mem_of_getElem? (i := 46) rfl))) (by decide) (StrChars.Road.eqW (W := 0) hZ (own_weq hw) (kI := 4) (hw _ (List.mem_of_getElem? (i := 6) rfl)) (bX0.ext OLD.2) (bV0.ext OLD.2) (bC0.ext OLD.2) (bA1.ext OLD.2) own_cd1 own_bd1 (by decide) E0 FV FC Va hcd hbd hln (O2.ext OLD.2) P5 (by decide) (by decide)) q16a q16c (g := (mkF m 25 #[.val (.ref o0), .val (.ref w9), .val (.int (3 : Int32)), .val (.int (0 : Int32)), .val (.ref w3)] [(.ref o0), (.ref w22)])) rfl (by rw [hml]; rfl) (Steps.refl _) (argsL := [(.ref o0)]) (rest := []) (lenOf pd_2 rfl) rfl (by show 2 * 0 + _ ≤ _; exact Nat.le_of_eq rfl) (hb hby d8_25) (fun _ _ => ⟨rfl, e15, (by decide : 0 + 0 ≤ _), (by decide : 0 + 0 ≤ _)⟩)
  dsimp only [Pt.U, Pt.locs, Pt.cells, Pt.slots] at X16 l16 y16 z16 st16 hQ16
  subst l16 y16 z16
  obtain ⟨hcase16, rfl, hh16⟩ := hQ16
  obtain rfl := own_eqv hcase16
  have N16 := Fr.app N0 (Fr.nil n0)
  refine own_step (fun _ => st16.trans) ?_
  show own_Ends p e below s _ _ _ T16 (mkF m 28 #[.val (.ref o0), .val (.ref w9), .val (.int (3 : Int32)), .val (.int (0 : Int32)), .val (.ref w3)] [(.int (if own_nm1 = cs then (1 : Int32) else 0))])
  by_cases hc28 : (if own_nm1 = cs then (1 : Int32) else 0) = (0 : Int32)
  · have hv_t := hv.trans (if_pos hc28)
    refine own_step (fun _ => XS.ifYes X16.here hx rfl (pc0 := 28) (pc' := 34) rfl (hb hby d8_28) rfl ((if0 _ _).trans (teq hc28).1) (by decide) (by decide)) ?_
    show own_Ends p e below s _ _ _ T16 (mkF m 34 #[.val (.ref o0), .val (.ref w9), .val (.int (3 : Int32)), .val (.int (0 : Int32)), .val (.ref w3)] [])
    refine own_step (fun _ => XS.iinc X16.here hx rfl (hb hby d8_34) rfl (l' := #[.val (.ref o0), .val (.ref w9), .val (.int (3 : Int32)), .val (.int (1 : Int32)), .val (.ref w3)]) rfl) ?_
    show own_Ends p e below s _ _ _ T16 (mkF m 37 #[.val (.ref o0), .val (.ref w9), .val (.int (3 : Int32)), .val (.int (1 : Int32)), .val (.ref w3)] [])
    refine own_step (fun _ => XS.goto X16.here hx rfl (pc0 := 37) (pc' := 9) rfl (hb hby d8_37) (by decide) (by decide)) ?_
    show own_Ends p e below s _ _ _ T16 (mkF m 9 #[.val (.ref o0), .val (.ref w9), .val (.int (3 : Int32)), .val (.int (1 : Int32)), .val (.ref w3)] [])
    refine own_step (fun _ => XS.iloadN X16.here hx rfl (hb hby d8_9) rfl) ?_
    show own_Ends p e below s _ _ _ T16 (mkF m 10 #[.val (.ref o0), .val (.ref w9), .val (.int (3 : Int32)), .val (.int (1 : Int32)), .val (.ref w3)] [(.int (1 : Int32))])
    refine own_step (fun _ => XS.iloadN X16.here hx rfl (hb hby d8_10) rfl) ?_
    show own_Ends p e below s _ _ _ T16 (mkF m 11 #[.val (.ref o0), .val (.ref w9), .val (.int (3 : Int32)), .val (.int (1 : Int32)), .val (.ref w3)] [(.int (3 : Int32)), (.int (1 : Int32))])
    refine own_step (fun _ => XS.icmpNo X16.here hx rfl (hb hby d8_11) rfl (tlt (show (1 : Int32) < (3 : Int32) from (by decide))).2.1) ?_
    show own_Ends p e below s _ _ _ T16 (mkF m 14 #[.val (.ref o0), .val (.ref w9), .val (.int (3 : Int32)), .val (.int (1 : Int32)), .val (.ref w3)] [])
    refine own_step (fun _ => XS.aloadN X16.here hx rfl (hb hby d8_14) rfl rfl) ?_
    show own_Ends p e below s _ _ _ T16 (mkF m 15 #[.val (.ref o0), .val (.ref w9), .val (.int (3 : Int32)), .val (.int (1 : Int32)), .val (.ref w3)] [(.ref w9)])
    refine own_step (fun _ => XS.iloadN X16.here hx rfl (hb hby d8_15) rfl) ?_
    show own_Ends p e below s _ _ _ T16 (mkF m 16 #[.val (.ref o0), .val (.ref w9), .val (.int (3 : Int32)), .val (.int (1 : Int32)), .val (.ref w3)] [(.int (1 : Int32)), (.ref w9)])
    obtain ⟨cl17, Ar17, q17, S17, N17_, H17, G17⟩ := id (bA0.ext OLD.2)
    have hin17 : ¬ ((1 : Int32) < 0 ∨ cl17.slots.size ≤ ((1 : Int32)).toNatClampNeg) := inb_of S17 ⟨by decide, by decide⟩
    have hat17 : cl17.slots[((1 : Int32)).toNatClampNeg]? = some (.ref w54) := H17.at hin17 rfl
    refine own_step (fun _ => X16.aaload hx (j := (1 : Int32)) (v := (.ref w54)) (by rw [hh16]; exact Ar17.1) (State.isArrayOf_alike hZ.alike Ar17.2.1) rfl Ar17.2.2 hin17 hat17 (g := (mkF m 16 #[.val (.ref o0), .val (.ref w9), .val (.int (3 : Int32)), .val (.int (1 : Int32)), .val (.ref w3)] [(.int (1 : Int32)), (.ref w9)])) rfl rfl (hb hby d8_16) _) ?_
    show own_Ends p e below s _ _ _ T16 (mkF m 17 #[.val (.ref o0), .val (.ref w9), .val (.int (3 : Int32)), .val (.int (1 : Int32)), .val (.ref w3)] [(.ref w54)])
    refine own_step (fun _ => XS.astore X16.here hx rfl (hb hby d8_17) rfl rfl (l' := #[.val (.ref o0), .val (.ref w9), .val (.int (3 : Int32)), .val (.int (1 : Int32)), .val (.ref w54)]) rfl) ?_
    show own_Ends p e below s _ _ _ T16 (mkF m 19 #[.val (.ref o0), .val (.ref w9), .val (.int (3 : Int32)), .val (.int (1 : Int32)), .val (.ref w54)] [])
    refine own_step (fun _ => XS.aload X16.here hx rfl (hb hby d8_19) rfl rfl) ?_
    show own_Ends p e below s _ _ _ T16 (mkF m 21 #[.val (.ref o0), .val (.ref w9), .val (.int (3 : Int32)), .val (.int (1 : Int32)), .val (.ref w54)] [(.ref w54)])
    obtain ⟨T18, X18, e18, st18⟩ := getF X16 hx hZ hown (host := "") (Or.inl (hw _ (List.mem_of_getElem? (i := 42) rfl))) Via.refl hh16 (bE1.ext OLD.2) (g := (mkF m 21 #[.val (.ref o0), .val (.ref w9), .val (.int (3 : Int32)), .val (.int (1 : Int32)), .val (.ref w54)] [(.ref w54)])) rfl rfl (hb hby d8_21)
    refine own_step st18 ?_
    show own_Ends p e below s _ _ _ T18 (mkF m 24 #[.val (.ref o0), .val (.ref w9), .val (.int (3 : Int32)), .val (.int (1 : Int32)), .val (.ref w54)] [(.ref w63)])
    refine own_step (fun _ => XS.aloadN X18.here hx rfl (hb hby d8_24) rfl rfl) ?_
    show own_Ends p e below s _ _ _ T18 (mkF m 25 #[.val (.ref o0), .val (.ref w9), .val (.int (3 : Int32)), .val (.int (1 : Int32)), .val (.ref w54)] [(.ref o0), (.ref w63)])
    obtain ⟨cq19, kq19, q19a, q19b, q19c⟩ := isOf hZ e18 (bX1.ext OLD.2)
    obtain ⟨_, _, ⟨T19, L19, k19, n19⟩, -, X19, ⟨Lc19, hQ19, l19, y19, z19⟩, st19⟩ := X18.virtualBack hx (y := (⟨"java/lang/String", "equals", "(Ljava/lang/Object;)Z"⟩ : MethodName)) (z := (⟨"java/lang/String", "equals", "(Ljava/lang/Object;)Z"⟩ : MethodName)) hown (mvT hZ (hw _ (List.mem_of_getElem? (i := 44) rfl))) (mvT hZ (hw _ (List.mem_of_getElem? (i := 45) rfl))) (notFace_of_selects (args := #[]) (mvT hZ (hw _ (List.mem_of_getElem? (i := 47) rfl)))) (mvT hZ (hw _ (List.mem_of_getElem? (i := 47) rfl))) (mvT hZ (hw _ (List.mem_of_getElem? (i := 46) rfl))) (by decide) (StrChars.Road.eqW (W := 0) hZ (own_weq hw) (kI := 4) (hw _ (List.mem_of_getElem? (i := 6) rfl)) (bX1.ext OLD.2) (bV1.ext OLD.2) (bC1.ext OLD.2) (bA2.ext OLD.2) own_cd2 own_bd2 (by decide) E0 FV FC Va hcd hbd hln (O2.ext OLD.2) P5 (by decide) (by decide)) q19a q19c (g := (mkF m 25 #[.val (.ref o0), .val (.ref w9), .val (.int (3 : Int32)), .val (.int (1 : Int32)), .val (.ref w54)] [(.ref o0), (.ref w63)])) rfl (by rw [hml]; rfl) (Steps.refl _) (argsL := [(.ref o0)]) (rest := []) (lenOf pd_2 rfl) rfl (by show 2 * 0 + _ ≤ _; exact Nat.le_of_eq rfl) (hb hby d8_25) (fun _ _ => ⟨rfl, e18, (by decide : 0 + 0 ≤ _), (by decide : 0 + 0 ≤ _)⟩)
    dsimp only [Pt.U, Pt.locs, Pt.cells, Pt.slots] at X19 l19 y19 z19 st19 hQ19
    subst l19 y19 z19
    obtain ⟨hcase19, rfl, hh19⟩ := hQ19
    obtain rfl := own_eqv hcase19
    have N19 := Fr.app N16 (Fr.nil n0)
    refine own_step (fun _ => st19.trans) ?_
    show own_Ends p e below s _ _ _ T19 (mkF m 28 #[.val (.ref o0), .val (.ref w9), .val (.int (3 : Int32)), .val (.int (1 : Int32)), .val (.ref w54)] [(.int (if own_nm2 = cs then (1 : Int32) else 0))])
    by_cases hc28 : (if own_nm2 = cs then (1 : Int32) else 0) = (0 : Int32)
    · have hv_t_t := hv_t.trans (if_pos hc28)
      refine own_step (fun _ => XS.ifYes X19.here hx rfl (pc0 := 28) (pc' := 34) rfl (hb hby d8_28) rfl ((if0 _ _).trans (teq hc28).1) (by decide) (by decide)) ?_
      show own_Ends p e below s _ _ _ T19 (mkF m 34 #[.val (.ref o0), .val (.ref w9), .val (.int (3 : Int32)), .val (.int (1 : Int32)), .val (.ref w54)] [])
      refine own_step (fun _ => XS.iinc X19.here hx rfl (hb hby d8_34) rfl (l' := #[.val (.ref o0), .val (.ref w9), .val (.int (3 : Int32)), .val (.int (2 : Int32)), .val (.ref w54)]) rfl) ?_
      show own_Ends p e below s _ _ _ T19 (mkF m 37 #[.val (.ref o0), .val (.ref w9), .val (.int (3 : Int32)), .val (.int (2 : Int32)), .val (.ref w54)] [])
      refine own_step (fun _ => XS.goto X19.here hx rfl (pc0 := 37) (pc' := 9) rfl (hb hby d8_37) (by decide) (by decide)) ?_
      show own_Ends p e below s _ _ _ T19 (mkF m 9 #[.val (.ref o0), .val (.ref w9), .val (.int (3 : Int32)), .val (.int (2 : Int32)), .val (.ref w54)] [])
      refine own_step (fun _ => XS.iloadN X19.here hx rfl (hb hby d8_9) rfl) ?_
      show own_Ends p e below s _ _ _ T19 (mkF m 10 #[.val (.ref o0), .val (.ref w9), .val (.int (3 : Int32)), .val (.int (2 : Int32)), .val (.ref w54)] [(.int (2 : Int32))])
      refine own_step (fun _ => XS.iloadN X19.here hx rfl (hb hby d8_10) rfl) ?_
      show own_Ends p e below s _ _ _ T19 (mkF m 11 #[.val (.ref o0), .val (.ref w9), .val (.int (3 : Int32)), .val (.int (2 : Int32)), .val (.ref w54)] [(.int (3 : Int32)), (.int (2 : Int32))])
      refine own_step (fun _ => XS.icmpNo X19.here hx rfl (hb hby d8_11) rfl (tlt (show (2 : Int32) < (3 : Int32) from (by decide))).2.1) ?_
      show own_Ends p e below s _ _ _ T19 (mkF m 14 #[.val (.ref o0), .val (.ref w9), .val (.int (3 : Int32)), .val (.int (2 : Int32)), .val (.ref w54)] [])
      refine own_step (fun _ => XS.aloadN X19.here hx rfl (hb hby d8_14) rfl rfl) ?_
      show own_Ends p e below s _ _ _ T19 (mkF m 15 #[.val (.ref o0), .val (.ref w9), .val (.int (3 : Int32)), .val (.int (2 : Int32)), .val (.ref w54)] [(.ref w9)])
      refine own_step (fun _ => XS.iloadN X19.here hx rfl (hb hby d8_15) rfl) ?_
      show own_Ends p e below s _ _ _ T19 (mkF m 16 #[.val (.ref o0), .val (.ref w9), .val (.int (3 : Int32)), .val (.int (2 : Int32)), .val (.ref w54)] [(.int (2 : Int32)), (.ref w9)])
      obtain ⟨cl20, Ar20, q20, S20, N20_, H20, G20⟩ := id (bA0.ext OLD.2)
      have hin20 : ¬ ((2 : Int32) < 0 ∨ cl20.slots.size ≤ ((2 : Int32)).toNatClampNeg) := inb_of S20 ⟨by decide, by decide⟩
      have hat20 : cl20.slots[((2 : Int32)).toNatClampNeg]? = some (.ref w83) := H20.at hin20 rfl
      refine own_step (fun _ => X19.aaload hx (j := (2 : Int32)) (v := (.ref w83)) (by rw [hh19]; exact Ar20.1) (State.isArrayOf_alike hZ.alike Ar20.2.1) rfl Ar20.2.2 hin20 hat20 (g := (mkF m 16 #[.val (.ref o0), .val (.ref w9), .val (.int (3 : Int32)), .val (.int (2 : Int32)), .val (.ref w54)] [(.int (2 : Int32)), (.ref w9)])) rfl rfl (hb hby d8_16) _) ?_
      show own_Ends p e below s _ _ _ T19 (mkF m 17 #[.val (.ref o0), .val (.ref w9), .val (.int (3 : Int32)), .val (.int (2 : Int32)), .val (.ref w54)] [(.ref w83)])
      refine own_step (fun _ => XS.astore X19.here hx rfl (hb hby d8_17) rfl rfl (l' := #[.val (.ref o0), .val (.ref w9), .val (.int (3 : Int32)), .val (.int (2 : Int32)), .val (.ref w83)]) rfl) ?_
      show own_Ends p e below s _ _ _ T19 (mkF m 19 #[.val (.ref o0), .val (.ref w9), .val (.int (3 : Int32)), .val (.int (2 : Int32)), .val (.ref w83)] [])
      refine own_step (fun _ => XS.aload X19.here hx rfl (hb hby d8_19) rfl rfl) ?_
      show own_Ends p e below s _ _ _ T19 (mkF m 21 #[.val (.ref o0), .val (.ref w9), .val (.int (3 : Int32)), .val (.int (2 : Int32)), .val (.ref w83)] [(.ref w83)])
      obtain ⟨T21, X21, e21, st21⟩ := getF X19 hx hZ hown (host := "") (Or.inl (hw _ (List.mem_of_getElem? (i := 42) rfl))) Via.refl hh19 (bE2.ext OLD.2) (g := (mkF m 21 #[.val (.ref o0), .val (.ref w9), .val (.int (3 : Int32)), .val (.int (2 : Int32)), .val (.ref w83)] [(.ref w83)])) rfl rfl (hb hby d8_21)
      refine own_step st21 ?_
      show own_Ends p e below s _ _ _ T21 (mkF m 24 #[.val (.ref o0), .val (.ref w9), .val (.int (3 : Int32)), .val (.int (2 : Int32)), .val (.ref w83)] [(.ref w92)])
      refine own_step (fun _ => XS.aloadN X21.here hx rfl (hb hby d8_24) rfl rfl) ?_
      show own_Ends p e below s _ _ _ T21 (mkF m 25 #[.val (.ref o0), .val (.ref w9), .val (.int (3 : Int32)), .val (.int (2 : Int32)), .val (.ref w83)] [(.ref o0), (.ref w92)])
      obtain ⟨cq22, kq22, q22a, q22b, q22c⟩ := isOf hZ e21 (bX2.ext OLD.2)
      obtain ⟨_, _, ⟨T22, L22, k22, n22⟩, -, X22, ⟨Lc22, hQ22, l22, y22, z22⟩, st22⟩ := X21.virtualBack hx (y := (⟨"java/lang/String", "equals", "(Ljava/lang/Object;)Z"⟩ : MethodName)) (z := (⟨"java/lang/String", "equals", "(Ljava/lang/Object;)Z"⟩ : MethodName)) hown (mvT hZ (hw _ (List.mem_of_getElem? (i := 44) rfl))) (mvT hZ (hw _ (List.mem_of_getElem? (i := 45) rfl))) (notFace_of_selects (args := #[]) (mvT hZ (hw _ (List.mem_of_getElem? (i := 47) rfl)))) (mvT hZ (hw _ (List.mem_of_getElem? (i := 47) rfl))) (mvT hZ (hw _ (List.mem_of_getElem? (i := 46) rfl))) (by decide) (StrChars.Road.eqW (W := 0) hZ (own_weq hw) (kI := 4) (hw _ (List.mem_of_getElem? (i := 6) rfl)) (bX2.ext OLD.2) (bV2.ext OLD.2) (bC2.ext OLD.2) (bA3.ext OLD.2) own_cd3 own_bd3 (by decide) E0 FV FC Va hcd hbd hln (O2.ext OLD.2) P5 (by decide) (by decide)) q22a q22c (g := (mkF m 25 #[.val (.ref o0), .val (.ref w9), .val (.int (3 : Int32)), .val (.int (2 : Int32)), .val (.ref w83)] [(.ref o0), (.ref w92)])) rfl (by rw [hml]; rfl) (Steps.refl _) (argsL := [(.ref o0)]) (rest := []) (lenOf pd_2 rfl) rfl (by show 2 * 0 + _ ≤ _; exact Nat.le_of_eq rfl) (hb hby d8_25) (fun _ _ => ⟨rfl, e21, (by decide : 0 + 0 ≤ _), (by decide : 0 + 0 ≤ _)⟩)
      dsimp only [Pt.U, Pt.locs, Pt.cells, Pt.slots] at X22 l22 y22 z22 st22 hQ22
      subst l22 y22 z22
      obtain ⟨hcase22, rfl, hh22⟩ := hQ22
      obtain rfl := own_eqv hcase22
      have N22 := Fr.app N19 (Fr.nil n0)
      refine own_step (fun _ => st22.trans) ?_
      show own_Ends p e below s _ _ _ T22 (mkF m 28 #[.val (.ref o0), .val (.ref w9), .val (.int (3 : Int32)), .val (.int (2 : Int32)), .val (.ref w83)] [(.int (if own_nm3 = cs then (1 : Int32) else 0))])
      by_cases hc28 : (if own_nm3 = cs then (1 : Int32) else 0) = (0 : Int32)
      · have hv_t_t_t := hv_t_t.trans (if_pos hc28)
        refine own_step (fun _ => XS.ifYes X22.here hx rfl (pc0 := 28) (pc' := 34) rfl (hb hby d8_28) rfl ((if0 _ _).trans (teq hc28).1) (by decide) (by decide)) ?_
        show own_Ends p e below s _ _ _ T22 (mkF m 34 #[.val (.ref o0), .val (.ref w9), .val (.int (3 : Int32)), .val (.int (2 : Int32)), .val (.ref w83)] [])
        refine own_step (fun _ => XS.iinc X22.here hx rfl (hb hby d8_34) rfl (l' := #[.val (.ref o0), .val (.ref w9), .val (.int (3 : Int32)), .val (.int (3 : Int32)), .val (.ref w83)]) rfl) ?_
        show own_Ends p e below s _ _ _ T22 (mkF m 37 #[.val (.ref o0), .val (.ref w9), .val (.int (3 : Int32)), .val (.int (3 : Int32)), .val (.ref w83)] [])
        refine own_step (fun _ => XS.goto X22.here hx rfl (pc0 := 37) (pc' := 9) rfl (hb hby d8_37) (by decide) (by decide)) ?_
        show own_Ends p e below s _ _ _ T22 (mkF m 9 #[.val (.ref o0), .val (.ref w9), .val (.int (3 : Int32)), .val (.int (3 : Int32)), .val (.ref w83)] [])
        refine own_step (fun _ => XS.iloadN X22.here hx rfl (hb hby d8_9) rfl) ?_
        show own_Ends p e below s _ _ _ T22 (mkF m 10 #[.val (.ref o0), .val (.ref w9), .val (.int (3 : Int32)), .val (.int (3 : Int32)), .val (.ref w83)] [(.int (3 : Int32))])
        refine own_step (fun _ => XS.iloadN X22.here hx rfl (hb hby d8_10) rfl) ?_
        show own_Ends p e below s _ _ _ T22 (mkF m 11 #[.val (.ref o0), .val (.ref w9), .val (.int (3 : Int32)), .val (.int (3 : Int32)), .val (.ref w83)] [(.int (3 : Int32)), (.int (3 : Int32))])
        refine own_step (fun _ => XS.icmpYes X22.here hx rfl (pc0 := 11) (pc' := 40) rfl (hb hby d8_11) rfl (flt (show ¬ ((3 : Int32) < (3 : Int32)) from (by decide))).2.1 (by decide) (by decide)) ?_
        show own_Ends p e below s _ _ _ T22 (mkF m 40 #[.val (.ref o0), .val (.ref w9), .val (.int (3 : Int32)), .val (.int (3 : Int32)), .val (.ref w83)] [])
        refine own_step (fun _ => XS.aconstNull X22.here hx rfl (hb hby d8_40)) ?_
        show own_Ends p e below s _ _ _ T22 (mkF m 41 #[.val (.ref o0), .val (.ref w9), .val (.int (3 : Int32)), .val (.int (3 : Int32)), .val (.ref w83)] [.null])
        exact own_retR X22 hx hret hlk (hb hby d8_41) (by decide) (by decide) rfl rfl ⟨congrArg (fun z => some (id z)) hv_t_t_t.symm, N22, hh22⟩
      · have hv_t_t_f := hv_t_t.trans (if_neg hc28)
        refine own_step (fun _ => XS.ifNo X22.here hx rfl (hb hby d8_28) rfl ((if0 _ _).trans (feq hc28).1)) ?_
        show own_Ends p e below s _ _ _ T22 (mkF m 31 #[.val (.ref o0), .val (.ref w9), .val (.int (3 : Int32)), .val (.int (2 : Int32)), .val (.ref w83)] [])
        refine own_step (fun _ => XS.aload X22.here hx rfl (hb hby d8_31) rfl rfl) ?_
        show own_Ends p e below s _ _ _ T22 (mkF m 33 #[.val (.ref o0), .val (.ref w9), .val (.int (3 : Int32)), .val (.int (2 : Int32)), .val (.ref w83)] [(.ref w83)])
        exact own_retR X22 hx hret hlk (hb hby d8_33) (by decide) (by decide) rfl rfl ⟨congrArg (fun z => some (id z)) hv_t_t_f.symm, N22, hh22⟩
    · have hv_t_f := hv_t.trans (if_neg hc28)
      refine own_step (fun _ => XS.ifNo X19.here hx rfl (hb hby d8_28) rfl ((if0 _ _).trans (feq hc28).1)) ?_
      show own_Ends p e below s _ _ _ T19 (mkF m 31 #[.val (.ref o0), .val (.ref w9), .val (.int (3 : Int32)), .val (.int (1 : Int32)), .val (.ref w54)] [])
      refine own_step (fun _ => XS.aload X19.here hx rfl (hb hby d8_31) rfl rfl) ?_
      show own_Ends p e below s _ _ _ T19 (mkF m 33 #[.val (.ref o0), .val (.ref w9), .val (.int (3 : Int32)), .val (.int (1 : Int32)), .val (.ref w54)] [(.ref w54)])
      exact own_retR X19 hx hret hlk (hb hby d8_33) (by decide) (by decide) rfl rfl ⟨congrArg (fun z => some (id z)) hv_t_f.symm, N19, hh19⟩
  · have hv_f := hv.trans (if_neg hc28)
    refine own_step (fun _ => XS.ifNo X16.here hx rfl (hb hby d8_28) rfl ((if0 _ _).trans (feq hc28).1)) ?_
    show own_Ends p e below s _ _ _ T16 (mkF m 31 #[.val (.ref o0), .val (.ref w9), .val (.int (3 : Int32)), .val (.int (0 : Int32)), .val (.ref w3)] [])
    refine own_step (fun _ => XS.aload X16.here hx rfl (hb hby d8_31) rfl rfl) ?_
    show own_Ends p e below s _ _ _ T16 (mkF m 33 #[.val (.ref o0), .val (.ref w9), .val (.int (3 : Int32)), .val (.int (0 : Int32)), .val (.ref w3)] [(.ref w3)])
    exact own_retR X16 hx hret hlk (hb hby d8_33) (by decide) (by decide) rfl rfl ⟨congrArg (fun z => some (id z)) hv_f.symm, N16, hh16⟩
theorem ef_rm8 (m : MethodId) (o0 : Addr) : entryFrame m #[(.ref o0)] 5 = mkF m 0 #[.val (.ref o0), .unset, .unset, .unset, .unset] [] := by first | (simp [entryFrame, mkF, argsToLocals, Value.category]; done) | rfl
set_option maxRecDepth 65536 in
set_option maxHeartbeats 40000000 in
theorem rm8 (l : Launch) (Z : State) (a0 : Array Value) (hw : ∀ d ∈ tables_1, d.before a0 Z = true) (ws : List Jvm.Cond) (o0 : Addr) (t : Addr) (kb : ClassId) (cs : List Int32) (z : Int32) (G1 : Int32) (w3 : Addr) (w54 : Addr) (w83 : Addr) (w9 : Addr) (w22 : Addr) (w63 : Addr) (w92 : Addr) (w32 : Addr) (w73 : Addr) (w102 : Addr) (k_w9 : ClassId) (k_w32 : ClassId) (k_w73 : ClassId) (k_w102 : ClassId) (h0 : Heap) (n0 : Nat) (Z0 : n0 ≤ h0.size) (OLD : Old Z n0 h0) (E0 : Exa Z h0 o0 "java/lang/String") (FC : Fld Z h0 o0 "java/lang/String" "coder" "B" (.int (0 : Int32))) (FV : Fld Z h0 o0 "java/lang/String" "value" "[B" (.ref t)) (Va : Arv Z h0 t kb .byte z ((cs.map StrChars.lo8).map Value.int) (.int 0)) (O2 : Sta Z Z.heap "java/lang/String" "COMPACT_STRINGS" "Z" (.int G1)) (P5 : ¬ (G1 = (0 : Int32))) (hcd : StrChars.Road.CodA cs 0 z ((cs.map StrChars.lo8).map Value.int)) (hbd : ∀ c ∈ cs, ¬ c < 0 ∧ ¬ (65535 : Int32) < c) (hln : cs.length ≤ 4000) (bSNAME : Sta Z Z.heap "lomwright/lom/Entity$Part" "NAME" "Llomwright/lom/Entity$Part;" (.ref w3)) (bSORG : Sta Z Z.heap "lomwright/lom/Entity$Part" "ORG" "Llomwright/lom/Entity$Part;" (.ref w54)) (bSEMAIL : Sta Z Z.heap "lomwright/lom/Entity$Part" "EMAIL" "Llomwright/lom/Entity$Part;" (.ref w83)) (bSALL : Sta Z Z.heap "lomwright/lom/Entity$Part" "ALL" "[Llomwright/lom/Entity$Part;" (.ref w9)) (bE0 : Fld Z Z.heap w3 "lomwright/lom/Entity$Part" "element" "Ljava/lang/String;" (.ref w22)) (bX0 : Exa Z Z.heap w22 "java/lang/String") (bC0 : Fld Z Z.heap w22 "java/lang/String" "coder" "B" (.int (0 : Int32))) (bV0 : Fld Z Z.heap w22 "java/lang/String" "value" "[B" (.ref w32)) (bE1 : Fld Z Z.heap w54 "lomwright/lom/Entity$Part" "element" "Ljava/lang/String;" (.ref w63)) (bX1 : Exa Z Z.heap w63 "java/lang/String") (bC1 : Fld Z Z.heap w63 "java/lang/String" "coder" "B" (.int (0 : Int32))) (bV1 : Fld Z Z.heap w63 "java/lang/String" "value" "[B" (.ref w73)) (bE2 : Fld Z Z.heap w83 "lomwright/lom/Entity$Part" "element" "Ljava/lang/String;" (.ref w92)) (bX2 : Exa Z Z.heap w92 "java/lang/String") (bC2 : Fld Z Z.heap w92 "java/lang/String" "coder" "B" (.int (0 : Int32))) (bV2 : Fld Z Z.heap w92 "java/lang/String" "value" "[B" (.ref w102)) (bA0 : Arv Z Z.heap w9 k_w9 (.object "lomwright/lom/Entity$Part") (3 : Int32) [(.ref w3), (.ref w54), (.ref w83)] .null) (bA1 : Arv Z Z.heap w32 k_w32 .byte (4 : Int32) [(.int (110 : Int32)), (.int (97 : Int32)), (.int (109 : Int32)), (.int (101 : Int32))] (.int 0)) (bA2 : Arv Z Z.heap w73 k_w73 .byte (3 : Int32) [(.int (111 : Int32)), (.int (114 : Int32)), (.int (103 : Int32))] (.int 0)) (bA3 : Arv Z Z.heap w102 k_w102 .byte (5 : Int32) [(.int (101 : Int32)), (.int (109 : Int32)), (.int (97 : Int32)), (.int (105 : Int32)), (.int (108 : Int32))] (.int 0)) :
    MetFree l (⟨"lomwright/lom/Entity$Part", "of", "(Ljava/lang/String;)Llomwright/lom/Entity$Part;"⟩ : MethodName) (head1 (Jvm.Cond.code (⟨"lomwright/lom/Entity$Part", "of", "(Ljava/lang/String;)Llomwright/lom/Entity$Part;"⟩ : MethodName) prog_50_method_6_code 5 (some (.object "lomwright/lom/Entity$Part")) :: ws) ({ frames := 2, cells := 0, slots := 0, locals := 28 } : Room)) (fun a U => a = #[(.ref o0)] ∧ Z.Warmed39 U.vm ∧ U.heap = h0) (fun _ _ _ _ _ => True) (fun _ U o U' => ∃ v L, o = .returned v ∧ (own_Q n0 h0 (some (f8_0 cs w3 w54 w83))) v U'.heap L ∧ FrameEnd U o U' L ({ frames := 2, cells := 0, slots := 0, locals := 28 } : Room).cells ({ frames := 2, cells := 0, slots := 0, locals := 28 } : Room).slots) := by
  refine MetFree.of_bodySF (plainFor_of_name pn_2) hisR ?_
  intro p e s m args below meth c s₁ Bd hml0 hP hK
  obtain ⟨rfl, hZ, hh⟩ := hP
  have X0 : Stand p l e ({ frames := 2, cells := 0, slots := 0, locals := 28 } : Room) s m #[(.ref o0)] below meth c s₁ [] 0 0 := Stand.of_body Bd
  have e0 : s₁.heap = h0 := by rw [← hh, Bd.state]; rfl
  have C : own_C "lomwright/lom/Entity$Part" prog_50_method_6_code 5 (some (.object "lomwright/lom/Entity$Part")) "of" p s m meth c Z a0 := ⟨Bd.exec, hZ, hw, Bd.bytes, hml0, findClass_of_methodNamed Bd.named, Bd.returns, Bd.notSynchronized, (name_of_methodNamed Bd.named Bd.method).1⟩
  have r := b8_0 C Z0 X0 e0 (Fr.nil n0) o0 t kb cs z G1 w3 w54 w83 w9 w22 w63 w92 w32 w73 w102 k_w9 k_w32 k_w73 k_w102 OLD E0 FC FV Va O2 P5 hcd hbd hln bSNAME bSORG bSEMAIL bSALL bE0 bX0 bC0 bV0 bE1 bX1 bC1 bV1 bE2 bX2 bC2 bV2 bA0 bA1 bA2 bA3 _ rfl
  rw [ef_rm8 m o0]
  exact r
theorem own_f8ref (cs : List Int32) (w3 w54 w83 : Addr) : (f8_0 cs w3 w54 w83).isRef = true := by unfold f8_0; repeat (first | rfl | split)
def f0_251 (i0 : Int32) (i1 : Int32) (i2 : Int32) (i3 : Int32) (i4 : Int32) (w3 : Addr) (w54 : Addr) (w83 : Addr) (il8_251 : Int32) (li : List Int32) : Int32 := (if il8_251 = (0 : Int32) then (if (f8_0 ([]) w3 w54 w83) = .null then (1 : Int32) else (0 : Int32)) else (if il8_251 = (1 : Int32) then (if (f8_0 ([(nar .char (li.getD (0 : Int32).toNatClampNeg 0))]) w3 w54 w83) = .null then (1 : Int32) else (0 : Int32)) else (if il8_251 = (2 : Int32) then (if (f8_0 ([(nar .char (li.getD (0 : Int32).toNatClampNeg 0)), (nar .char (li.getD (1 : Int32).toNatClampNeg 0))]) w3 w54 w83) = .null then (1 : Int32) else (0 : Int32)) else (if il8_251 = (3 : Int32) then (if (li.getD (0 : Int32).toNatClampNeg 0) = (111 : Int32) then (if (li.getD (1 : Int32).toNatClampNeg 0) = (114 : Int32) then (if (li.getD (2 : Int32).toNatClampNeg 0) = (103 : Int32) then (if (f8_0 ([(nar .char (li.getD (0 : Int32).toNatClampNeg 0)), (nar .char (li.getD (1 : Int32).toNatClampNeg 0)), (nar .char (li.getD (2 : Int32).toNatClampNeg 0))]) w3 w54 w83) = (.ref w54) then (1 : Int32) else (0 : Int32)) else (if (f8_0 ([(nar .char (li.getD (0 : Int32).toNatClampNeg 0)), (nar .char (li.getD (1 : Int32).toNatClampNeg 0)), (nar .char (li.getD (2 : Int32).toNatClampNeg 0))]) w3 w54 w83) = .null then (1 : Int32) else (0 : Int32))) else (if (f8_0 ([(nar .char (li.getD (0 : Int32).toNatClampNeg 0)), (nar .char (li.getD (1 : Int32).toNatClampNeg 0)), (nar .char (li.getD (2 : Int32).toNatClampNeg 0))]) w3 w54 w83) = .null then (1 : Int32) else (0 : Int32))) else (if (f8_0 ([(nar .char (li.getD (0 : Int32).toNatClampNeg 0)), (nar .char (li.getD (1 : Int32).toNatClampNeg 0)), (nar .char (li.getD (2 : Int32).toNatClampNeg 0))]) w3 w54 w83) = .null then (1 : Int32) else (0 : Int32))) else (if il8_251 = (4 : Int32) then (if (li.getD (0 : Int32).toNatClampNeg 0) = (110 : Int32) then (if (li.getD (1 : Int32).toNatClampNeg 0) = (97 : Int32) then (if (li.getD (2 : Int32).toNatClampNeg 0) = (109 : Int32) then (if (li.getD (3 : Int32).toNatClampNeg 0) = (101 : Int32) then (if (f8_0 ([(nar .char (li.getD (0 : Int32).toNatClampNeg 0)), (nar .char (li.getD (1 : Int32).toNatClampNeg 0)), (nar .char (li.getD (2 : Int32).toNatClampNeg 0)), (nar .char (li.getD (3 : Int32).toNatClampNeg 0))]) w3 w54 w83) = (.ref w3) then (1 : Int32) else (0 : Int32)) else (if (f8_0 ([(nar .char (li.getD (0 : Int32).toNatClampNeg 0)), (nar .char (li.getD (1 : Int32).toNatClampNeg 0)), (nar .char (li.getD (2 : Int32).toNatClampNeg 0)), (nar .char (li.getD (3 : Int32).toNatClampNeg 0))]) w3 w54 w83) = .null then (1 : Int32) else (0 : Int32))) else (if (f8_0 ([(nar .char (li.getD (0 : Int32).toNatClampNeg 0)), (nar .char (li.getD (1 : Int32).toNatClampNeg 0)), (nar .char (li.getD (2 : Int32).toNatClampNeg 0)), (nar .char (li.getD (3 : Int32).toNatClampNeg 0))]) w3 w54 w83) = .null then (1 : Int32) else (0 : Int32))) else (if (f8_0 ([(nar .char (li.getD (0 : Int32).toNatClampNeg 0)), (nar .char (li.getD (1 : Int32).toNatClampNeg 0)), (nar .char (li.getD (2 : Int32).toNatClampNeg 0)), (nar .char (li.getD (3 : Int32).toNatClampNeg 0))]) w3 w54 w83) = .null then (1 : Int32) else (0 : Int32))) else (if (f8_0 ([(nar .char (li.getD (0 : Int32).toNatClampNeg 0)), (nar .char (li.getD (1 : Int32).toNatClampNeg 0)), (nar .char (li.getD (2 : Int32).toNatClampNeg 0)), (nar .char (li.getD (3 : Int32).toNatClampNeg 0))]) w3 w54 w83) = .null then (1 : Int32) else (0 : Int32))) else (if il8_251 = (5 : Int32) then (if (li.getD (0 : Int32).toNatClampNeg 0) = (101 : Int32) then (if (li.getD (1 : Int32).toNatClampNeg 0) = (109 : Int32) then (if (li.getD (2 : Int32).toNatClampNeg 0) = (97 : Int32) then (if (li.getD (3 : Int32).toNatClampNeg 0) = (105 : Int32) then (if (li.getD (4 : Int32).toNatClampNeg 0) = (108 : Int32) then (if (f8_0 ([(nar .char (li.getD (0 : Int32).toNatClampNeg 0)), (nar .char (li.getD (1 : Int32).toNatClampNeg 0)), (nar .char (li.getD (2 : Int32).toNatClampNeg 0)), (nar .char (li.getD (3 : Int32).toNatClampNeg 0)), (nar .char (li.getD (4 : Int32).toNatClampNeg 0))]) w3 w54 w83) = (.ref w83) then (1 : Int32) else (0 : Int32)) else (if (f8_0 ([(nar .char (li.getD (0 : Int32).toNatClampNeg 0)), (nar .char (li.getD (1 : Int32).toNatClampNeg 0)), (nar .char (li.getD (2 : Int32).toNatClampNeg 0)), (nar .char (li.getD (3 : Int32).toNatClampNeg 0)), (nar .char (li.getD (4 : Int32).toNatClampNeg 0))]) w3 w54 w83) = .null then (1 : Int32) else (0 : Int32))) else (if (f8_0 ([(nar .char (li.getD (0 : Int32).toNatClampNeg 0)), (nar .char (li.getD (1 : Int32).toNatClampNeg 0)), (nar .char (li.getD (2 : Int32).toNatClampNeg 0)), (nar .char (li.getD (3 : Int32).toNatClampNeg 0)), (nar .char (li.getD (4 : Int32).toNatClampNeg 0))]) w3 w54 w83) = .null then (1 : Int32) else (0 : Int32))) else (if (f8_0 ([(nar .char (li.getD (0 : Int32).toNatClampNeg 0)), (nar .char (li.getD (1 : Int32).toNatClampNeg 0)), (nar .char (li.getD (2 : Int32).toNatClampNeg 0)), (nar .char (li.getD (3 : Int32).toNatClampNeg 0)), (nar .char (li.getD (4 : Int32).toNatClampNeg 0))]) w3 w54 w83) = .null then (1 : Int32) else (0 : Int32))) else (if (f8_0 ([(nar .char (li.getD (0 : Int32).toNatClampNeg 0)), (nar .char (li.getD (1 : Int32).toNatClampNeg 0)), (nar .char (li.getD (2 : Int32).toNatClampNeg 0)), (nar .char (li.getD (3 : Int32).toNatClampNeg 0)), (nar .char (li.getD (4 : Int32).toNatClampNeg 0))]) w3 w54 w83) = .null then (1 : Int32) else (0 : Int32))) else (if (f8_0 ([(nar .char (li.getD (0 : Int32).toNatClampNeg 0)), (nar .char (li.getD (1 : Int32).toNatClampNeg 0)), (nar .char (li.getD (2 : Int32).toNatClampNeg 0)), (nar .char (li.getD (3 : Int32).toNatClampNeg 0)), (nar .char (li.getD (4 : Int32).toNatClampNeg 0))]) w3 w54 w83) = .null then (1 : Int32) else (0 : Int32))) else (if (f8_0 ([(nar .char (li.getD (0 : Int32).toNatClampNeg 0)), (nar .char (li.getD (1 : Int32).toNatClampNeg 0)), (nar .char (li.getD (2 : Int32).toNatClampNeg 0)), (nar .char (li.getD (3 : Int32).toNatClampNeg 0)), (nar .char (li.getD (4 : Int32).toNatClampNeg 0)), (nar .char (li.getD (5 : Int32).toNatClampNeg 0))]) w3 w54 w83) = .null then (1 : Int32) else (0 : Int32))))))))
set_option maxRecDepth 65536 in
set_option maxHeartbeats 40000000 in
theorem b0_251 {p : Program} {l : Launch} {e : Env} {s : State} {m : MethodId} {args : Array Value} {below : List Frame} {meth : Method} {c : Code} {Z : State} {a0 : Array Value} {h0 : Heap} {n0 : Nat} {vm0 : Vm} {k0 : Nat} (C : own_C "lomwright/lom/PartOfPinLaw" code maxLocals ret x.name p (s.setVm vm0) m meth c Z a0) (Z0 : n0 ≤ h0.size) (hS : s.Since vm0 k0) (hk : k0 ≤ h0.size) {T0 : State} {locs : List Loc} (X0 : Stand p l e room_1 (s.setVm vm0) m args below meth c T0 locs 1 6) (e0 : T0.heap = h0) (N0 : Fr n0 locs) (i0 : Int32) (i1 : Int32) (i2 : Int32) (i3 : Int32) (i4 : Int32) (G1 : Int32) (w3 : Addr) (w54 : Addr) (w83 : Addr) (w9 : Addr) (w22 : Addr) (w63 : Addr) (w92 : Addr) (w32 : Addr) (w73 : Addr) (w102 : Addr) (k_w9 : ClassId) (k_w32 : ClassId) (k_w73 : ClassId) (k_w102 : ClassId) (OLD : Old Z n0 h0) (O2 : Sta Z Z.heap "java/lang/String" "COMPACT_STRINGS" "Z" (.int G1)) (P5 : ¬ (G1 = (0 : Int32))) (bSNAME : Sta Z Z.heap "lomwright/lom/Entity$Part" "NAME" "Llomwright/lom/Entity$Part;" (.ref w3)) (bSORG : Sta Z Z.heap "lomwright/lom/Entity$Part" "ORG" "Llomwright/lom/Entity$Part;" (.ref w54)) (bSEMAIL : Sta Z Z.heap "lomwright/lom/Entity$Part" "EMAIL" "Llomwright/lom/Entity$Part;" (.ref w83)) (bSALL : Sta Z Z.heap "lomwright/lom/Entity$Part" "ALL" "[Llomwright/lom/Entity$Part;" (.ref w9)) (bE0 : Fld Z Z.heap w3 "lomwright/lom/Entity$Part" "element" "Ljava/lang/String;" (.ref w22)) (bX0 : Exa Z Z.heap w22 "java/lang/String") (bC0 : Fld Z Z.heap w22 "java/lang/String" "coder" "B" (.int (0 : Int32))) (bV0 : Fld Z Z.heap w22 "java/lang/String" "value" "[B" (.ref w32)) (bE1 : Fld Z Z.heap w54 "lomwright/lom/Entity$Part" "element" "Ljava/lang/String;" (.ref w63)) (bX1 : Exa Z Z.heap w63 "java/lang/String") (bC1 : Fld Z Z.heap w63 "java/lang/String" "coder" "B" (.int (0 : Int32))) (bV1 : Fld Z Z.heap w63 "java/lang/String" "value" "[B" (.ref w73)) (bE2 : Fld Z Z.heap w83 "lomwright/lom/Entity$Part" "element" "Ljava/lang/String;" (.ref w92)) (bX2 : Exa Z Z.heap w92 "java/lang/String") (bC2 : Fld Z Z.heap w92 "java/lang/String" "coder" "B" (.int (0 : Int32))) (bV2 : Fld Z Z.heap w92 "java/lang/String" "value" "[B" (.ref w102)) (bA0 : Arv Z Z.heap w9 k_w9 (.object "lomwright/lom/Entity$Part") (3 : Int32) [(.ref w3), (.ref w54), (.ref w83)] .null) (bA1 : Arv Z Z.heap w32 k_w32 .byte (4 : Int32) [(.int (110 : Int32)), (.int (97 : Int32)), (.int (109 : Int32)), (.int (101 : Int32))] (.int 0)) (bA2 : Arv Z Z.heap w73 k_w73 .byte (3 : Int32) [(.int (111 : Int32)), (.int (114 : Int32)), (.int (103 : Int32))] (.int 0)) (bA3 : Arv Z Z.heap w102 k_w102 .byte (5 : Int32) [(.int (101 : Int32)), (.int (109 : Int32)), (.int (97 : Int32)), (.int (105 : Int32)), (.int (108 : Int32))] (.int 0)) (CHZ : CHv Z own_EL vm0 Z.heap) (al5_251 : Addr) (il6_251 : Int32) (il7_251 : Int32) (il8_251 : Int32) (ka : ClassId) (li : List Int32) (hn : ¬ il8_251 < 0 ∧ il8_251 < (7 : Int32)) (hl : li.length = 6) (hr : ∀ c ∈ li, own_R c) (Va : Arv Z h0 al5_251 ka .char (6 : Int32) (li.map Value.int) (.int (0 : Int32))) (W : Int32) (hv : W = f0_251 i0 i1 i2 i3 i4 w3 w54 w83 il8_251 li) :
    own_EndsW p e below s room_1.cells room_1.slots (own_QL n0 (some (.int W))) T0 (mkF m 251 #[.val (.int i0), .val (.int i1), .val (.int i2), .val (.int i3), .val (.int i4), .val (.ref al5_251), .val (.int il6_251), .val (.int il7_251), .val (.int il8_251), .unset, .unset] []) := by
  obtain ⟨hx, hZ, hw, hby, hml, hown, hret, hlk, hnm⟩ := C
  have C : own_C "lomwright/lom/PartOfPinLaw" code maxLocals ret x.name p (s.setVm vm0) m meth c Z a0 := ⟨hx, hZ, hw, hby, hml, hown, hret, hlk, hnm⟩
  unfold f0_251 at hv
  by_cases hN0 : il8_251 = (0 : Int32)
  · have hvt0 := hv.trans (if_pos hN0)
    rw [hN0]
    refine own_stepW (fun _ => XS.aload X0.here hx rfl (hb hby at_251) rfl rfl) ?_
    show own_EndsW p e below s _ _ _ T0 (mkF m 253 #[.val (.int i0), .val (.int i1), .val (.int i2), .val (.int i3), .val (.int i4), .val (.ref al5_251), .val (.int il6_251), .val (.int il7_251), .val (.int (0 : Int32)), .unset, .unset] [(.ref al5_251)])
    refine own_stepW (fun _ => XS.iload X0.here hx rfl (hb hby at_253) rfl) ?_
    show own_EndsW p e below s _ _ _ T0 (mkF m 255 #[.val (.int i0), .val (.int i1), .val (.int i2), .val (.int i3), .val (.int i4), .val (.ref al5_251), .val (.int il6_251), .val (.int il7_251), .val (.int (0 : Int32)), .unset, .unset] [(.int (0 : Int32)), (.ref al5_251)])
    obtain ⟨_, _, ⟨T81, L81, k81, n81⟩, -, X81, hS81, hg81, ⟨Lc81, hQ81, l81, y81, z81⟩, st81⟩ := callSS X0 hx (y := (⟨"lomwright/lom/PartOfPinLaw", "text", "([CI)Ljava/lang/String;"⟩ : MethodName)) hown (mvT hZ (hw _ (List.mem_of_getElem? (i := 1) rfl))) (mvT hZ (hw _ (List.mem_of_getElem? (i := 2) rfl))) (mvT hZ (hw _ (List.mem_of_getElem? (i := 3) rfl))) (mvT hZ (hw _ (List.mem_of_getElem? (i := 4) rfl))) (by decide) (own_backSH (W := 0) (rm1_0 l Z a0 hw [] al5_251 h0 n0 Z0) hZ (hw _ (List.mem_of_getElem? (i := 4) rfl)) (hw _ (List.mem_of_getElem? (i := 3) rfl)) (by decide) (by decide) (own_EW hw) (CHv.ext OLD.2 CHZ) own_sf0) (g := (mkF m 255 #[.val (.int i0), .val (.int i1), .val (.int i2), .val (.int i3), .val (.int i4), .val (.ref al5_251), .val (.int il6_251), .val (.int il7_251), .val (.int (0 : Int32)), .unset, .unset] [(.int (0 : Int32)), (.ref al5_251)])) rfl (by rw [hml]; rfl) (argsL := [(.ref al5_251), (.int (0 : Int32))]) (rest := []) (lenOf pd_3 rfl) rfl (by show 2 * 0 + _ ≤ _; exact Nat.le_of_eq rfl) (hb hby at_255) (fun _ _ => ⟨rfl, e0, (by decide : 1 + 6 ≤ _), (by decide : 6 + 12 ≤ _)⟩)
    dsimp only [Pt.U, Pt.locs, Pt.cells, Pt.slots] at X81 l81 y81 z81 st81 hQ81
    subst l81 y81 z81
    dsimp only [Pt.U, Pt.locs, Pt.cells, Pt.slots] at hS81 hg81
    obtain ⟨X81, hS, hZ, hown⟩ := rebS hS (by rw [e0]; exact hk) X81 hS81 hg81 hZ hown
    have hk := Nat.le_refl T81.heap.size
    have C : own_C "lomwright/lom/PartOfPinLaw" code maxLocals ret x.name p (s.setVm T81.vm) m meth c Z a0 := ⟨hx, hZ, hw, hby, hml, hown, hret, hlk, hnm⟩
    obtain ⟨b81, t81, kb81, rfl, N81q, K81, gE81, gC81, gV81, gA81⟩ := hQ81
    have N81 := Fr.app N0 N81q
    have OLDk81 := OLD.keep K81 all0
    have Zs81 : n0 ≤ T81.heap.size := Nat.le_trans Z0 K81.1
    refine own_stepW (fun _ => st81.trans) ?_
    show own_EndsW p e below s _ _ _ T81 (mkF m 258 #[.val (.int i0), .val (.int i1), .val (.int i2), .val (.int i3), .val (.int i4), .val (.ref al5_251), .val (.int il6_251), .val (.int il7_251), .val (.int (0 : Int32)), .unset, .unset] [(.ref b81)])
    refine own_stepW (fun _ => XS.astore X81.here hx rfl (hb hby at_258) rfl rfl (l' := #[.val (.int i0), .val (.int i1), .val (.int i2), .val (.int i3), .val (.int i4), .val (.ref al5_251), .val (.int il6_251), .val (.int il7_251), .val (.int (0 : Int32)), .val (.ref b81), .unset]) rfl) ?_
    show own_EndsW p e below s _ _ _ T81 (mkF m 260 #[.val (.int i0), .val (.int i1), .val (.int i2), .val (.int i3), .val (.int i4), .val (.ref al5_251), .val (.int il6_251), .val (.int il7_251), .val (.int (0 : Int32)), .val (.ref b81), .unset] [])
    refine own_stepW (fun _ => XS.aconstNull X81.here hx rfl (hb hby at_260)) ?_
    show own_EndsW p e below s _ _ _ T81 (mkF m 261 #[.val (.int i0), .val (.int i1), .val (.int i2), .val (.int i3), .val (.int i4), .val (.ref al5_251), .val (.int il6_251), .val (.int il7_251), .val (.int (0 : Int32)), .val (.ref b81), .unset] [.null])
    refine own_stepW (fun _ => XS.astore X81.here hx rfl (hb hby at_261) rfl rfl (l' := #[.val (.int i0), .val (.int i1), .val (.int i2), .val (.int i3), .val (.int i4), .val (.ref al5_251), .val (.int il6_251), .val (.int il7_251), .val (.int (0 : Int32)), .val (.ref b81), .val .null]) rfl) ?_
    show own_EndsW p e below s _ _ _ T81 (mkF m 263 #[.val (.int i0), .val (.int i1), .val (.int i2), .val (.int i3), .val (.int i4), .val (.ref al5_251), .val (.int il6_251), .val (.int il7_251), .val (.int (0 : Int32)), .val (.ref b81), .val .null] [])
    refine own_stepW (fun _ => XS.iload X81.here hx rfl (hb hby at_263) rfl) ?_
    show own_EndsW p e below s _ _ _ T81 (mkF m 265 #[.val (.int i0), .val (.int i1), .val (.int i2), .val (.int i3), .val (.int i4), .val (.ref al5_251), .val (.int il6_251), .val (.int il7_251), .val (.int (0 : Int32)), .val (.ref b81), .val .null] [(.int (0 : Int32))])
    refine own_stepW (fun _ => XS.iconst X81.here hx rfl (hb hby at_265)) ?_
    show own_EndsW p e below s _ _ _ T81 (mkF m 266 #[.val (.int i0), .val (.int i1), .val (.int i2), .val (.int i3), .val (.int i4), .val (.ref al5_251), .val (.int il6_251), .val (.int il7_251), .val (.int (0 : Int32)), .val (.ref b81), .val .null] [(.int (4 : Int32)), (.int (0 : Int32))])
    refine own_stepW (fun _ => XS.icmpYes X81.here hx rfl (pc0 := 266) (pc' := 310) rfl (hb hby at_266) rfl (feq (show ¬ ((0 : Int32) = (4 : Int32)) from (by decide))).2 (by decide) (by decide)) ?_
    show own_EndsW p e below s _ _ _ T81 (mkF m 310 #[.val (.int i0), .val (.int i1), .val (.int i2), .val (.int i3), .val (.int i4), .val (.ref al5_251), .val (.int il6_251), .val (.int il7_251), .val (.int (0 : Int32)), .val (.ref b81), .val .null] [])
    refine own_stepW (fun _ => XS.iload X81.here hx rfl (hb hby at_310) rfl) ?_
    show own_EndsW p e below s _ _ _ T81 (mkF m 312 #[.val (.int i0), .val (.int i1), .val (.int i2), .val (.int i3), .val (.int i4), .val (.ref al5_251), .val (.int il6_251), .val (.int il7_251), .val (.int (0 : Int32)), .val (.ref b81), .val .null] [(.int (0 : Int32))])
    refine own_stepW (fun _ => XS.iconst X81.here hx rfl (hb hby at_312)) ?_
    show own_EndsW p e below s _ _ _ T81 (mkF m 313 #[.val (.int i0), .val (.int i1), .val (.int i2), .val (.int i3), .val (.int i4), .val (.ref al5_251), .val (.int il6_251), .val (.int il7_251), .val (.int (0 : Int32)), .val (.ref b81), .val .null] [(.int (3 : Int32)), (.int (0 : Int32))])
    refine own_stepW (fun _ => XS.icmpYes X81.here hx rfl (pc0 := 313) (pc' := 348) rfl (hb hby at_313) rfl (feq (show ¬ ((0 : Int32) = (3 : Int32)) from (by decide))).2 (by decide) (by decide)) ?_
    show own_EndsW p e below s _ _ _ T81 (mkF m 348 #[.val (.int i0), .val (.int i1), .val (.int i2), .val (.int i3), .val (.int i4), .val (.ref al5_251), .val (.int il6_251), .val (.int il7_251), .val (.int (0 : Int32)), .val (.ref b81), .val .null] [])
    refine own_stepW (fun _ => XS.iload X81.here hx rfl (hb hby at_348) rfl) ?_
    show own_EndsW p e below s _ _ _ T81 (mkF m 350 #[.val (.int i0), .val (.int i1), .val (.int i2), .val (.int i3), .val (.int i4), .val (.ref al5_251), .val (.int il6_251), .val (.int il7_251), .val (.int (0 : Int32)), .val (.ref b81), .val .null] [(.int (0 : Int32))])
    refine own_stepW (fun _ => XS.iconst X81.here hx rfl (hb hby at_350)) ?_
    show own_EndsW p e below s _ _ _ T81 (mkF m 351 #[.val (.int i0), .val (.int i1), .val (.int i2), .val (.int i3), .val (.int i4), .val (.ref al5_251), .val (.int il6_251), .val (.int il7_251), .val (.int (0 : Int32)), .val (.ref b81), .val .null] [(.int (5 : Int32)), (.int (0 : Int32))])
    refine own_stepW (fun _ => XS.icmpYes X81.here hx rfl (pc0 := 351) (pc' := 404) rfl (hb hby at_351) rfl (feq (show ¬ ((0 : Int32) = (5 : Int32)) from (by decide))).2 (by decide) (by decide)) ?_
    show own_EndsW p e below s _ _ _ T81 (mkF m 404 #[.val (.int i0), .val (.int i1), .val (.int i2), .val (.int i3), .val (.int i4), .val (.ref al5_251), .val (.int il6_251), .val (.int il7_251), .val (.int (0 : Int32)), .val (.ref b81), .val .null] [])
    refine own_stepW (fun _ => XS.aload X81.here hx rfl (hb hby at_404) rfl rfl) ?_
    show own_EndsW p e below s _ _ _ T81 (mkF m 406 #[.val (.int i0), .val (.int i1), .val (.int i2), .val (.int i3), .val (.int i4), .val (.ref al5_251), .val (.int il6_251), .val (.int il7_251), .val (.int (0 : Int32)), .val (.ref b81), .val .null] [(.ref b81)])
    have hp82 : ∀ c ∈ ([] : List Int32), own_R c := own_ln
    obtain ⟨_, _, ⟨T82, L82, k82, n82⟩, -, X82, ⟨Lc82, hQ82, l82, y82, z82⟩, st82⟩ := Jvm.LawKit.callS X81 hx (y := (⟨"lomwright/lom/Entity$Part", "of", "(Ljava/lang/String;)Llomwright/lom/Entity$Part;"⟩ : MethodName)) hown (mvT hZ (hw _ (List.mem_of_getElem? (i := 37) rfl))) (mvT hZ (hw _ (List.mem_of_getElem? (i := 38) rfl))) (mvT hZ (hw _ (List.mem_of_getElem? (i := 35) rfl))) (mvT hZ (hw _ (List.mem_of_getElem? (i := 39) rfl))) (by decide) (backOf (W := 0) (rm8 l Z a0 hw [] b81 t81 kb81 ([]) (0 : Int32) G1 w3 w54 w83 w9 w22 w63 w92 w32 w73 w102 k_w9 k_w32 k_w73 k_w102 T81.heap n0 Zs81 OLDk81 gE81 gC81 gV81 gA81 O2 P5 (StrChars.Road.codOf (n := 0) rfl (fun c hc => (hp82 c hc).2)) (own_up hp82) (Nat.le_of_ble_eq_true rfl) bSNAME bSORG bSEMAIL bSALL bE0 bX0 bC0 bV0 bE1 bX1 bC1 bV1 bE2 bX2 bC2 bV2 bA0 bA1 bA2 bA3) hZ (hw _ (List.mem_of_getElem? (i := 39) rfl)) (hw _ (List.mem_of_getElem? (i := 35) rfl)) (by decide) (by decide)) (g := (mkF m 406 #[.val (.int i0), .val (.int i1), .val (.int i2), .val (.int i3), .val (.int i4), .val (.ref al5_251), .val (.int il6_251), .val (.int il7_251), .val (.int (0 : Int32)), .val (.ref b81), .val .null] [(.ref b81)])) rfl (by rw [hml]; rfl) (argsL := [(.ref b81)]) (rest := []) (lenOf pd_4 rfl) rfl (by show 2 * 0 + _ ≤ _; exact Nat.le_of_eq rfl) (hb hby at_406) (fun _ _ => ⟨rfl, rfl, (by decide : 7 + 0 ≤ _), (by decide : 18 + 0 ≤ _)⟩)
    dsimp only [Pt.U, Pt.locs, Pt.cells, Pt.slots] at X82 l82 y82 z82 st82 hQ82
    subst l82 y82 z82
    obtain ⟨rfl, N82q, hh82⟩ := hQ82
    have N82 := Fr.app N81 N82q
    refine own_stepW st82 ?_
    show own_EndsW p e below s _ _ _ T82 (mkF m 409 #[.val (.int i0), .val (.int i1), .val (.int i2), .val (.int i3), .val (.int i4), .val (.ref al5_251), .val (.int il6_251), .val (.int il7_251), .val (.int (0 : Int32)), .val (.ref b81), .val .null] [(f8_0 ([]) w3 w54 w83)])
    refine own_stepW (fun _ => XS.aload X82.here hx rfl (hb hby at_409) rfl rfl) ?_
    show own_EndsW p e below s _ _ _ T82 (mkF m 411 #[.val (.int i0), .val (.int i1), .val (.int i2), .val (.int i3), .val (.int i4), .val (.ref al5_251), .val (.int il6_251), .val (.int il7_251), .val (.int (0 : Int32)), .val (.ref b81), .val .null] [.null, (f8_0 ([]) w3 w54 w83)])
    by_cases hc411 : (f8_0 ([]) w3 w54 w83) = .null
    · have hvt0_t := hvt0.trans (if_pos hc411)
      refine own_stepW (fun _ => Jvm.RoadKit.acmp (g := (mkF m 411 #[.val (.int i0), .val (.int i1), .val (.int i2), .val (.int i3), .val (.int i4), .val (.ref al5_251), .val (.int il6_251), .val (.int il7_251), .val (.int (0 : Int32)), .val (.ref b81), .val .null] [.null, (f8_0 ([]) w3 w54 w83)])) X82 hx rfl (own_f8ref _ _ _ _) rfl (pc0 := 411) (pc' := 414) (same := true) rfl (hb hby at_411) rfl (decide_eq_true hc411) (by decide) (by decide)) ?_
      show own_EndsW p e below s _ _ _ T82 (mkF m 414 #[.val (.int i0), .val (.int i1), .val (.int i2), .val (.int i3), .val (.int i4), .val (.ref al5_251), .val (.int il6_251), .val (.int il7_251), .val (.int (0 : Int32)), .val (.ref b81), .val .null] [])
      refine own_stepW (fun _ => XS.iconst X82.here hx rfl (hb hby at_414)) ?_
      show own_EndsW p e below s _ _ _ T82 (mkF m 415 #[.val (.int i0), .val (.int i1), .val (.int i2), .val (.int i3), .val (.int i4), .val (.ref al5_251), .val (.int il6_251), .val (.int il7_251), .val (.int (0 : Int32)), .val (.ref b81), .val .null] [(.int (1 : Int32))])
      refine own_stepW (fun _ => XS.goto X82.here hx rfl (pc0 := 415) (pc' := 419) rfl (hb hby at_415) (by decide) (by decide)) ?_
      show own_EndsW p e below s _ _ _ T82 (mkF m 419 #[.val (.int i0), .val (.int i1), .val (.int i2), .val (.int i3), .val (.int i4), .val (.ref al5_251), .val (.int il6_251), .val (.int il7_251), .val (.int (0 : Int32)), .val (.ref b81), .val .null] [(.int (1 : Int32))])
      exact own_retNW X82 hS (by rw [hh82]; exact hk) (t := .boolean) hx hret hlk (hb hby at_419) (by decide) (by decide) (by simp) ⟨congrArg (fun z => some (Value.int z)) hvt0_t.symm, N82, trivial⟩
    · have hvt0_f := hvt0.trans (if_neg hc411)
      refine own_stepW (fun _ => Jvm.RoadKit.acmp (g := (mkF m 411 #[.val (.int i0), .val (.int i1), .val (.int i2), .val (.int i3), .val (.int i4), .val (.ref al5_251), .val (.int il6_251), .val (.int il7_251), .val (.int (0 : Int32)), .val (.ref b81), .val .null] [.null, (f8_0 ([]) w3 w54 w83)])) X82 hx rfl (own_f8ref _ _ _ _) rfl (pc0 := 411) (pc' := 418) (same := false) rfl (hb hby at_411) rfl (decide_eq_false hc411) (by decide) (by decide)) ?_
      show own_EndsW p e below s _ _ _ T82 (mkF m 418 #[.val (.int i0), .val (.int i1), .val (.int i2), .val (.int i3), .val (.int i4), .val (.ref al5_251), .val (.int il6_251), .val (.int il7_251), .val (.int (0 : Int32)), .val (.ref b81), .val .null] [])
      refine own_stepW (fun _ => XS.iconst X82.here hx rfl (hb hby at_418)) ?_
      show own_EndsW p e below s _ _ _ T82 (mkF m 419 #[.val (.int i0), .val (.int i1), .val (.int i2), .val (.int i3), .val (.int i4), .val (.ref al5_251), .val (.int il6_251), .val (.int il7_251), .val (.int (0 : Int32)), .val (.ref b81), .val .null] [(.int (0 : Int32))])
      exact own_retNW X82 hS (by rw [hh82]; exact hk) (t := .boolean) hx hret hlk (hb hby at_419) (by decide) (by decide) (by simp) ⟨congrArg (fun z => some (Value.int z)) hvt0_f.symm, N82, trivial⟩
  · have hvf0 := hv.trans (if_neg hN0)
    by_cases hN1 : il8_251 = (1 : Int32)
    · have hvf0t1 := hvf0.trans (if_pos hN1)
      rw [hN1]
      refine own_stepW (fun _ => XS.aload X0.here hx rfl (hb hby at_251) rfl rfl) ?_
      show own_EndsW p e below s _ _ _ T0 (mkF m 253 #[.val (.int i0), .val (.int i1), .val (.int i2), .val (.int i3), .val (.int i4), .val (.ref al5_251), .val (.int il6_251), .val (.int il7_251), .val (.int (1 : Int32)), .unset, .unset] [(.ref al5_251)])
      refine own_stepW (fun _ => XS.iload X0.here hx rfl (hb hby at_253) rfl) ?_
      show own_EndsW p e below s _ _ _ T0 (mkF m 255 #[.val (.int i0), .val (.int i1), .val (.int i2), .val (.int i3), .val (.int i4), .val (.ref al5_251), .val (.int il6_251), .val (.int il7_251), .val (.int (1 : Int32)), .unset, .unset] [(.int (1 : Int32)), (.ref al5_251)])
      obtain ⟨_, _, ⟨T83, L83, k83, n83⟩, -, X83, ⟨Lc83, hQ83, l83, y83, z83⟩, st83⟩ := Jvm.LawKit.callS X0 hx (y := (⟨"lomwright/lom/PartOfPinLaw", "text", "([CI)Ljava/lang/String;"⟩ : MethodName)) hown (mvT hZ (hw _ (List.mem_of_getElem? (i := 1) rfl))) (mvT hZ (hw _ (List.mem_of_getElem? (i := 2) rfl))) (mvT hZ (hw _ (List.mem_of_getElem? (i := 3) rfl))) (mvT hZ (hw _ (List.mem_of_getElem? (i := 4) rfl))) (by decide) (backOf (W := 0) (rm1_1 l Z a0 hw [] al5_251 ka li G1 h0 n0 Z0 OLD Va O2 P5 hr) hZ (hw _ (List.mem_of_getElem? (i := 4) rfl)) (hw _ (List.mem_of_getElem? (i := 3) rfl)) (by decide) (by decide)) (g := (mkF m 255 #[.val (.int i0), .val (.int i1), .val (.int i2), .val (.int i3), .val (.int i4), .val (.ref al5_251), .val (.int il6_251), .val (.int il7_251), .val (.int (1 : Int32)), .unset, .unset] [(.int (1 : Int32)), (.ref al5_251)])) rfl (by rw [hml]; rfl) (argsL := [(.ref al5_251), (.int (1 : Int32))]) (rest := []) (lenOf pd_3 rfl) rfl (by show 2 * 0 + _ ≤ _; exact Nat.le_of_eq rfl) (hb hby at_255) (fun _ _ => ⟨rfl, e0, (by decide : 1 + 3 ≤ _), (by decide : 6 + 6 ≤ _)⟩)
      dsimp only [Pt.U, Pt.locs, Pt.cells, Pt.slots] at X83 l83 y83 z83 st83 hQ83
      subst l83 y83 z83
      obtain ⟨b83, t83, kb83, rfl, N83q, K83, gE83, gC83, gV83, gA83⟩ := hQ83
      have N83 := Fr.app N0 N83q
      have OLDk83 := OLD.keep K83 all0
      have Zs83 : n0 ≤ T83.heap.size := Nat.le_trans Z0 K83.1
      have hk := Nat.le_trans hk K83.1
      refine own_stepW st83 ?_
      show own_EndsW p e below s _ _ _ T83 (mkF m 258 #[.val (.int i0), .val (.int i1), .val (.int i2), .val (.int i3), .val (.int i4), .val (.ref al5_251), .val (.int il6_251), .val (.int il7_251), .val (.int (1 : Int32)), .unset, .unset] [(.ref b83)])
      refine own_stepW (fun _ => XS.astore X83.here hx rfl (hb hby at_258) rfl rfl (l' := #[.val (.int i0), .val (.int i1), .val (.int i2), .val (.int i3), .val (.int i4), .val (.ref al5_251), .val (.int il6_251), .val (.int il7_251), .val (.int (1 : Int32)), .val (.ref b83), .unset]) rfl) ?_
      show own_EndsW p e below s _ _ _ T83 (mkF m 260 #[.val (.int i0), .val (.int i1), .val (.int i2), .val (.int i3), .val (.int i4), .val (.ref al5_251), .val (.int il6_251), .val (.int il7_251), .val (.int (1 : Int32)), .val (.ref b83), .unset] [])
      refine own_stepW (fun _ => XS.aconstNull X83.here hx rfl (hb hby at_260)) ?_
      show own_EndsW p e below s _ _ _ T83 (mkF m 261 #[.val (.int i0), .val (.int i1), .val (.int i2), .val (.int i3), .val (.int i4), .val (.ref al5_251), .val (.int il6_251), .val (.int il7_251), .val (.int (1 : Int32)), .val (.ref b83), .unset] [.null])
      refine own_stepW (fun _ => XS.astore X83.here hx rfl (hb hby at_261) rfl rfl (l' := #[.val (.int i0), .val (.int i1), .val (.int i2), .val (.int i3), .val (.int i4), .val (.ref al5_251), .val (.int il6_251), .val (.int il7_251), .val (.int (1 : Int32)), .val (.ref b83), .val .null]) rfl) ?_
      show own_EndsW p e below s _ _ _ T83 (mkF m 263 #[.val (.int i0), .val (.int i1), .val (.int i2), .val (.int i3), .val (.int i4), .val (.ref al5_251), .val (.int il6_251), .val (.int il7_251), .val (.int (1 : Int32)), .val (.ref b83), .val .null] [])
      refine own_stepW (fun _ => XS.iload X83.here hx rfl (hb hby at_263) rfl) ?_
      show own_EndsW p e below s _ _ _ T83 (mkF m 265 #[.val (.int i0), .val (.int i1), .val (.int i2), .val (.int i3), .val (.int i4), .val (.ref al5_251), .val (.int il6_251), .val (.int il7_251), .val (.int (1 : Int32)), .val (.ref b83), .val .null] [(.int (1 : Int32))])
      refine own_stepW (fun _ => XS.iconst X83.here hx rfl (hb hby at_265)) ?_
      show own_EndsW p e below s _ _ _ T83 (mkF m 266 #[.val (.int i0), .val (.int i1), .val (.int i2), .val (.int i3), .val (.int i4), .val (.ref al5_251), .val (.int il6_251), .val (.int il7_251), .val (.int (1 : Int32)), .val (.ref b83), .val .null] [(.int (4 : Int32)), (.int (1 : Int32))])
      refine own_stepW (fun _ => XS.icmpYes X83.here hx rfl (pc0 := 266) (pc' := 310) rfl (hb hby at_266) rfl (feq (show ¬ ((1 : Int32) = (4 : Int32)) from (by decide))).2 (by decide) (by decide)) ?_
      show own_EndsW p e below s _ _ _ T83 (mkF m 310 #[.val (.int i0), .val (.int i1), .val (.int i2), .val (.int i3), .val (.int i4), .val (.ref al5_251), .val (.int il6_251), .val (.int il7_251), .val (.int (1 : Int32)), .val (.ref b83), .val .null] [])
      refine own_stepW (fun _ => XS.iload X83.here hx rfl (hb hby at_310) rfl) ?_
      show own_EndsW p e below s _ _ _ T83 (mkF m 312 #[.val (.int i0), .val (.int i1), .val (.int i2), .val (.int i3), .val (.int i4), .val (.ref al5_251), .val (.int il6_251), .val (.int il7_251), .val (.int (1 : Int32)), .val (.ref b83), .val .null] [(.int (1 : Int32))])
      refine own_stepW (fun _ => XS.iconst X83.here hx rfl (hb hby at_312)) ?_
      show own_EndsW p e below s _ _ _ T83 (mkF m 313 #[.val (.int i0), .val (.int i1), .val (.int i2), .val (.int i3), .val (.int i4), .val (.ref al5_251), .val (.int il6_251), .val (.int il7_251), .val (.int (1 : Int32)), .val (.ref b83), .val .null] [(.int (3 : Int32)), (.int (1 : Int32))])
      refine own_stepW (fun _ => XS.icmpYes X83.here hx rfl (pc0 := 313) (pc' := 348) rfl (hb hby at_313) rfl (feq (show ¬ ((1 : Int32) = (3 : Int32)) from (by decide))).2 (by decide) (by decide)) ?_
      show own_EndsW p e below s _ _ _ T83 (mkF m 348 #[.val (.int i0), .val (.int i1), .val (.int i2), .val (.int i3), .val (.int i4), .val (.ref al5_251), .val (.int il6_251), .val (.int il7_251), .val (.int (1 : Int32)), .val (.ref b83), .val .null] [])
      refine own_stepW (fun _ => XS.iload X83.here hx rfl (hb hby at_348) rfl) ?_
      show own_EndsW p e below s _ _ _ T83 (mkF m 350 #[.val (.int i0), .val (.int i1), .val (.int i2), .val (.int i3), .val (.int i4), .val (.ref al5_251), .val (.int il6_251), .val (.int il7_251), .val (.int (1 : Int32)), .val (.ref b83), .val .null] [(.int (1 : Int32))])
      refine own_stepW (fun _ => XS.iconst X83.here hx rfl (hb hby at_350)) ?_
      show own_EndsW p e below s _ _ _ T83 (mkF m 351 #[.val (.int i0), .val (.int i1), .val (.int i2), .val (.int i3), .val (.int i4), .val (.ref al5_251), .val (.int il6_251), .val (.int il7_251), .val (.int (1 : Int32)), .val (.ref b83), .val .null] [(.int (5 : Int32)), (.int (1 : Int32))])
      refine own_stepW (fun _ => XS.icmpYes X83.here hx rfl (pc0 := 351) (pc' := 404) rfl (hb hby at_351) rfl (feq (show ¬ ((1 : Int32) = (5 : Int32)) from (by decide))).2 (by decide) (by decide)) ?_
      show own_EndsW p e below s _ _ _ T83 (mkF m 404 #[.val (.int i0), .val (.int i1), .val (.int i2), .val (.int i3), .val (.int i4), .val (.ref al5_251), .val (.int il6_251), .val (.int il7_251), .val (.int (1 : Int32)), .val (.ref b83), .val .null] [])
      refine own_stepW (fun _ => XS.aload X83.here hx rfl (hb hby at_404) rfl rfl) ?_
      show own_EndsW p e below s _ _ _ T83 (mkF m 406 #[.val (.int i0), .val (.int i1), .val (.int i2), .val (.int i3), .val (.int i4), .val (.ref al5_251), .val (.int il6_251), .val (.int il7_251), .val (.int (1 : Int32)), .val (.ref b83), .val .null] [(.ref b83)])
      have hp84 : ∀ c ∈ ([(nar .char (li.getD (0 : Int32).toNatClampNeg 0))] : List Int32), own_R c := (own_lc (own_rn hr _) own_ln)
      obtain ⟨_, _, ⟨T84, L84, k84, n84⟩, -, X84, ⟨Lc84, hQ84, l84, y84, z84⟩, st84⟩ := Jvm.LawKit.callS X83 hx (y := (⟨"lomwright/lom/Entity$Part", "of", "(Ljava/lang/String;)Llomwright/lom/Entity$Part;"⟩ : MethodName)) hown (mvT hZ (hw _ (List.mem_of_getElem? (i := 37) rfl))) (mvT hZ (hw _ (List.mem_of_getElem? (i := 38) rfl))) (mvT hZ (hw _ (List.mem_of_getElem? (i := 35) rfl))) (mvT hZ (hw _ (List.mem_of_getElem? (i := 39) rfl))) (by decide) (backOf (W := 0) (rm8 l Z a0 hw [] b83 t83 kb83 ([(nar .char (li.getD (0 : Int32).toNatClampNeg 0))]) (1 : Int32) G1 w3 w54 w83 w9 w22 w63 w92 w32 w73 w102 k_w9 k_w32 k_w73 k_w102 T83.heap n0 Zs83 OLDk83 gE83 gC83 gV83 gA83 O2 P5 (StrChars.Road.codOf (n := 1) rfl (fun c hc => (hp84 c hc).2)) (own_up hp84) (Nat.le_of_ble_eq_true rfl) bSNAME bSORG bSEMAIL bSALL bE0 bX0 bC0 bV0 bE1 bX1 bC1 bV1 bE2 bX2 bC2 bV2 bA0 bA1 bA2 bA3) hZ (hw _ (List.mem_of_getElem? (i := 39) rfl)) (hw _ (List.mem_of_getElem? (i := 35) rfl)) (by decide) (by decide)) (g := (mkF m 406 #[.val (.int i0), .val (.int i1), .val (.int i2), .val (.int i3), .val (.int i4), .val (.ref al5_251), .val (.int il6_251), .val (.int il7_251), .val (.int (1 : Int32)), .val (.ref b83), .val .null] [(.ref b83)])) rfl (by rw [hml]; rfl) (argsL := [(.ref b83)]) (rest := []) (lenOf pd_4 rfl) rfl (by show 2 * 0 + _ ≤ _; exact Nat.le_of_eq rfl) (hb hby at_406) (fun _ _ => ⟨rfl, rfl, (by decide : 4 + 0 ≤ _), (by decide : 12 + 0 ≤ _)⟩)
      dsimp only [Pt.U, Pt.locs, Pt.cells, Pt.slots] at X84 l84 y84 z84 st84 hQ84
      subst l84 y84 z84
      obtain ⟨rfl, N84q, hh84⟩ := hQ84
      have N84 := Fr.app N83 N84q
      refine own_stepW st84 ?_
      show own_EndsW p e below s _ _ _ T84 (mkF m 409 #[.val (.int i0), .val (.int i1), .val (.int i2), .val (.int i3), .val (.int i4), .val (.ref al5_251), .val (.int il6_251), .val (.int il7_251), .val (.int (1 : Int32)), .val (.ref b83), .val .null] [(f8_0 ([(nar .char (li.getD (0 : Int32).toNatClampNeg 0))]) w3 w54 w83)])
      refine own_stepW (fun _ => XS.aload X84.here hx rfl (hb hby at_409) rfl rfl) ?_
      show own_EndsW p e below s _ _ _ T84 (mkF m 411 #[.val (.int i0), .val (.int i1), .val (.int i2), .val (.int i3), .val (.int i4), .val (.ref al5_251), .val (.int il6_251), .val (.int il7_251), .val (.int (1 : Int32)), .val (.ref b83), .val .null] [.null, (f8_0 ([(nar .char (li.getD (0 : Int32).toNatClampNeg 0))]) w3 w54 w83)])
      by_cases hc411 : (f8_0 ([(nar .char (li.getD (0 : Int32).toNatClampNeg 0))]) w3 w54 w83) = .null
      · have hvf0t1_t := hvf0t1.trans (if_pos hc411)
        refine own_stepW (fun _ => Jvm.RoadKit.acmp (g := (mkF m 411 #[.val (.int i0), .val (.int i1), .val (.int i2), .val (.int i3), .val (.int i4), .val (.ref al5_251), .val (.int il6_251), .val (.int il7_251), .val (.int (1 : Int32)), .val (.ref b83), .val .null] [.null, (f8_0 ([(nar .char (li.getD (0 : Int32).toNatClampNeg 0))]) w3 w54 w83)])) X84 hx rfl (own_f8ref _ _ _ _) rfl (pc0 := 411) (pc' := 414) (same := true) rfl (hb hby at_411) rfl (decide_eq_true hc411) (by decide) (by decide)) ?_
        show own_EndsW p e below s _ _ _ T84 (mkF m 414 #[.val (.int i0), .val (.int i1), .val (.int i2), .val (.int i3), .val (.int i4), .val (.ref al5_251), .val (.int il6_251), .val (.int il7_251), .val (.int (1 : Int32)), .val (.ref b83), .val .null] [])
        refine own_stepW (fun _ => XS.iconst X84.here hx rfl (hb hby at_414)) ?_
        show own_EndsW p e below s _ _ _ T84 (mkF m 415 #[.val (.int i0), .val (.int i1), .val (.int i2), .val (.int i3), .val (.int i4), .val (.ref al5_251), .val (.int il6_251), .val (.int il7_251), .val (.int (1 : Int32)), .val (.ref b83), .val .null] [(.int (1 : Int32))])
        refine own_stepW (fun _ => XS.goto X84.here hx rfl (pc0 := 415) (pc' := 419) rfl (hb hby at_415) (by decide) (by decide)) ?_
        show own_EndsW p e below s _ _ _ T84 (mkF m 419 #[.val (.int i0), .val (.int i1), .val (.int i2), .val (.int i3), .val (.int i4), .val (.ref al5_251), .val (.int il6_251), .val (.int il7_251), .val (.int (1 : Int32)), .val (.ref b83), .val .null] [(.int (1 : Int32))])
        exact own_retNW X84 hS (by rw [hh84]; exact hk) (t := .boolean) hx hret hlk (hb hby at_419) (by decide) (by decide) (by simp) ⟨congrArg (fun z => some (Value.int z)) hvf0t1_t.symm, N84, trivial⟩
      · have hvf0t1_f := hvf0t1.trans (if_neg hc411)
        refine own_stepW (fun _ => Jvm.RoadKit.acmp (g := (mkF m 411 #[.val (.int i0), .val (.int i1), .val (.int i2), .val (.int i3), .val (.int i4), .val (.ref al5_251), .val (.int il6_251), .val (.int il7_251), .val (.int (1 : Int32)), .val (.ref b83), .val .null] [.null, (f8_0 ([(nar .char (li.getD (0 : Int32).toNatClampNeg 0))]) w3 w54 w83)])) X84 hx rfl (own_f8ref _ _ _ _) rfl (pc0 := 411) (pc' := 418) (same := false) rfl (hb hby at_411) rfl (decide_eq_false hc411) (by decide) (by decide)) ?_
        show own_EndsW p e below s _ _ _ T84 (mkF m 418 #[.val (.int i0), .val (.int i1), .val (.int i2), .val (.int i3), .val (.int i4), .val (.ref al5_251), .val (.int il6_251), .val (.int il7_251), .val (.int (1 : Int32)), .val (.ref b83), .val .null] [])
        refine own_stepW (fun _ => XS.iconst X84.here hx rfl (hb hby at_418)) ?_
        show own_EndsW p e below s _ _ _ T84 (mkF m 419 #[.val (.int i0), .val (.int i1), .val (.int i2), .val (.int i3), .val (.int i4), .val (.ref al5_251), .val (.int il6_251), .val (.int il7_251), .val (.int (1 : Int32)), .val (.ref b83), .val .null] [(.int (0 : Int32))])
        exact own_retNW X84 hS (by rw [hh84]; exact hk) (t := .boolean) hx hret hlk (hb hby at_419) (by decide) (by decide) (by simp) ⟨congrArg (fun z => some (Value.int z)) hvf0t1_f.symm, N84, trivial⟩
    · have hvf0f1 := hvf0.trans (if_neg hN1)
      by_cases hN2 : il8_251 = (2 : Int32)
      · have hvf0f1t2 := hvf0f1.trans (if_pos hN2)
        rw [hN2]
        refine own_stepW (fun _ => XS.aload X0.here hx rfl (hb hby at_251) rfl rfl) ?_
        show own_EndsW p e below s _ _ _ T0 (mkF m 253 #[.val (.int i0), .val (.int i1), .val (.int i2), .val (.int i3), .val (.int i4), .val (.ref al5_251), .val (.int il6_251), .val (.int il7_251), .val (.int (2 : Int32)), .unset, .unset] [(.ref al5_251)])
        refine own_stepW (fun _ => XS.iload X0.here hx rfl (hb hby at_253) rfl) ?_
        show own_EndsW p e below s _ _ _ T0 (mkF m 255 #[.val (.int i0), .val (.int i1), .val (.int i2), .val (.int i3), .val (.int i4), .val (.ref al5_251), .val (.int il6_251), .val (.int il7_251), .val (.int (2 : Int32)), .unset, .unset] [(.int (2 : Int32)), (.ref al5_251)])
        obtain ⟨_, _, ⟨T85, L85, k85, n85⟩, -, X85, ⟨Lc85, hQ85, l85, y85, z85⟩, st85⟩ := Jvm.LawKit.callS X0 hx (y := (⟨"lomwright/lom/PartOfPinLaw", "text", "([CI)Ljava/lang/String;"⟩ : MethodName)) hown (mvT hZ (hw _ (List.mem_of_getElem? (i := 1) rfl))) (mvT hZ (hw _ (List.mem_of_getElem? (i := 2) rfl))) (mvT hZ (hw _ (List.mem_of_getElem? (i := 3) rfl))) (mvT hZ (hw _ (List.mem_of_getElem? (i := 4) rfl))) (by decide) (backOf (W := 0) (rm1_2 l Z a0 hw [] al5_251 ka li G1 h0 n0 Z0 OLD Va O2 P5 hr) hZ (hw _ (List.mem_of_getElem? (i := 4) rfl)) (hw _ (List.mem_of_getElem? (i := 3) rfl)) (by decide) (by decide)) (g := (mkF m 255 #[.val (.int i0), .val (.int i1), .val (.int i2), .val (.int i3), .val (.int i4), .val (.ref al5_251), .val (.int il6_251), .val (.int il7_251), .val (.int (2 : Int32)), .unset, .unset] [(.int (2 : Int32)), (.ref al5_251)])) rfl (by rw [hml]; rfl) (argsL := [(.ref al5_251), (.int (2 : Int32))]) (rest := []) (lenOf pd_3 rfl) rfl (by show 2 * 0 + _ ≤ _; exact Nat.le_of_eq rfl) (hb hby at_255) (fun _ _ => ⟨rfl, e0, (by decide : 1 + 3 ≤ _), (by decide : 6 + 8 ≤ _)⟩)
        dsimp only [Pt.U, Pt.locs, Pt.cells, Pt.slots] at X85 l85 y85 z85 st85 hQ85
        subst l85 y85 z85
        obtain ⟨b85, t85, kb85, rfl, N85q, K85, gE85, gC85, gV85, gA85⟩ := hQ85
        have N85 := Fr.app N0 N85q
        have OLDk85 := OLD.keep K85 all0
        have Zs85 : n0 ≤ T85.heap.size := Nat.le_trans Z0 K85.1
        have hk := Nat.le_trans hk K85.1
        refine own_stepW st85 ?_
        show own_EndsW p e below s _ _ _ T85 (mkF m 258 #[.val (.int i0), .val (.int i1), .val (.int i2), .val (.int i3), .val (.int i4), .val (.ref al5_251), .val (.int il6_251), .val (.int il7_251), .val (.int (2 : Int32)), .unset, .unset] [(.ref b85)])
        refine own_stepW (fun _ => XS.astore X85.here hx rfl (hb hby at_258) rfl rfl (l' := #[.val (.int i0), .val (.int i1), .val (.int i2), .val (.int i3), .val (.int i4), .val (.ref al5_251), .val (.int il6_251), .val (.int il7_251), .val (.int (2 : Int32)), .val (.ref b85), .unset]) rfl) ?_
        show own_EndsW p e below s _ _ _ T85 (mkF m 260 #[.val (.int i0), .val (.int i1), .val (.int i2), .val (.int i3), .val (.int i4), .val (.ref al5_251), .val (.int il6_251), .val (.int il7_251), .val (.int (2 : Int32)), .val (.ref b85), .unset] [])
        refine own_stepW (fun _ => XS.aconstNull X85.here hx rfl (hb hby at_260)) ?_
        show own_EndsW p e below s _ _ _ T85 (mkF m 261 #[.val (.int i0), .val (.int i1), .val (.int i2), .val (.int i3), .val (.int i4), .val (.ref al5_251), .val (.int il6_251), .val (.int il7_251), .val (.int (2 : Int32)), .val (.ref b85), .unset] [.null])
        refine own_stepW (fun _ => XS.astore X85.here hx rfl (hb hby at_261) rfl rfl (l' := #[.val (.int i0), .val (.int i1), .val (.int i2), .val (.int i3), .val (.int i4), .val (.ref al5_251), .val (.int il6_251), .val (.int il7_251), .val (.int (2 : Int32)), .val (.ref b85), .val .null]) rfl) ?_
        show own_EndsW p e below s _ _ _ T85 (mkF m 263 #[.val (.int i0), .val (.int i1), .val (.int i2), .val (.int i3), .val (.int i4), .val (.ref al5_251), .val (.int il6_251), .val (.int il7_251), .val (.int (2 : Int32)), .val (.ref b85), .val .null] [])
        refine own_stepW (fun _ => XS.iload X85.here hx rfl (hb hby at_263) rfl) ?_
        show own_EndsW p e below s _ _ _ T85 (mkF m 265 #[.val (.int i0), .val (.int i1), .val (.int i2), .val (.int i3), .val (.int i4), .val (.ref al5_251), .val (.int il6_251), .val (.int il7_251), .val (.int (2 : Int32)), .val (.ref b85), .val .null] [(.int (2 : Int32))])
        refine own_stepW (fun _ => XS.iconst X85.here hx rfl (hb hby at_265)) ?_
        show own_EndsW p e below s _ _ _ T85 (mkF m 266 #[.val (.int i0), .val (.int i1), .val (.int i2), .val (.int i3), .val (.int i4), .val (.ref al5_251), .val (.int il6_251), .val (.int il7_251), .val (.int (2 : Int32)), .val (.ref b85), .val .null] [(.int (4 : Int32)), (.int (2 : Int32))])
        refine own_stepW (fun _ => XS.icmpYes X85.here hx rfl (pc0 := 266) (pc' := 310) rfl (hb hby at_266) rfl (feq (show ¬ ((2 : Int32) = (4 : Int32)) from (by decide))).2 (by decide) (by decide)) ?_
        show own_EndsW p e below s _ _ _ T85 (mkF m 310 #[.val (.int i0), .val (.int i1), .val (.int i2), .val (.int i3), .val (.int i4), .val (.ref al5_251), .val (.int il6_251), .val (.int il7_251), .val (.int (2 : Int32)), .val (.ref b85), .val .null] [])
        refine own_stepW (fun _ => XS.iload X85.here hx rfl (hb hby at_310) rfl) ?_
        show own_EndsW p e below s _ _ _ T85 (mkF m 312 #[.val (.int i0), .val (.int i1), .val (.int i2), .val (.int i3), .val (.int i4), .val (.ref al5_251), .val (.int il6_251), .val (.int il7_251), .val (.int (2 : Int32)), .val (.ref b85), .val .null] [(.int (2 : Int32))])
        refine own_stepW (fun _ => XS.iconst X85.here hx rfl (hb hby at_312)) ?_
        show own_EndsW p e below s _ _ _ T85 (mkF m 313 #[.val (.int i0), .val (.int i1), .val (.int i2), .val (.int i3), .val (.int i4), .val (.ref al5_251), .val (.int il6_251), .val (.int il7_251), .val (.int (2 : Int32)), .val (.ref b85), .val .null] [(.int (3 : Int32)), (.int (2 : Int32))])
        refine own_stepW (fun _ => XS.icmpYes X85.here hx rfl (pc0 := 313) (pc' := 348) rfl (hb hby at_313) rfl (feq (show ¬ ((2 : Int32) = (3 : Int32)) from (by decide))).2 (by decide) (by decide)) ?_
        show own_EndsW p e below s _ _ _ T85 (mkF m 348 #[.val (.int i0), .val (.int i1), .val (.int i2), .val (.int i3), .val (.int i4), .val (.ref al5_251), .val (.int il6_251), .val (.int il7_251), .val (.int (2 : Int32)), .val (.ref b85), .val .null] [])
        refine own_stepW (fun _ => XS.iload X85.here hx rfl (hb hby at_348) rfl) ?_
        show own_EndsW p e below s _ _ _ T85 (mkF m 350 #[.val (.int i0), .val (.int i1), .val (.int i2), .val (.int i3), .val (.int i4), .val (.ref al5_251), .val (.int il6_251), .val (.int il7_251), .val (.int (2 : Int32)), .val (.ref b85), .val .null] [(.int (2 : Int32))])
        refine own_stepW (fun _ => XS.iconst X85.here hx rfl (hb hby at_350)) ?_
        show own_EndsW p e below s _ _ _ T85 (mkF m 351 #[.val (.int i0), .val (.int i1), .val (.int i2), .val (.int i3), .val (.int i4), .val (.ref al5_251), .val (.int il6_251), .val (.int il7_251), .val (.int (2 : Int32)), .val (.ref b85), .val .null] [(.int (5 : Int32)), (.int (2 : Int32))])
        refine own_stepW (fun _ => XS.icmpYes X85.here hx rfl (pc0 := 351) (pc' := 404) rfl (hb hby at_351) rfl (feq (show ¬ ((2 : Int32) = (5 : Int32)) from (by decide))).2 (by decide) (by decide)) ?_
        show own_EndsW p e below s _ _ _ T85 (mkF m 404 #[.val (.int i0), .val (.int i1), .val (.int i2), .val (.int i3), .val (.int i4), .val (.ref al5_251), .val (.int il6_251), .val (.int il7_251), .val (.int (2 : Int32)), .val (.ref b85), .val .null] [])
        refine own_stepW (fun _ => XS.aload X85.here hx rfl (hb hby at_404) rfl rfl) ?_
        show own_EndsW p e below s _ _ _ T85 (mkF m 406 #[.val (.int i0), .val (.int i1), .val (.int i2), .val (.int i3), .val (.int i4), .val (.ref al5_251), .val (.int il6_251), .val (.int il7_251), .val (.int (2 : Int32)), .val (.ref b85), .val .null] [(.ref b85)])
        have hp86 : ∀ c ∈ ([(nar .char (li.getD (0 : Int32).toNatClampNeg 0)), (nar .char (li.getD (1 : Int32).toNatClampNeg 0))] : List Int32), own_R c := (own_lc (own_rn hr _) (own_lc (own_rn hr _) own_ln))
        obtain ⟨_, _, ⟨T86, L86, k86, n86⟩, -, X86, ⟨Lc86, hQ86, l86, y86, z86⟩, st86⟩ := Jvm.LawKit.callS X85 hx (y := (⟨"lomwright/lom/Entity$Part", "of", "(Ljava/lang/String;)Llomwright/lom/Entity$Part;"⟩ : MethodName)) hown (mvT hZ (hw _ (List.mem_of_getElem? (i := 37) rfl))) (mvT hZ (hw _ (List.mem_of_getElem? (i := 38) rfl))) (mvT hZ (hw _ (List.mem_of_getElem? (i := 35) rfl))) (mvT hZ (hw _ (List.mem_of_getElem? (i := 39) rfl))) (by decide) (backOf (W := 0) (rm8 l Z a0 hw [] b85 t85 kb85 ([(nar .char (li.getD (0 : Int32).toNatClampNeg 0)), (nar .char (li.getD (1 : Int32).toNatClampNeg 0))]) (2 : Int32) G1 w3 w54 w83 w9 w22 w63 w92 w32 w73 w102 k_w9 k_w32 k_w73 k_w102 T85.heap n0 Zs85 OLDk85 gE85 gC85 gV85 gA85 O2 P5 (StrChars.Road.codOf (n := 2) rfl (fun c hc => (hp86 c hc).2)) (own_up hp86) (Nat.le_of_ble_eq_true rfl) bSNAME bSORG bSEMAIL bSALL bE0 bX0 bC0 bV0 bE1 bX1 bC1 bV1 bE2 bX2 bC2 bV2 bA0 bA1 bA2 bA3) hZ (hw _ (List.mem_of_getElem? (i := 39) rfl)) (hw _ (List.mem_of_getElem? (i := 35) rfl)) (by decide) (by decide)) (g := (mkF m 406 #[.val (.int i0), .val (.int i1), .val (.int i2), .val (.int i3), .val (.int i4), .val (.ref al5_251), .val (.int il6_251), .val (.int il7_251), .val (.int (2 : Int32)), .val (.ref b85), .val .null] [(.ref b85)])) rfl (by rw [hml]; rfl) (argsL := [(.ref b85)]) (rest := []) (lenOf pd_4 rfl) rfl (by show 2 * 0 + _ ≤ _; exact Nat.le_of_eq rfl) (hb hby at_406) (fun _ _ => ⟨rfl, rfl, (by decide : 4 + 0 ≤ _), (by decide : 14 + 0 ≤ _)⟩)
        dsimp only [Pt.U, Pt.locs, Pt.cells, Pt.slots] at X86 l86 y86 z86 st86 hQ86
        subst l86 y86 z86
        obtain ⟨rfl, N86q, hh86⟩ := hQ86
        have N86 := Fr.app N85 N86q
        refine own_stepW st86 ?_
        show own_EndsW p e below s _ _ _ T86 (mkF m 409 #[.val (.int i0), .val (.int i1), .val (.int i2), .val (.int i3), .val (.int i4), .val (.ref al5_251), .val (.int il6_251), .val (.int il7_251), .val (.int (2 : Int32)), .val (.ref b85), .val .null] [(f8_0 ([(nar .char (li.getD (0 : Int32).toNatClampNeg 0)), (nar .char (li.getD (1 : Int32).toNatClampNeg 0))]) w3 w54 w83)])
        refine own_stepW (fun _ => XS.aload X86.here hx rfl (hb hby at_409) rfl rfl) ?_
        show own_EndsW p e below s _ _ _ T86 (mkF m 411 #[.val (.int i0), .val (.int i1), .val (.int i2), .val (.int i3), .val (.int i4), .val (.ref al5_251), .val (.int il6_251), .val (.int il7_251), .val (.int (2 : Int32)), .val (.ref b85), .val .null] [.null, (f8_0 ([(nar .char (li.getD (0 : Int32).toNatClampNeg 0)), (nar .char (li.getD (1 : Int32).toNatClampNeg 0))]) w3 w54 w83)])
        by_cases hc411 : (f8_0 ([(nar .char (li.getD (0 : Int32).toNatClampNeg 0)), (nar .char (li.getD (1 : Int32).toNatClampNeg 0))]) w3 w54 w83) = .null
        · have hvf0f1t2_t := hvf0f1t2.trans (if_pos hc411)
          refine own_stepW (fun _ => Jvm.RoadKit.acmp (g := (mkF m 411 #[.val (.int i0), .val (.int i1), .val (.int i2), .val (.int i3), .val (.int i4), .val (.ref al5_251), .val (.int il6_251), .val (.int il7_251), .val (.int (2 : Int32)), .val (.ref b85), .val .null] [.null, (f8_0 ([(nar .char (li.getD (0 : Int32).toNatClampNeg 0)), (nar .char (li.getD (1 : Int32).toNatClampNeg 0))]) w3 w54 w83)])) X86 hx rfl (own_f8ref _ _ _ _) rfl (pc0 := 411) (pc' := 414) (same := true) rfl (hb hby at_411) rfl (decide_eq_true hc411) (by decide) (by decide)) ?_
          show own_EndsW p e below s _ _ _ T86 (mkF m 414 #[.val (.int i0), .val (.int i1), .val (.int i2), .val (.int i3), .val (.int i4), .val (.ref al5_251), .val (.int il6_251), .val (.int il7_251), .val (.int (2 : Int32)), .val (.ref b85), .val .null] [])
          refine own_stepW (fun _ => XS.iconst X86.here hx rfl (hb hby at_414)) ?_
          show own_EndsW p e below s _ _ _ T86 (mkF m 415 #[.val (.int i0), .val (.int i1), .val (.int i2), .val (.int i3), .val (.int i4), .val (.ref al5_251), .val (.int il6_251), .val (.int il7_251), .val (.int (2 : Int32)), .val (.ref b85), .val .null] [(.int (1 : Int32))])
          refine own_stepW (fun _ => XS.goto X86.here hx rfl (pc0 := 415) (pc' := 419) rfl (hb hby at_415) (by decide) (by decide)) ?_
          show own_EndsW p e below s _ _ _ T86 (mkF m 419 #[.val (.int i0), .val (.int i1), .val (.int i2), .val (.int i3), .val (.int i4), .val (.ref al5_251), .val (.int il6_251), .val (.int il7_251), .val (.int (2 : Int32)), .val (.ref b85), .val .null] [(.int (1 : Int32))])
          exact own_retNW X86 hS (by rw [hh86]; exact hk) (t := .boolean) hx hret hlk (hb hby at_419) (by decide) (by decide) (by simp) ⟨congrArg (fun z => some (Value.int z)) hvf0f1t2_t.symm, N86, trivial⟩
        · have hvf0f1t2_f := hvf0f1t2.trans (if_neg hc411)
          refine own_stepW (fun _ => Jvm.RoadKit.acmp (g := (mkF m 411 #[.val (.int i0), .val (.int i1), .val (.int i2), .val (.int i3), .val (.int i4), .val (.ref al5_251), .val (.int il6_251), .val (.int il7_251), .val (.int (2 : Int32)), .val (.ref b85), .val .null] [.null, (f8_0 ([(nar .char (li.getD (0 : Int32).toNatClampNeg 0)), (nar .char (li.getD (1 : Int32).toNatClampNeg 0))]) w3 w54 w83)])) X86 hx rfl (own_f8ref _ _ _ _) rfl (pc0 := 411) (pc' := 418) (same := false) rfl (hb hby at_411) rfl (decide_eq_false hc411) (by decide) (by decide)) ?_
          show own_EndsW p e below s _ _ _ T86 (mkF m 418 #[.val (.int i0), .val (.int i1), .val (.int i2), .val (.int i3), .val (.int i4), .val (.ref al5_251), .val (.int il6_251), .val (.int il7_251), .val (.int (2 : Int32)), .val (.ref b85), .val .null] [])
          refine own_stepW (fun _ => XS.iconst X86.here hx rfl (hb hby at_418)) ?_
          show own_EndsW p e below s _ _ _ T86 (mkF m 419 #[.val (.int i0), .val (.int i1), .val (.int i2), .val (.int i3), .val (.int i4), .val (.ref al5_251), .val (.int il6_251), .val (.int il7_251), .val (.int (2 : Int32)), .val (.ref b85), .val .null] [(.int (0 : Int32))])
          exact own_retNW X86 hS (by rw [hh86]; exact hk) (t := .boolean) hx hret hlk (hb hby at_419) (by decide) (by decide) (by simp) ⟨congrArg (fun z => some (Value.int z)) hvf0f1t2_f.symm, N86, trivial⟩
      · have hvf0f1f2 := hvf0f1.trans (if_neg hN2)
        by_cases hN3 : il8_251 = (3 : Int32)
        · have hvf0f1f2t3 := hvf0f1f2.trans (if_pos hN3)
          rw [hN3]
          refine own_stepW (fun _ => XS.aload X0.here hx rfl (hb hby at_251) rfl rfl) ?_
          show own_EndsW p e below s _ _ _ T0 (mkF m 253 #[.val (.int i0), .val (.int i1), .val (.int i2), .val (.int i3), .val (.int i4), .val (.ref al5_251), .val (.int il6_251), .val (.int il7_251), .val (.int (3 : Int32)), .unset, .unset] [(.ref al5_251)])
          refine own_stepW (fun _ => XS.iload X0.here hx rfl (hb hby at_253) rfl) ?_
          show own_EndsW p e below s _ _ _ T0 (mkF m 255 #[.val (.int i0), .val (.int i1), .val (.int i2), .val (.int i3), .val (.int i4), .val (.ref al5_251), .val (.int il6_251), .val (.int il7_251), .val (.int (3 : Int32)), .unset, .unset] [(.int (3 : Int32)), (.ref al5_251)])
          obtain ⟨_, _, ⟨T87, L87, k87, n87⟩, -, X87, ⟨Lc87, hQ87, l87, y87, z87⟩, st87⟩ := Jvm.LawKit.callS X0 hx (y := (⟨"lomwright/lom/PartOfPinLaw", "text", "([CI)Ljava/lang/String;"⟩ : MethodName)) hown (mvT hZ (hw _ (List.mem_of_getElem? (i := 1) rfl))) (mvT hZ (hw _ (List.mem_of_getElem? (i := 2) rfl))) (mvT hZ (hw _ (List.mem_of_getElem? (i := 3) rfl))) (mvT hZ (hw _ (List.mem_of_getElem? (i := 4) rfl))) (by decide) (backOf (W := 0) (rm1_3 l Z a0 hw [] al5_251 ka li G1 h0 n0 Z0 OLD Va O2 P5 hr) hZ (hw _ (List.mem_of_getElem? (i := 4) rfl)) (hw _ (List.mem_of_getElem? (i := 3) rfl)) (by decide) (by decide)) (g := (mkF m 255 #[.val (.int i0), .val (.int i1), .val (.int i2), .val (.int i3), .val (.int i4), .val (.ref al5_251), .val (.int il6_251), .val (.int il7_251), .val (.int (3 : Int32)), .unset, .unset] [(.int (3 : Int32)), (.ref al5_251)])) rfl (by rw [hml]; rfl) (argsL := [(.ref al5_251), (.int (3 : Int32))]) (rest := []) (lenOf pd_3 rfl) rfl (by show 2 * 0 + _ ≤ _; exact Nat.le_of_eq rfl) (hb hby at_255) (fun _ _ => ⟨rfl, e0, (by decide : 1 + 3 ≤ _), (by decide : 6 + 10 ≤ _)⟩)
          dsimp only [Pt.U, Pt.locs, Pt.cells, Pt.slots] at X87 l87 y87 z87 st87 hQ87
          subst l87 y87 z87
          obtain ⟨b87, t87, kb87, rfl, N87q, K87, gE87, gC87, gV87, gA87⟩ := hQ87
          have N87 := Fr.app N0 N87q
          have OLDk87 := OLD.keep K87 all0
          have Zs87 : n0 ≤ T87.heap.size := Nat.le_trans Z0 K87.1
          have hk := Nat.le_trans hk K87.1
          refine own_stepW st87 ?_
          show own_EndsW p e below s _ _ _ T87 (mkF m 258 #[.val (.int i0), .val (.int i1), .val (.int i2), .val (.int i3), .val (.int i4), .val (.ref al5_251), .val (.int il6_251), .val (.int il7_251), .val (.int (3 : Int32)), .unset, .unset] [(.ref b87)])
          refine own_stepW (fun _ => XS.astore X87.here hx rfl (hb hby at_258) rfl rfl (l' := #[.val (.int i0), .val (.int i1), .val (.int i2), .val (.int i3), .val (.int i4), .val (.ref al5_251), .val (.int il6_251), .val (.int il7_251), .val (.int (3 : Int32)), .val (.ref b87), .unset]) rfl) ?_
          show own_EndsW p e below s _ _ _ T87 (mkF m 260 #[.val (.int i0), .val (.int i1), .val (.int i2), .val (.int i3), .val (.int i4), .val (.ref al5_251), .val (.int il6_251), .val (.int il7_251), .val (.int (3 : Int32)), .val (.ref b87), .unset] [])
          refine own_stepW (fun _ => XS.aconstNull X87.here hx rfl (hb hby at_260)) ?_
          show own_EndsW p e below s _ _ _ T87 (mkF m 261 #[.val (.int i0), .val (.int i1), .val (.int i2), .val (.int i3), .val (.int i4), .val (.ref al5_251), .val (.int il6_251), .val (.int il7_251), .val (.int (3 : Int32)), .val (.ref b87), .unset] [.null])
          refine own_stepW (fun _ => XS.astore X87.here hx rfl (hb hby at_261) rfl rfl (l' := #[.val (.int i0), .val (.int i1), .val (.int i2), .val (.int i3), .val (.int i4), .val (.ref al5_251), .val (.int il6_251), .val (.int il7_251), .val (.int (3 : Int32)), .val (.ref b87), .val .null]) rfl) ?_
          show own_EndsW p e below s _ _ _ T87 (mkF m 263 #[.val (.int i0), .val (.int i1), .val (.int i2), .val (.int i3), .val (.int i4), .val (.ref al5_251), .val (.int il6_251), .val (.int il7_251), .val (.int (3 : Int32)), .val (.ref b87), .val .null] [])
          refine own_stepW (fun _ => XS.iload X87.here hx rfl (hb hby at_263) rfl) ?_
          show own_EndsW p e below s _ _ _ T87 (mkF m 265 #[.val (.int i0), .val (.int i1), .val (.int i2), .val (.int i3), .val (.int i4), .val (.ref al5_251), .val (.int il6_251), .val (.int il7_251), .val (.int (3 : Int32)), .val (.ref b87), .val .null] [(.int (3 : Int32))])
          refine own_stepW (fun _ => XS.iconst X87.here hx rfl (hb hby at_265)) ?_
          show own_EndsW p e below s _ _ _ T87 (mkF m 266 #[.val (.int i0), .val (.int i1), .val (.int i2), .val (.int i3), .val (.int i4), .val (.ref al5_251), .val (.int il6_251), .val (.int il7_251), .val (.int (3 : Int32)), .val (.ref b87), .val .null] [(.int (4 : Int32)), (.int (3 : Int32))])
          refine own_stepW (fun _ => XS.icmpYes X87.here hx rfl (pc0 := 266) (pc' := 310) rfl (hb hby at_266) rfl (feq (show ¬ ((3 : Int32) = (4 : Int32)) from (by decide))).2 (by decide) (by decide)) ?_
          show own_EndsW p e below s _ _ _ T87 (mkF m 310 #[.val (.int i0), .val (.int i1), .val (.int i2), .val (.int i3), .val (.int i4), .val (.ref al5_251), .val (.int il6_251), .val (.int il7_251), .val (.int (3 : Int32)), .val (.ref b87), .val .null] [])
          refine own_stepW (fun _ => XS.iload X87.here hx rfl (hb hby at_310) rfl) ?_
          show own_EndsW p e below s _ _ _ T87 (mkF m 312 #[.val (.int i0), .val (.int i1), .val (.int i2), .val (.int i3), .val (.int i4), .val (.ref al5_251), .val (.int il6_251), .val (.int il7_251), .val (.int (3 : Int32)), .val (.ref b87), .val .null] [(.int (3 : Int32))])
          refine own_stepW (fun _ => XS.iconst X87.here hx rfl (hb hby at_312)) ?_
          show own_EndsW p e below s _ _ _ T87 (mkF m 313 #[.val (.int i0), .val (.int i1), .val (.int i2), .val (.int i3), .val (.int i4), .val (.ref al5_251), .val (.int il6_251), .val (.int il7_251), .val (.int (3 : Int32)), .val (.ref b87), .val .null] [(.int (3 : Int32)), (.int (3 : Int32))])
          refine own_stepW (fun _ => XS.icmpNo X87.here hx rfl (hb hby at_313) rfl (teq (show (3 : Int32) = (3 : Int32) from (by decide))).2) ?_
          show own_EndsW p e below s _ _ _ T87 (mkF m 316 #[.val (.int i0), .val (.int i1), .val (.int i2), .val (.int i3), .val (.int i4), .val (.ref al5_251), .val (.int il6_251), .val (.int il7_251), .val (.int (3 : Int32)), .val (.ref b87), .val .null] [])
          refine own_stepW (fun _ => XS.aload X87.here hx rfl (hb hby at_316) rfl rfl) ?_
          show own_EndsW p e below s _ _ _ T87 (mkF m 318 #[.val (.int i0), .val (.int i1), .val (.int i2), .val (.int i3), .val (.int i4), .val (.ref al5_251), .val (.int il6_251), .val (.int il7_251), .val (.int (3 : Int32)), .val (.ref b87), .val .null] [(.ref al5_251)])
          refine own_stepW (fun _ => XS.iconst X87.here hx rfl (hb hby at_318)) ?_
          show own_EndsW p e below s _ _ _ T87 (mkF m 319 #[.val (.int i0), .val (.int i1), .val (.int i2), .val (.int i3), .val (.int i4), .val (.ref al5_251), .val (.int il6_251), .val (.int il7_251), .val (.int (3 : Int32)), .val (.ref b87), .val .null] [(.int (0 : Int32)), (.ref al5_251)])
          obtain ⟨cl88, Ar88, q88, S88, N88_, H88, G88⟩ := id (Va.keep K87 nin0)
          have hin88 : ¬ ((0 : Int32) < 0 ∨ cl88.slots.size ≤ ((0 : Int32)).toNatClampNeg) := inb_of S88 ⟨by decide, by decide⟩
          have hat88 : cl88.slots[((0 : Int32)).toNatClampNeg]? = some (.int (li.getD (0 : Int32).toNatClampNeg 0)) := H88.at hin88 (own_getD li _)
          refine own_stepW (fun _ => X87.caload hx (j := (0 : Int32)) (v := (.int (li.getD (0 : Int32).toNatClampNeg 0))) (by exact Ar88.1) (State.isArrayOf_alike hZ.alike Ar88.2.1) Ar88.2.2 hin88 hat88 (g := (mkF m 319 #[.val (.int i0), .val (.int i1), .val (.int i2), .val (.int i3), .val (.int i4), .val (.ref al5_251), .val (.int il6_251), .val (.int il7_251), .val (.int (3 : Int32)), .val (.ref b87), .val .null] [(.int (0 : Int32)), (.ref al5_251)])) rfl rfl (hb hby at_319) _) ?_
          show own_EndsW p e below s _ _ _ T87 (mkF m 320 #[.val (.int i0), .val (.int i1), .val (.int i2), .val (.int i3), .val (.int i4), .val (.ref al5_251), .val (.int il6_251), .val (.int il7_251), .val (.int (3 : Int32)), .val (.ref b87), .val .null] [(.int (li.getD (0 : Int32).toNatClampNeg 0))])
          refine own_stepW (fun _ => XS.bipush X87.here hx rfl (hb hby at_320)) ?_
          show own_EndsW p e below s _ _ _ T87 (mkF m 322 #[.val (.int i0), .val (.int i1), .val (.int i2), .val (.int i3), .val (.int i4), .val (.ref al5_251), .val (.int il6_251), .val (.int il7_251), .val (.int (3 : Int32)), .val (.ref b87), .val .null] [(.int (111 : Int32)), (.int (li.getD (0 : Int32).toNatClampNeg 0))])
          by_cases hc322 : (li.getD (0 : Int32).toNatClampNeg 0) = (111 : Int32)
          · have hvf0f1f2t3_t := hvf0f1f2t3.trans (if_pos hc322)
            refine own_stepW (fun _ => XS.icmpNo X87.here hx rfl (hb hby at_322) rfl (teq hc322).2) ?_
            show own_EndsW p e below s _ _ _ T87 (mkF m 325 #[.val (.int i0), .val (.int i1), .val (.int i2), .val (.int i3), .val (.int i4), .val (.ref al5_251), .val (.int il6_251), .val (.int il7_251), .val (.int (3 : Int32)), .val (.ref b87), .val .null] [])
            refine own_stepW (fun _ => XS.aload X87.here hx rfl (hb hby at_325) rfl rfl) ?_
            show own_EndsW p e below s _ _ _ T87 (mkF m 327 #[.val (.int i0), .val (.int i1), .val (.int i2), .val (.int i3), .val (.int i4), .val (.ref al5_251), .val (.int il6_251), .val (.int il7_251), .val (.int (3 : Int32)), .val (.ref b87), .val .null] [(.ref al5_251)])
            refine own_stepW (fun _ => XS.iconst X87.here hx rfl (hb hby at_327)) ?_
            show own_EndsW p e below s _ _ _ T87 (mkF m 328 #[.val (.int i0), .val (.int i1), .val (.int i2), .val (.int i3), .val (.int i4), .val (.ref al5_251), .val (.int il6_251), .val (.int il7_251), .val (.int (3 : Int32)), .val (.ref b87), .val .null] [(.int (1 : Int32)), (.ref al5_251)])
            obtain ⟨cl89, Ar89, q89, S89, N89_, H89, G89⟩ := id (Va.keep K87 nin0)
            have hin89 : ¬ ((1 : Int32) < 0 ∨ cl89.slots.size ≤ ((1 : Int32)).toNatClampNeg) := inb_of S89 ⟨by decide, by decide⟩
            have hat89 : cl89.slots[((1 : Int32)).toNatClampNeg]? = some (.int (li.getD (1 : Int32).toNatClampNeg 0)) := H89.at hin89 (own_getD li _)
            refine own_stepW (fun _ => X87.caload hx (j := (1 : Int32)) (v := (.int (li.getD (1 : Int32).toNatClampNeg 0))) (by exact Ar89.1) (State.isArrayOf_alike hZ.alike Ar89.2.1) Ar89.2.2 hin89 hat89 (g := (mkF m 328 #[.val (.int i0), .val (.int i1), .val (.int i2), .val (.int i3), .val (.int i4), .val (.ref al5_251), .val (.int il6_251), .val (.int il7_251), .val (.int (3 : Int32)), .val (.ref b87), .val .null] [(.int (1 : Int32)), (.ref al5_251)])) rfl rfl (hb hby at_328) _) ?_
            show own_EndsW p e below s _ _ _ T87 (mkF m 329 #[.val (.int i0), .val (.int i1), .val (.int i2), .val (.int i3), .val (.int i4), .val (.ref al5_251), .val (.int il6_251), .val (.int il7_251), .val (.int (3 : Int32)), .val (.ref b87), .val .null] [(.int (li.getD (1 : Int32).toNatClampNeg 0))])
            refine own_stepW (fun _ => XS.bipush X87.here hx rfl (hb hby at_329)) ?_
            show own_EndsW p e below s _ _ _ T87 (mkF m 331 #[.val (.int i0), .val (.int i1), .val (.int i2), .val (.int i3), .val (.int i4), .val (.ref al5_251), .val (.int il6_251), .val (.int il7_251), .val (.int (3 : Int32)), .val (.ref b87), .val .null] [(.int (114 : Int32)), (.int (li.getD (1 : Int32).toNatClampNeg 0))])
            by_cases hc331 : (li.getD (1 : Int32).toNatClampNeg 0) = (114 : Int32)
            · have hvf0f1f2t3_t_t := hvf0f1f2t3_t.trans (if_pos hc331)
              refine own_stepW (fun _ => XS.icmpNo X87.here hx rfl (hb hby at_331) rfl (teq hc331).2) ?_
              show own_EndsW p e below s _ _ _ T87 (mkF m 334 #[.val (.int i0), .val (.int i1), .val (.int i2), .val (.int i3), .val (.int i4), .val (.ref al5_251), .val (.int il6_251), .val (.int il7_251), .val (.int (3 : Int32)), .val (.ref b87), .val .null] [])
              refine own_stepW (fun _ => XS.aload X87.here hx rfl (hb hby at_334) rfl rfl) ?_
              show own_EndsW p e below s _ _ _ T87 (mkF m 336 #[.val (.int i0), .val (.int i1), .val (.int i2), .val (.int i3), .val (.int i4), .val (.ref al5_251), .val (.int il6_251), .val (.int il7_251), .val (.int (3 : Int32)), .val (.ref b87), .val .null] [(.ref al5_251)])
              refine own_stepW (fun _ => XS.iconst X87.here hx rfl (hb hby at_336)) ?_
              show own_EndsW p e below s _ _ _ T87 (mkF m 337 #[.val (.int i0), .val (.int i1), .val (.int i2), .val (.int i3), .val (.int i4), .val (.ref al5_251), .val (.int il6_251), .val (.int il7_251), .val (.int (3 : Int32)), .val (.ref b87), .val .null] [(.int (2 : Int32)), (.ref al5_251)])
              obtain ⟨cl90, Ar90, q90, S90, N90_, H90, G90⟩ := id (Va.keep K87 nin0)
              have hin90 : ¬ ((2 : Int32) < 0 ∨ cl90.slots.size ≤ ((2 : Int32)).toNatClampNeg) := inb_of S90 ⟨by decide, by decide⟩
              have hat90 : cl90.slots[((2 : Int32)).toNatClampNeg]? = some (.int (li.getD (2 : Int32).toNatClampNeg 0)) := H90.at hin90 (own_getD li _)
              refine own_stepW (fun _ => X87.caload hx (j := (2 : Int32)) (v := (.int (li.getD (2 : Int32).toNatClampNeg 0))) (by exact Ar90.1) (State.isArrayOf_alike hZ.alike Ar90.2.1) Ar90.2.2 hin90 hat90 (g := (mkF m 337 #[.val (.int i0), .val (.int i1), .val (.int i2), .val (.int i3), .val (.int i4), .val (.ref al5_251), .val (.int il6_251), .val (.int il7_251), .val (.int (3 : Int32)), .val (.ref b87), .val .null] [(.int (2 : Int32)), (.ref al5_251)])) rfl rfl (hb hby at_337) _) ?_
              show own_EndsW p e below s _ _ _ T87 (mkF m 338 #[.val (.int i0), .val (.int i1), .val (.int i2), .val (.int i3), .val (.int i4), .val (.ref al5_251), .val (.int il6_251), .val (.int il7_251), .val (.int (3 : Int32)), .val (.ref b87), .val .null] [(.int (li.getD (2 : Int32).toNatClampNeg 0))])
              refine own_stepW (fun _ => XS.bipush X87.here hx rfl (hb hby at_338)) ?_
              show own_EndsW p e below s _ _ _ T87 (mkF m 340 #[.val (.int i0), .val (.int i1), .val (.int i2), .val (.int i3), .val (.int i4), .val (.ref al5_251), .val (.int il6_251), .val (.int il7_251), .val (.int (3 : Int32)), .val (.ref b87), .val .null] [(.int (103 : Int32)), (.int (li.getD (2 : Int32).toNatClampNeg 0))])
              by_cases hc340 : (li.getD (2 : Int32).toNatClampNeg 0) = (103 : Int32)
              · have hvf0f1f2t3_t_t_t := hvf0f1f2t3_t_t.trans (if_pos hc340)
                refine own_stepW (fun _ => XS.icmpNo X87.here hx rfl (hb hby at_340) rfl (teq hc340).2) ?_
                show own_EndsW p e below s _ _ _ T87 (mkF m 343 #[.val (.int i0), .val (.int i1), .val (.int i2), .val (.int i3), .val (.int i4), .val (.ref al5_251), .val (.int il6_251), .val (.int il7_251), .val (.int (3 : Int32)), .val (.ref b87), .val .null] [])
                obtain ⟨T91, X91, e91, st91⟩ := getS2 X87 hx hZ hown (host := "") (Or.inl (hw _ (List.mem_of_getElem? (i := 61) rfl))) Via.refl rfl (bSORG.ext OLDk87.2) (g := (mkF m 343 #[.val (.int i0), .val (.int i1), .val (.int i2), .val (.int i3), .val (.int i4), .val (.ref al5_251), .val (.int il6_251), .val (.int il7_251), .val (.int (3 : Int32)), .val (.ref b87), .val .null] [])) rfl (hb hby at_343)
                refine own_stepW st91 ?_
                show own_EndsW p e below s _ _ _ T91 (mkF m 346 #[.val (.int i0), .val (.int i1), .val (.int i2), .val (.int i3), .val (.int i4), .val (.ref al5_251), .val (.int il6_251), .val (.int il7_251), .val (.int (3 : Int32)), .val (.ref b87), .val .null] [(.ref w54)])
                refine own_stepW (fun _ => XS.astore X91.here hx rfl (hb hby at_346) rfl rfl (l' := #[.val (.int i0), .val (.int i1), .val (.int i2), .val (.int i3), .val (.int i4), .val (.ref al5_251), .val (.int il6_251), .val (.int il7_251), .val (.int (3 : Int32)), .val (.ref b87), .val (.ref w54)]) rfl) ?_
                show own_EndsW p e below s _ _ _ T91 (mkF m 348 #[.val (.int i0), .val (.int i1), .val (.int i2), .val (.int i3), .val (.int i4), .val (.ref al5_251), .val (.int il6_251), .val (.int il7_251), .val (.int (3 : Int32)), .val (.ref b87), .val (.ref w54)] [])
                refine own_stepW (fun _ => XS.iload X91.here hx rfl (hb hby at_348) rfl) ?_
                show own_EndsW p e below s _ _ _ T91 (mkF m 350 #[.val (.int i0), .val (.int i1), .val (.int i2), .val (.int i3), .val (.int i4), .val (.ref al5_251), .val (.int il6_251), .val (.int il7_251), .val (.int (3 : Int32)), .val (.ref b87), .val (.ref w54)] [(.int (3 : Int32))])
                refine own_stepW (fun _ => XS.iconst X91.here hx rfl (hb hby at_350)) ?_
                show own_EndsW p e below s _ _ _ T91 (mkF m 351 #[.val (.int i0), .val (.int i1), .val (.int i2), .val (.int i3), .val (.int i4), .val (.ref al5_251), .val (.int il6_251), .val (.int il7_251), .val (.int (3 : Int32)), .val (.ref b87), .val (.ref w54)] [(.int (5 : Int32)), (.int (3 : Int32))])
                refine own_stepW (fun _ => XS.icmpYes X91.here hx rfl (pc0 := 351) (pc' := 404) rfl (hb hby at_351) rfl (feq (show ¬ ((3 : Int32) = (5 : Int32)) from (by decide))).2 (by decide) (by decide)) ?_
                show own_EndsW p e below s _ _ _ T91 (mkF m 404 #[.val (.int i0), .val (.int i1), .val (.int i2), .val (.int i3), .val (.int i4), .val (.ref al5_251), .val (.int il6_251), .val (.int il7_251), .val (.int (3 : Int32)), .val (.ref b87), .val (.ref w54)] [])
                refine own_stepW (fun _ => XS.aload X91.here hx rfl (hb hby at_404) rfl rfl) ?_
                show own_EndsW p e below s _ _ _ T91 (mkF m 406 #[.val (.int i0), .val (.int i1), .val (.int i2), .val (.int i3), .val (.int i4), .val (.ref al5_251), .val (.int il6_251), .val (.int il7_251), .val (.int (3 : Int32)), .val (.ref b87), .val (.ref w54)] [(.ref b87)])
                have hp92 : ∀ c ∈ ([(nar .char (li.getD (0 : Int32).toNatClampNeg 0)), (nar .char (li.getD (1 : Int32).toNatClampNeg 0)), (nar .char (li.getD (2 : Int32).toNatClampNeg 0))] : List Int32), own_R c := (own_lc (own_rn hr _) (own_lc (own_rn hr _) (own_lc (own_rn hr _) own_ln)))
                obtain ⟨_, _, ⟨T92, L92, k92, n92⟩, -, X92, ⟨Lc92, hQ92, l92, y92, z92⟩, st92⟩ := Jvm.LawKit.callS X91 hx (y := (⟨"lomwright/lom/Entity$Part", "of", "(Ljava/lang/String;)Llomwright/lom/Entity$Part;"⟩ : MethodName)) hown (mvT hZ (hw _ (List.mem_of_getElem? (i := 37) rfl))) (mvT hZ (hw _ (List.mem_of_getElem? (i := 38) rfl))) (mvT hZ (hw _ (List.mem_of_getElem? (i := 35) rfl))) (mvT hZ (hw _ (List.mem_of_getElem? (i := 39) rfl))) (by decide) (backOf (W := 0) (rm8 l Z a0 hw [] b87 t87 kb87 ([(nar .char (li.getD (0 : Int32).toNatClampNeg 0)), (nar .char (li.getD (1 : Int32).toNatClampNeg 0)), (nar .char (li.getD (2 : Int32).toNatClampNeg 0))]) (3 : Int32) G1 w3 w54 w83 w9 w22 w63 w92 w32 w73 w102 k_w9 k_w32 k_w73 k_w102 T87.heap n0 Zs87 OLDk87 gE87 gC87 gV87 gA87 O2 P5 (StrChars.Road.codOf (n := 3) rfl (fun c hc => (hp92 c hc).2)) (own_up hp92) (Nat.le_of_ble_eq_true rfl) bSNAME bSORG bSEMAIL bSALL bE0 bX0 bC0 bV0 bE1 bX1 bC1 bV1 bE2 bX2 bC2 bV2 bA0 bA1 bA2 bA3) hZ (hw _ (List.mem_of_getElem? (i := 39) rfl)) (hw _ (List.mem_of_getElem? (i := 35) rfl)) (by decide) (by decide)) (g := (mkF m 406 #[.val (.int i0), .val (.int i1), .val (.int i2), .val (.int i3), .val (.int i4), .val (.ref al5_251), .val (.int il6_251), .val (.int il7_251), .val (.int (3 : Int32)), .val (.ref b87), .val (.ref w54)] [(.ref b87)])) rfl (by rw [hml]; rfl) (argsL := [(.ref b87)]) (rest := []) (lenOf pd_4 rfl) rfl (by show 2 * 0 + _ ≤ _; exact Nat.le_of_eq rfl) (hb hby at_406) (fun _ _ => ⟨rfl, e91, (by decide : 4 + 0 ≤ _), (by decide : 16 + 0 ≤ _)⟩)
                dsimp only [Pt.U, Pt.locs, Pt.cells, Pt.slots] at X92 l92 y92 z92 st92 hQ92
                subst l92 y92 z92
                obtain ⟨rfl, N92q, hh92⟩ := hQ92
                have N92 := Fr.app N87 N92q
                refine own_stepW st92 ?_
                show own_EndsW p e below s _ _ _ T92 (mkF m 409 #[.val (.int i0), .val (.int i1), .val (.int i2), .val (.int i3), .val (.int i4), .val (.ref al5_251), .val (.int il6_251), .val (.int il7_251), .val (.int (3 : Int32)), .val (.ref b87), .val (.ref w54)] [(f8_0 ([(nar .char (li.getD (0 : Int32).toNatClampNeg 0)), (nar .char (li.getD (1 : Int32).toNatClampNeg 0)), (nar .char (li.getD (2 : Int32).toNatClampNeg 0))]) w3 w54 w83)])
                refine own_stepW (fun _ => XS.aload X92.here hx rfl (hb hby at_409) rfl rfl) ?_
                show own_EndsW p e below s _ _ _ T92 (mkF m 411 #[.val (.int i0), .val (.int i1), .val (.int i2), .val (.int i3), .val (.int i4), .val (.ref al5_251), .val (.int il6_251), .val (.int il7_251), .val (.int (3 : Int32)), .val (.ref b87), .val (.ref w54)] [(.ref w54), (f8_0 ([(nar .char (li.getD (0 : Int32).toNatClampNeg 0)), (nar .char (li.getD (1 : Int32).toNatClampNeg 0)), (nar .char (li.getD (2 : Int32).toNatClampNeg 0))]) w3 w54 w83)])
                by_cases hc411 : (f8_0 ([(nar .char (li.getD (0 : Int32).toNatClampNeg 0)), (nar .char (li.getD (1 : Int32).toNatClampNeg 0)), (nar .char (li.getD (2 : Int32).toNatClampNeg 0))]) w3 w54 w83) = (.ref w54)
                · have hvf0f1f2t3_t_t_t_t := hvf0f1f2t3_t_t_t.trans (if_pos hc411)
                  refine own_stepW (fun _ => Jvm.RoadKit.acmp (g := (mkF m 411 #[.val (.int i0), .val (.int i1), .val (.int i2), .val (.int i3), .val (.int i4), .val (.ref al5_251), .val (.int il6_251), .val (.int il7_251), .val (.int (3 : Int32)), .val (.ref b87), .val (.ref w54)] [(.ref w54), (f8_0 ([(nar .char (li.getD (0 : Int32).toNatClampNeg 0)), (nar .char (li.getD (1 : Int32).toNatClampNeg 0)), (nar .char (li.getD (2 : Int32).toNatClampNeg 0))]) w3 w54 w83)])) X92 hx rfl (own_f8ref _ _ _ _) rfl (pc0 := 411) (pc' := 414) (same := true) rfl (hb hby at_411) rfl (decide_eq_true hc411) (by decide) (by decide)) ?_
                  show own_EndsW p e below s _ _ _ T92 (mkF m 414 #[.val (.int i0), .val (.int i1), .val (.int i2), .val (.int i3), .val (.int i4), .val (.ref al5_251), .val (.int il6_251), .val (.int il7_251), .val (.int (3 : Int32)), .val (.ref b87), .val (.ref w54)] [])
                  refine own_stepW (fun _ => XS.iconst X92.here hx rfl (hb hby at_414)) ?_
                  show own_EndsW p e below s _ _ _ T92 (mkF m 415 #[.val (.int i0), .val (.int i1), .val (.int i2), .val (.int i3), .val (.int i4), .val (.ref al5_251), .val (.int il6_251), .val (.int il7_251), .val (.int (3 : Int32)), .val (.ref b87), .val (.ref w54)] [(.int (1 : Int32))])
                  refine own_stepW (fun _ => XS.goto X92.here hx rfl (pc0 := 415) (pc' := 419) rfl (hb hby at_415) (by decide) (by decide)) ?_
                  show own_EndsW p e below s _ _ _ T92 (mkF m 419 #[.val (.int i0), .val (.int i1), .val (.int i2), .val (.int i3), .val (.int i4), .val (.ref al5_251), .val (.int il6_251), .val (.int il7_251), .val (.int (3 : Int32)), .val (.ref b87), .val (.ref w54)] [(.int (1 : Int32))])
                  exact own_retNW X92 hS (by rw [hh92]; exact hk) (t := .boolean) hx hret hlk (hb hby at_419) (by decide) (by decide) (by simp) ⟨congrArg (fun z => some (Value.int z)) hvf0f1f2t3_t_t_t_t.symm, N92, trivial⟩
                · have hvf0f1f2t3_t_t_t_f := hvf0f1f2t3_t_t_t.trans (if_neg hc411)
                  refine own_stepW (fun _ => Jvm.RoadKit.acmp (g := (mkF m 411 #[.val (.int i0), .val (.int i1), .val (.int i2), .val (.int i3), .val (.int i4), .val (.ref al5_251), .val (.int il6_251), .val (.int il7_251), .val (.int (3 : Int32)), .val (.ref b87), .val (.ref w54)] [(.ref w54), (f8_0 ([(nar .char (li.getD (0 : Int32).toNatClampNeg 0)), (nar .char (li.getD (1 : Int32).toNatClampNeg 0)), (nar .char (li.getD (2 : Int32).toNatClampNeg 0))]) w3 w54 w83)])) X92 hx rfl (own_f8ref _ _ _ _) rfl (pc0 := 411) (pc' := 418) (same := false) rfl (hb hby at_411) rfl (decide_eq_false hc411) (by decide) (by decide)) ?_
                  show own_EndsW p e below s _ _ _ T92 (mkF m 418 #[.val (.int i0), .val (.int i1), .val (.int i2), .val (.int i3), .val (.int i4), .val (.ref al5_251), .val (.int il6_251), .val (.int il7_251), .val (.int (3 : Int32)), .val (.ref b87), .val (.ref w54)] [])
                  refine own_stepW (fun _ => XS.iconst X92.here hx rfl (hb hby at_418)) ?_
                  show own_EndsW p e below s _ _ _ T92 (mkF m 419 #[.val (.int i0), .val (.int i1), .val (.int i2), .val (.int i3), .val (.int i4), .val (.ref al5_251), .val (.int il6_251), .val (.int il7_251), .val (.int (3 : Int32)), .val (.ref b87), .val (.ref w54)] [(.int (0 : Int32))])
                  exact own_retNW X92 hS (by rw [hh92]; exact hk) (t := .boolean) hx hret hlk (hb hby at_419) (by decide) (by decide) (by simp) ⟨congrArg (fun z => some (Value.int z)) hvf0f1f2t3_t_t_t_f.symm, N92, trivial⟩
              · have hvf0f1f2t3_t_t_f := hvf0f1f2t3_t_t.trans (if_neg hc340)
                refine own_stepW (fun _ => XS.icmpYes X87.here hx rfl (pc0 := 340) (pc' := 348) rfl (hb hby at_340) rfl (feq hc340).2 (by decide) (by decide)) ?_
                show own_EndsW p e below s _ _ _ T87 (mkF m 348 #[.val (.int i0), .val (.int i1), .val (.int i2), .val (.int i3), .val (.int i4), .val (.ref al5_251), .val (.int il6_251), .val (.int il7_251), .val (.int (3 : Int32)), .val (.ref b87), .val .null] [])
                refine own_stepW (fun _ => XS.iload X87.here hx rfl (hb hby at_348) rfl) ?_
                show own_EndsW p e below s _ _ _ T87 (mkF m 350 #[.val (.int i0), .val (.int i1), .val (.int i2), .val (.int i3), .val (.int i4), .val (.ref al5_251), .val (.int il6_251), .val (.int il7_251), .val (.int (3 : Int32)), .val (.ref b87), .val .null] [(.int (3 : Int32))])
                refine own_stepW (fun _ => XS.iconst X87.here hx rfl (hb hby at_350)) ?_
                show own_EndsW p e below s _ _ _ T87 (mkF m 351 #[.val (.int i0), .val (.int i1), .val (.int i2), .val (.int i3), .val (.int i4), .val (.ref al5_251), .val (.int il6_251), .val (.int il7_251), .val (.int (3 : Int32)), .val (.ref b87), .val .null] [(.int (5 : Int32)), (.int (3 : Int32))])
                refine own_stepW (fun _ => XS.icmpYes X87.here hx rfl (pc0 := 351) (pc' := 404) rfl (hb hby at_351) rfl (feq (show ¬ ((3 : Int32) = (5 : Int32)) from (by decide))).2 (by decide) (by decide)) ?_
                show own_EndsW p e below s _ _ _ T87 (mkF m 404 #[.val (.int i0), .val (.int i1), .val (.int i2), .val (.int i3), .val (.int i4), .val (.ref al5_251), .val (.int il6_251), .val (.int il7_251), .val (.int (3 : Int32)), .val (.ref b87), .val .null] [])
                refine own_stepW (fun _ => XS.aload X87.here hx rfl (hb hby at_404) rfl rfl) ?_
                show own_EndsW p e below s _ _ _ T87 (mkF m 406 #[.val (.int i0), .val (.int i1), .val (.int i2), .val (.int i3), .val (.int i4), .val (.ref al5_251), .val (.int il6_251), .val (.int il7_251), .val (.int (3 : Int32)), .val (.ref b87), .val .null] [(.ref b87)])
                have hp93 : ∀ c ∈ ([(nar .char (li.getD (0 : Int32).toNatClampNeg 0)), (nar .char (li.getD (1 : Int32).toNatClampNeg 0)), (nar .char (li.getD (2 : Int32).toNatClampNeg 0))] : List Int32), own_R c := (own_lc (own_rn hr _) (own_lc (own_rn hr _) (own_lc (own_rn hr _) own_ln)))
                obtain ⟨_, _, ⟨T93, L93, k93, n93⟩, -, X93, ⟨Lc93, hQ93, l93, y93, z93⟩, st93⟩ := Jvm.LawKit.callS X87 hx (y := (⟨"lomwright/lom/Entity$Part", "of", "(Ljava/lang/String;)Llomwright/lom/Entity$Part;"⟩ : MethodName)) hown (mvT hZ (hw _ (List.mem_of_getElem? (i := 37) rfl))) (mvT hZ (hw _ (List.mem_of_getElem? (i := 38) rfl))) (mvT hZ (hw _ (List.mem_of_getElem? (i := 35) rfl))) (mvT hZ (hw _ (List.mem_of_getElem? (i := 39) rfl))) (by decide) (backOf (W := 0) (rm8 l Z a0 hw [] b87 t87 kb87 ([(nar .char (li.getD (0 : Int32).toNatClampNeg 0)), (nar .char (li.getD (1 : Int32).toNatClampNeg 0)), (nar .char (li.getD (2 : Int32).toNatClampNeg 0))]) (3 : Int32) G1 w3 w54 w83 w9 w22 w63 w92 w32 w73 w102 k_w9 k_w32 k_w73 k_w102 T87.heap n0 Zs87 OLDk87 gE87 gC87 gV87 gA87 O2 P5 (StrChars.Road.codOf (n := 3) rfl (fun c hc => (hp93 c hc).2)) (own_up hp93) (Nat.le_of_ble_eq_true rfl) bSNAME bSORG bSEMAIL bSALL bE0 bX0 bC0 bV0 bE1 bX1 bC1 bV1 bE2 bX2 bC2 bV2 bA0 bA1 bA2 bA3) hZ (hw _ (List.mem_of_getElem? (i := 39) rfl)) (hw _ (List.mem_of_getElem? (i := 35) rfl)) (by decide) (by decide)) (g := (mkF m 406 #[.val (.int i0), .val (.int i1), .val (.int i2), .val (.int i3), .val (.int i4), .val (.ref al5_251), .val (.int il6_251), .val (.int il7_251), .val (.int (3 : Int32)), .val (.ref b87), .val .null] [(.ref b87)])) rfl (by rw [hml]; rfl) (argsL := [(.ref b87)]) (rest := []) (lenOf pd_4 rfl) rfl (by show 2 * 0 + _ ≤ _; exact Nat.le_of_eq rfl) (hb hby at_406) (fun _ _ => ⟨rfl, rfl, (by decide : 4 + 0 ≤ _), (by decide : 16 + 0 ≤ _)⟩)
                dsimp only [Pt.U, Pt.locs, Pt.cells, Pt.slots] at X93 l93 y93 z93 st93 hQ93
                subst l93 y93 z93
                obtain ⟨rfl, N93q, hh93⟩ := hQ93
                have N93 := Fr.app N87 N93q
                refine own_stepW st93 ?_
                show own_EndsW p e below s _ _ _ T93 (mkF m 409 #[.val (.int i0), .val (.int i1), .val (.int i2), .val (.int i3), .val (.int i4), .val (.ref al5_251), .val (.int il6_251), .val (.int il7_251), .val (.int (3 : Int32)), .val (.ref b87), .val .null] [(f8_0 ([(nar .char (li.getD (0 : Int32).toNatClampNeg 0)), (nar .char (li.getD (1 : Int32).toNatClampNeg 0)), (nar .char (li.getD (2 : Int32).toNatClampNeg 0))]) w3 w54 w83)])
                refine own_stepW (fun _ => XS.aload X93.here hx rfl (hb hby at_409) rfl rfl) ?_
                show own_EndsW p e below s _ _ _ T93 (mkF m 411 #[.val (.int i0), .val (.int i1), .val (.int i2), .val (.int i3), .val (.int i4), .val (.ref al5_251), .val (.int il6_251), .val (.int il7_251), .val (.int (3 : Int32)), .val (.ref b87), .val .null] [.null, (f8_0 ([(nar .char (li.getD (0 : Int32).toNatClampNeg 0)), (nar .char (li.getD (1 : Int32).toNatClampNeg 0)), (nar .char (li.getD (2 : Int32).toNatClampNeg 0))]) w3 w54 w83)])
                by_cases hc411 : (f8_0 ([(nar .char (li.getD (0 : Int32).toNatClampNeg 0)), (nar .char (li.getD (1 : Int32).toNatClampNeg 0)), (nar .char (li.getD (2 : Int32).toNatClampNeg 0))]) w3 w54 w83) = .null
                · have hvf0f1f2t3_t_t_f_t := hvf0f1f2t3_t_t_f.trans (if_pos hc411)
                  refine own_stepW (fun _ => Jvm.RoadKit.acmp (g := (mkF m 411 #[.val (.int i0), .val (.int i1), .val (.int i2), .val (.int i3), .val (.int i4), .val (.ref al5_251), .val (.int il6_251), .val (.int il7_251), .val (.int (3 : Int32)), .val (.ref b87), .val .null] [.null, (f8_0 ([(nar .char (li.getD (0 : Int32).toNatClampNeg 0)), (nar .char (li.getD (1 : Int32).toNatClampNeg 0)), (nar .char (li.getD (2 : Int32).toNatClampNeg 0))]) w3 w54 w83)])) X93 hx rfl (own_f8ref _ _ _ _) rfl (pc0 := 411) (pc' := 414) (same := true) rfl (hb hby at_411) rfl (decide_eq_true hc411) (by decide) (by decide)) ?_
                  show own_EndsW p e below s _ _ _ T93 (mkF m 414 #[.val (.int i0), .val (.int i1), .val (.int i2), .val (.int i3), .val (.int i4), .val (.ref al5_251), .val (.int il6_251), .val (.int il7_251), .val (.int (3 : Int32)), .val (.ref b87), .val .null] [])
                  refine own_stepW (fun _ => XS.iconst X93.here hx rfl (hb hby at_414)) ?_
                  show own_EndsW p e below s _ _ _ T93 (mkF m 415 #[.val (.int i0), .val (.int i1), .val (.int i2), .val (.int i3), .val (.int i4), .val (.ref al5_251), .val (.int il6_251), .val (.int il7_251), .val (.int (3 : Int32)), .val (.ref b87), .val .null] [(.int (1 : Int32))])
                  refine own_stepW (fun _ => XS.goto X93.here hx rfl (pc0 := 415) (pc' := 419) rfl (hb hby at_415) (by decide) (by decide)) ?_
                  show own_EndsW p e below s _ _ _ T93 (mkF m 419 #[.val (.int i0), .val (.int i1), .val (.int i2), .val (.int i3), .val (.int i4), .val (.ref al5_251), .val (.int il6_251), .val (.int il7_251), .val (.int (3 : Int32)), .val (.ref b87), .val .null] [(.int (1 : Int32))])
                  exact own_retNW X93 hS (by rw [hh93]; exact hk) (t := .boolean) hx hret hlk (hb hby at_419) (by decide) (by decide) (by simp) ⟨congrArg (fun z => some (Value.int z)) hvf0f1f2t3_t_t_f_t.symm, N93, trivial⟩
                · have hvf0f1f2t3_t_t_f_f := hvf0f1f2t3_t_t_f.trans (if_neg hc411)
                  refine own_stepW (fun _ => Jvm.RoadKit.acmp (g := (mkF m 411 #[.val (.int i0), .val (.int i1), .val (.int i2), .val (.int i3), .val (.int i4), .val (.ref al5_251), .val (.int il6_251), .val (.int il7_251), .val (.int (3 : Int32)), .val (.ref b87), .val .null] [.null, (f8_0 ([(nar .char (li.getD (0 : Int32).toNatClampNeg 0)), (nar .char (li.getD (1 : Int32).toNatClampNeg 0)), (nar .char (li.getD (2 : Int32).toNatClampNeg 0))]) w3 w54 w83)])) X93 hx rfl (own_f8ref _ _ _ _) rfl (pc0 := 411) (pc' := 418) (same := false) rfl (hb hby at_411) rfl (decide_eq_false hc411) (by decide) (by decide)) ?_
                  show own_EndsW p e below s _ _ _ T93 (mkF m 418 #[.val (.int i0), .val (.int i1), .val (.int i2), .val (.int i3), .val (.int i4), .val (.ref al5_251), .val (.int il6_251), .val (.int il7_251), .val (.int (3 : Int32)), .val (.ref b87), .val .null] [])
                  refine own_stepW (fun _ => XS.iconst X93.here hx rfl (hb hby at_418)) ?_
                  show own_EndsW p e below s _ _ _ T93 (mkF m 419 #[.val (.int i0), .val (.int i1), .val (.int i2), .val (.int i3), .val (.int i4), .val (.ref al5_251), .val (.int il6_251), .val (.int il7_251), .val (.int (3 : Int32)), .val (.ref b87), .val .null] [(.int (0 : Int32))])
                  exact own_retNW X93 hS (by rw [hh93]; exact hk) (t := .boolean) hx hret hlk (hb hby at_419) (by decide) (by decide) (by simp) ⟨congrArg (fun z => some (Value.int z)) hvf0f1f2t3_t_t_f_f.symm, N93, trivial⟩
            · have hvf0f1f2t3_t_f := hvf0f1f2t3_t.trans (if_neg hc331)
              refine own_stepW (fun _ => XS.icmpYes X87.here hx rfl (pc0 := 331) (pc' := 348) rfl (hb hby at_331) rfl (feq hc331).2 (by decide) (by decide)) ?_
              show own_EndsW p e below s _ _ _ T87 (mkF m 348 #[.val (.int i0), .val (.int i1), .val (.int i2), .val (.int i3), .val (.int i4), .val (.ref al5_251), .val (.int il6_251), .val (.int il7_251), .val (.int (3 : Int32)), .val (.ref b87), .val .null] [])
              refine own_stepW (fun _ => XS.iload X87.here hx rfl (hb hby at_348) rfl) ?_
              show own_EndsW p e below s _ _ _ T87 (mkF m 350 #[.val (.int i0), .val (.int i1), .val (.int i2), .val (.int i3), .val (.int i4), .val (.ref al5_251), .val (.int il6_251), .val (.int il7_251), .val (.int (3 : Int32)), .val (.ref b87), .val .null] [(.int (3 : Int32))])
              refine own_stepW (fun _ => XS.iconst X87.here hx rfl (hb hby at_350)) ?_
              show own_EndsW p e below s _ _ _ T87 (mkF m 351 #[.val (.int i0), .val (.int i1), .val (.int i2), .val (.int i3), .val (.int i4), .val (.ref al5_251), .val (.int il6_251), .val (.int il7_251), .val (.int (3 : Int32)), .val (.ref b87), .val .null] [(.int (5 : Int32)), (.int (3 : Int32))])
              refine own_stepW (fun _ => XS.icmpYes X87.here hx rfl (pc0 := 351) (pc' := 404) rfl (hb hby at_351) rfl (feq (show ¬ ((3 : Int32) = (5 : Int32)) from (by decide))).2 (by decide) (by decide)) ?_
              show own_EndsW p e below s _ _ _ T87 (mkF m 404 #[.val (.int i0), .val (.int i1), .val (.int i2), .val (.int i3), .val (.int i4), .val (.ref al5_251), .val (.int il6_251), .val (.int il7_251), .val (.int (3 : Int32)), .val (.ref b87), .val .null] [])
              refine own_stepW (fun _ => XS.aload X87.here hx rfl (hb hby at_404) rfl rfl) ?_
              show own_EndsW p e below s _ _ _ T87 (mkF m 406 #[.val (.int i0), .val (.int i1), .val (.int i2), .val (.int i3), .val (.int i4), .val (.ref al5_251), .val (.int il6_251), .val (.int il7_251), .val (.int (3 : Int32)), .val (.ref b87), .val .null] [(.ref b87)])
              have hp94 : ∀ c ∈ ([(nar .char (li.getD (0 : Int32).toNatClampNeg 0)), (nar .char (li.getD (1 : Int32).toNatClampNeg 0)), (nar .char (li.getD (2 : Int32).toNatClampNeg 0))] : List Int32), own_R c := (own_lc (own_rn hr _) (own_lc (own_rn hr _) (own_lc (own_rn hr _) own_ln)))
              obtain ⟨_, _, ⟨T94, L94, k94, n94⟩, -, X94, ⟨Lc94, hQ94, l94, y94, z94⟩, st94⟩ := Jvm.LawKit.callS X87 hx (y := (⟨"lomwright/lom/Entity$Part", "of", "(Ljava/lang/String;)Llomwright/lom/Entity$Part;"⟩ : MethodName)) hown (mvT hZ (hw _ (List.mem_of_getElem? (i := 37) rfl))) (mvT hZ (hw _ (List.mem_of_getElem? (i := 38) rfl))) (mvT hZ (hw _ (List.mem_of_getElem? (i := 35) rfl))) (mvT hZ (hw _ (List.mem_of_getElem? (i := 39) rfl))) (by decide) (backOf (W := 0) (rm8 l Z a0 hw [] b87 t87 kb87 ([(nar .char (li.getD (0 : Int32).toNatClampNeg 0)), (nar .char (li.getD (1 : Int32).toNatClampNeg 0)), (nar .char (li.getD (2 : Int32).toNatClampNeg 0))]) (3 : Int32) G1 w3 w54 w83 w9 w22 w63 w92 w32 w73 w102 k_w9 k_w32 k_w73 k_w102 T87.heap n0 Zs87 OLDk87 gE87 gC87 gV87 gA87 O2 P5 (StrChars.Road.codOf (n := 3) rfl (fun c hc => (hp94 c hc).2)) (own_up hp94) (Nat.le_of_ble_eq_true rfl) bSNAME bSORG bSEMAIL bSALL bE0 bX0 bC0 bV0 bE1 bX1 bC1 bV1 bE2 bX2 bC2 bV2 bA0 bA1 bA2 bA3) hZ (hw _ (List.mem_of_getElem? (i := 39) rfl)) (hw _ (List.mem_of_getElem? (i := 35) rfl)) (by decide) (by decide)) (g := (mkF m 406 #[.val (.int i0), .val (.int i1), .val (.int i2), .val (.int i3), .val (.int i4), .val (.ref al5_251), .val (.int il6_251), .val (.int il7_251), .val (.int (3 : Int32)), .val (.ref b87), .val .null] [(.ref b87)])) rfl (by rw [hml]; rfl) (argsL := [(.ref b87)]) (rest := []) (lenOf pd_4 rfl) rfl (by show 2 * 0 + _ ≤ _; exact Nat.le_of_eq rfl) (hb hby at_406) (fun _ _ => ⟨rfl, rfl, (by decide : 4 + 0 ≤ _), (by decide : 16 + 0 ≤ _)⟩)
              dsimp only [Pt.U, Pt.locs, Pt.cells, Pt.slots] at X94 l94 y94 z94 st94 hQ94
              subst l94 y94 z94
              obtain ⟨rfl, N94q, hh94⟩ := hQ94
              have N94 := Fr.app N87 N94q
              refine own_stepW st94 ?_
              show own_EndsW p e below s _ _ _ T94 (mkF m 409 #[.val (.int i0), .val (.int i1), .val (.int i2), .val (.int i3), .val (.int i4), .val (.ref al5_251), .val (.int il6_251), .val (.int il7_251), .val (.int (3 : Int32)), .val (.ref b87), .val .null] [(f8_0 ([(nar .char (li.getD (0 : Int32).toNatClampNeg 0)), (nar .char (li.getD (1 : Int32).toNatClampNeg 0)), (nar .char (li.getD (2 : Int32).toNatClampNeg 0))]) w3 w54 w83)])
              refine own_stepW (fun _ => XS.aload X94.here hx rfl (hb hby at_409) rfl rfl) ?_
              show own_EndsW p e below s _ _ _ T94 (mkF m 411 #[.val (.int i0), .val (.int i1), .val (.int i2), .val (.int i3), .val (.int i4), .val (.ref al5_251), .val (.int il6_251), .val (.int il7_251), .val (.int (3 : Int32)), .val (.ref b87), .val .null] [.null, (f8_0 ([(nar .char (li.getD (0 : Int32).toNatClampNeg 0)), (nar .char (li.getD (1 : Int32).toNatClampNeg 0)), (nar .char (li.getD (2 : Int32).toNatClampNeg 0))]) w3 w54 w83)])
              by_cases hc411 : (f8_0 ([(nar .char (li.getD (0 : Int32).toNatClampNeg 0)), (nar .char (li.getD (1 : Int32).toNatClampNeg 0)), (nar .char (li.getD (2 : Int32).toNatClampNeg 0))]) w3 w54 w83) = .null
              · have hvf0f1f2t3_t_f_t := hvf0f1f2t3_t_f.trans (if_pos hc411)
                refine own_stepW (fun _ => Jvm.RoadKit.acmp (g := (mkF m 411 #[.val (.int i0), .val (.int i1), .val (.int i2), .val (.int i3), .val (.int i4), .val (.ref al5_251), .val (.int il6_251), .val (.int il7_251), .val (.int (3 : Int32)), .val (.ref b87), .val .null] [.null, (f8_0 ([(nar .char (li.getD (0 : Int32).toNatClampNeg 0)), (nar .char (li.getD (1 : Int32).toNatClampNeg 0)), (nar .char (li.getD (2 : Int32).toNatClampNeg 0))]) w3 w54 w83)])) X94 hx rfl (own_f8ref _ _ _ _) rfl (pc0 := 411) (pc' := 414) (same := true) rfl (hb hby at_411) rfl (decide_eq_true hc411) (by decide) (by decide)) ?_
                show own_EndsW p e below s _ _ _ T94 (mkF m 414 #[.val (.int i0), .val (.int i1), .val (.int i2), .val (.int i3), .val (.int i4), .val (.ref al5_251), .val (.int il6_251), .val (.int il7_251), .val (.int (3 : Int32)), .val (.ref b87), .val .null] [])
                refine own_stepW (fun _ => XS.iconst X94.here hx rfl (hb hby at_414)) ?_
                show own_EndsW p e below s _ _ _ T94 (mkF m 415 #[.val (.int i0), .val (.int i1), .val (.int i2), .val (.int i3), .val (.int i4), .val (.ref al5_251), .val (.int il6_251), .val (.int il7_251), .val (.int (3 : Int32)), .val (.ref b87), .val .null] [(.int (1 : Int32))])
                refine own_stepW (fun _ => XS.goto X94.here hx rfl (pc0 := 415) (pc' := 419) rfl (hb hby at_415) (by decide) (by decide)) ?_
                show own_EndsW p e below s _ _ _ T94 (mkF m 419 #[.val (.int i0), .val (.int i1), .val (.int i2), .val (.int i3), .val (.int i4), .val (.ref al5_251), .val (.int il6_251), .val (.int il7_251), .val (.int (3 : Int32)), .val (.ref b87), .val .null] [(.int (1 : Int32))])
                exact own_retNW X94 hS (by rw [hh94]; exact hk) (t := .boolean) hx hret hlk (hb hby at_419) (by decide) (by decide) (by simp) ⟨congrArg (fun z => some (Value.int z)) hvf0f1f2t3_t_f_t.symm, N94, trivial⟩
              · have hvf0f1f2t3_t_f_f := hvf0f1f2t3_t_f.trans (if_neg hc411)
                refine own_stepW (fun _ => Jvm.RoadKit.acmp (g := (mkF m 411 #[.val (.int i0), .val (.int i1), .val (.int i2), .val (.int i3), .val (.int i4), .val (.ref al5_251), .val (.int il6_251), .val (.int il7_251), .val (.int (3 : Int32)), .val (.ref b87), .val .null] [.null, (f8_0 ([(nar .char (li.getD (0 : Int32).toNatClampNeg 0)), (nar .char (li.getD (1 : Int32).toNatClampNeg 0)), (nar .char (li.getD (2 : Int32).toNatClampNeg 0))]) w3 w54 w83)])) X94 hx rfl (own_f8ref _ _ _ _) rfl (pc0 := 411) (pc' := 418) (same := false) rfl (hb hby at_411) rfl (decide_eq_false hc411) (by decide) (by decide)) ?_
                show own_EndsW p e below s _ _ _ T94 (mkF m 418 #[.val (.int i0), .val (.int i1), .val (.int i2), .val (.int i3), .val (.int i4), .val (.ref al5_251), .val (.int il6_251), .val (.int il7_251), .val (.int (3 : Int32)), .val (.ref b87), .val .null] [])
                refine own_stepW (fun _ => XS.iconst X94.here hx rfl (hb hby at_418)) ?_
                show own_EndsW p e below s _ _ _ T94 (mkF m 419 #[.val (.int i0), .val (.int i1), .val (.int i2), .val (.int i3), .val (.int i4), .val (.ref al5_251), .val (.int il6_251), .val (.int il7_251), .val (.int (3 : Int32)), .val (.ref b87), .val .null] [(.int (0 : Int32))])
                exact own_retNW X94 hS (by rw [hh94]; exact hk) (t := .boolean) hx hret hlk (hb hby at_419) (by decide) (by decide) (by simp) ⟨congrArg (fun z => some (Value.int z)) hvf0f1f2t3_t_f_f.symm, N94, trivial⟩
          · have hvf0f1f2t3_f := hvf0f1f2t3.trans (if_neg hc322)
            refine own_stepW (fun _ => XS.icmpYes X87.here hx rfl (pc0 := 322) (pc' := 348) rfl (hb hby at_322) rfl (feq hc322).2 (by decide) (by decide)) ?_
            show own_EndsW p e below s _ _ _ T87 (mkF m 348 #[.val (.int i0), .val (.int i1), .val (.int i2), .val (.int i3), .val (.int i4), .val (.ref al5_251), .val (.int il6_251), .val (.int il7_251), .val (.int (3 : Int32)), .val (.ref b87), .val .null] [])
            refine own_stepW (fun _ => XS.iload X87.here hx rfl (hb hby at_348) rfl) ?_
            show own_EndsW p e below s _ _ _ T87 (mkF m 350 #[.val (.int i0), .val (.int i1), .val (.int i2), .val (.int i3), .val (.int i4), .val (.ref al5_251), .val (.int il6_251), .val (.int il7_251), .val (.int (3 : Int32)), .val (.ref b87), .val .null] [(.int (3 : Int32))])
            refine own_stepW (fun _ => XS.iconst X87.here hx rfl (hb hby at_350)) ?_
            show own_EndsW p e below s _ _ _ T87 (mkF m 351 #[.val (.int i0), .val (.int i1), .val (.int i2), .val (.int i3), .val (.int i4), .val (.ref al5_251), .val (.int il6_251), .val (.int il7_251), .val (.int (3 : Int32)), .val (.ref b87), .val .null] [(.int (5 : Int32)), (.int (3 : Int32))])
            refine own_stepW (fun _ => XS.icmpYes X87.here hx rfl (pc0 := 351) (pc' := 404) rfl (hb hby at_351) rfl (feq (show ¬ ((3 : Int32) = (5 : Int32)) from (by decide))).2 (by decide) (by decide)) ?_
            show own_EndsW p e below s _ _ _ T87 (mkF m 404 #[.val (.int i0), .val (.int i1), .val (.int i2), .val (.int i3), .val (.int i4), .val (.ref al5_251), .val (.int il6_251), .val (.int il7_251), .val (.int (3 : Int32)), .val (.ref b87), .val .null] [])
            refine own_stepW (fun _ => XS.aload X87.here hx rfl (hb hby at_404) rfl rfl) ?_
            show own_EndsW p e below s _ _ _ T87 (mkF m 406 #[.val (.int i0), .val (.int i1), .val (.int i2), .val (.int i3), .val (.int i4), .val (.ref al5_251), .val (.int il6_251), .val (.int il7_251), .val (.int (3 : Int32)), .val (.ref b87), .val .null] [(.ref b87)])
            have hp95 : ∀ c ∈ ([(nar .char (li.getD (0 : Int32).toNatClampNeg 0)), (nar .char (li.getD (1 : Int32).toNatClampNeg 0)), (nar .char (li.getD (2 : Int32).toNatClampNeg 0))] : List Int32), own_R c := (own_lc (own_rn hr _) (own_lc (own_rn hr _) (own_lc (own_rn hr _) own_ln)))
            obtain ⟨_, _, ⟨T95, L95, k95, n95⟩, -, X95, ⟨Lc95, hQ95, l95, y95, z95⟩, st95⟩ := Jvm.LawKit.callS X87 hx (y := (⟨"lomwright/lom/Entity$Part", "of", "(Ljava/lang/String;)Llomwright/lom/Entity$Part;"⟩ : MethodName)) hown (mvT hZ (hw _ (List.mem_of_getElem? (i := 37) rfl))) (mvT hZ (hw _ (List.mem_of_getElem? (i := 38) rfl))) (mvT hZ (hw _ (List.mem_of_getElem? (i := 35) rfl))) (mvT hZ (hw _ (List.mem_of_getElem? (i := 39) rfl))) (by decide) (backOf (W := 0) (rm8 l Z a0 hw [] b87 t87 kb87 ([(nar .char (li.getD (0 : Int32).toNatClampNeg 0)), (nar .char (li.getD (1 : Int32).toNatClampNeg 0)), (nar .char (li.getD (2 : Int32).toNatClampNeg 0))]) (3 : Int32) G1 w3 w54 w83 w9 w22 w63 w92 w32 w73 w102 k_w9 k_w32 k_w73 k_w102 T87.heap n0 Zs87 OLDk87 gE87 gC87 gV87 gA87 O2 P5 (StrChars.Road.codOf (n := 3) rfl (fun c hc => (hp95 c hc).2)) (own_up hp95) (Nat.le_of_ble_eq_true rfl) bSNAME bSORG bSEMAIL bSALL bE0 bX0 bC0 bV0 bE1 bX1 bC1 bV1 bE2 bX2 bC2 bV2 bA0 bA1 bA2 bA3) hZ (hw _ (List.mem_of_getElem? (i := 39) rfl)) (hw _ (List.mem_of_getElem? (i := 35) rfl)) (by decide) (by decide)) (g := (mkF m 406 #[.val (.int i0), .val (.int i1), .val (.int i2), .val (.int i3), .val (.int i4), .val (.ref al5_251), .val (.int il6_251), .val (.int il7_251), .val (.int (3 : Int32)), .val (.ref b87), .val .null] [(.ref b87)])) rfl (by rw [hml]; rfl) (argsL := [(.ref b87)]) (rest := []) (lenOf pd_4 rfl) rfl (by show 2 * 0 + _ ≤ _; exact Nat.le_of_eq rfl) (hb hby at_406) (fun _ _ => ⟨rfl, rfl, (by decide : 4 + 0 ≤ _), (by decide : 16 + 0 ≤ _)⟩)
            dsimp only [Pt.U, Pt.locs, Pt.cells, Pt.slots] at X95 l95 y95 z95 st95 hQ95
            subst l95 y95 z95
            obtain ⟨rfl, N95q, hh95⟩ := hQ95
            have N95 := Fr.app N87 N95q
            refine own_stepW st95 ?_
            show own_EndsW p e below s _ _ _ T95 (mkF m 409 #[.val (.int i0), .val (.int i1), .val (.int i2), .val (.int i3), .val (.int i4), .val (.ref al5_251), .val (.int il6_251), .val (.int il7_251), .val (.int (3 : Int32)), .val (.ref b87), .val .null] [(f8_0 ([(nar .char (li.getD (0 : Int32).toNatClampNeg 0)), (nar .char (li.getD (1 : Int32).toNatClampNeg 0)), (nar .char (li.getD (2 : Int32).toNatClampNeg 0))]) w3 w54 w83)])
            refine own_stepW (fun _ => XS.aload X95.here hx rfl (hb hby at_409) rfl rfl) ?_
            show own_EndsW p e below s _ _ _ T95 (mkF m 411 #[.val (.int i0), .val (.int i1), .val (.int i2), .val (.int i3), .val (.int i4), .val (.ref al5_251), .val (.int il6_251), .val (.int il7_251), .val (.int (3 : Int32)), .val (.ref b87), .val .null] [.null, (f8_0 ([(nar .char (li.getD (0 : Int32).toNatClampNeg 0)), (nar .char (li.getD (1 : Int32).toNatClampNeg 0)), (nar .char (li.getD (2 : Int32).toNatClampNeg 0))]) w3 w54 w83)])
            by_cases hc411 : (f8_0 ([(nar .char (li.getD (0 : Int32).toNatClampNeg 0)), (nar .char (li.getD (1 : Int32).toNatClampNeg 0)), (nar .char (li.getD (2 : Int32).toNatClampNeg 0))]) w3 w54 w83) = .null
            · have hvf0f1f2t3_f_t := hvf0f1f2t3_f.trans (if_pos hc411)
              refine own_stepW (fun _ => Jvm.RoadKit.acmp (g := (mkF m 411 #[.val (.int i0), .val (.int i1), .val (.int i2), .val (.int i3), .val (.int i4), .val (.ref al5_251), .val (.int il6_251), .val (.int il7_251), .val (.int (3 : Int32)), .val (.ref b87), .val .null] [.null, (f8_0 ([(nar .char (li.getD (0 : Int32).toNatClampNeg 0)), (nar .char (li.getD (1 : Int32).toNatClampNeg 0)), (nar .char (li.getD (2 : Int32).toNatClampNeg 0))]) w3 w54 w83)])) X95 hx rfl (own_f8ref _ _ _ _) rfl (pc0 := 411) (pc' := 414) (same := true) rfl (hb hby at_411) rfl (decide_eq_true hc411) (by decide) (by decide)) ?_
              show own_EndsW p e below s _ _ _ T95 (mkF m 414 #[.val (.int i0), .val (.int i1), .val (.int i2), .val (.int i3), .val (.int i4), .val (.ref al5_251), .val (.int il6_251), .val (.int il7_251), .val (.int (3 : Int32)), .val (.ref b87), .val .null] [])
              refine own_stepW (fun _ => XS.iconst X95.here hx rfl (hb hby at_414)) ?_
              show own_EndsW p e below s _ _ _ T95 (mkF m 415 #[.val (.int i0), .val (.int i1), .val (.int i2), .val (.int i3), .val (.int i4), .val (.ref al5_251), .val (.int il6_251), .val (.int il7_251), .val (.int (3 : Int32)), .val (.ref b87), .val .null] [(.int (1 : Int32))])
              refine own_stepW (fun _ => XS.goto X95.here hx rfl (pc0 := 415) (pc' := 419) rfl (hb hby at_415) (by decide) (by decide)) ?_
              show own_EndsW p e below s _ _ _ T95 (mkF m 419 #[.val (.int i0), .val (.int i1), .val (.int i2), .val (.int i3), .val (.int i4), .val (.ref al5_251), .val (.int il6_251), .val (.int il7_251), .val (.int (3 : Int32)), .val (.ref b87), .val .null] [(.int (1 : Int32))])
              exact own_retNW X95 hS (by rw [hh95]; exact hk) (t := .boolean) hx hret hlk (hb hby at_419) (by decide) (by decide) (by simp) ⟨congrArg (fun z => some (Value.int z)) hvf0f1f2t3_f_t.symm, N95, trivial⟩
            · have hvf0f1f2t3_f_f := hvf0f1f2t3_f.trans (if_neg hc411)
              refine own_stepW (fun _ => Jvm.RoadKit.acmp (g := (mkF m 411 #[.val (.int i0), .val (.int i1), .val (.int i2), .val (.int i3), .val (.int i4), .val (.ref al5_251), .val (.int il6_251), .val (.int il7_251), .val (.int (3 : Int32)), .val (.ref b87), .val .null] [.null, (f8_0 ([(nar .char (li.getD (0 : Int32).toNatClampNeg 0)), (nar .char (li.getD (1 : Int32).toNatClampNeg 0)), (nar .char (li.getD (2 : Int32).toNatClampNeg 0))]) w3 w54 w83)])) X95 hx rfl (own_f8ref _ _ _ _) rfl (pc0 := 411) (pc' := 418) (same := false) rfl (hb hby at_411) rfl (decide_eq_false hc411) (by decide) (by decide)) ?_
              show own_EndsW p e below s _ _ _ T95 (mkF m 418 #[.val (.int i0), .val (.int i1), .val (.int i2), .val (.int i3), .val (.int i4), .val (.ref al5_251), .val (.int il6_251), .val (.int il7_251), .val (.int (3 : Int32)), .val (.ref b87), .val .null] [])
              refine own_stepW (fun _ => XS.iconst X95.here hx rfl (hb hby at_418)) ?_
              show own_EndsW p e below s _ _ _ T95 (mkF m 419 #[.val (.int i0), .val (.int i1), .val (.int i2), .val (.int i3), .val (.int i4), .val (.ref al5_251), .val (.int il6_251), .val (.int il7_251), .val (.int (3 : Int32)), .val (.ref b87), .val .null] [(.int (0 : Int32))])
              exact own_retNW X95 hS (by rw [hh95]; exact hk) (t := .boolean) hx hret hlk (hb hby at_419) (by decide) (by decide) (by simp) ⟨congrArg (fun z => some (Value.int z)) hvf0f1f2t3_f_f.symm, N95, trivial⟩
        · have hvf0f1f2f3 := hvf0f1f2.trans (if_neg hN3)
          by_cases hN4 : il8_251 = (4 : Int32)
          · have hvf0f1f2f3t4 := hvf0f1f2f3.trans (if_pos hN4)
            rw [hN4]
            refine own_stepW (fun _ => XS.aload X0.here hx rfl (hb hby at_251) rfl rfl) ?_
            show own_EndsW p e below s _ _ _ T0 (mkF m 253 #[.val (.int i0), .val (.int i1), .val (.int i2), .val (.int i3), .val (.int i4), .val (.ref al5_251), .val (.int il6_251), .val (.int il7_251), .val (.int (4 : Int32)), .unset, .unset] [(.ref al5_251)])
            refine own_stepW (fun _ => XS.iload X0.here hx rfl (hb hby at_253) rfl) ?_
            show own_EndsW p e below s _ _ _ T0 (mkF m 255 #[.val (.int i0), .val (.int i1), .val (.int i2), .val (.int i3), .val (.int i4), .val (.ref al5_251), .val (.int il6_251), .val (.int il7_251), .val (.int (4 : Int32)), .unset, .unset] [(.int (4 : Int32)), (.ref al5_251)])
            obtain ⟨_, _, ⟨T96, L96, k96, n96⟩, -, X96, ⟨Lc96, hQ96, l96, y96, z96⟩, st96⟩ := Jvm.LawKit.callS X0 hx (y := (⟨"lomwright/lom/PartOfPinLaw", "text", "([CI)Ljava/lang/String;"⟩ : MethodName)) hown (mvT hZ (hw _ (List.mem_of_getElem? (i := 1) rfl))) (mvT hZ (hw _ (List.mem_of_getElem? (i := 2) rfl))) (mvT hZ (hw _ (List.mem_of_getElem? (i := 3) rfl))) (mvT hZ (hw _ (List.mem_of_getElem? (i := 4) rfl))) (by decide) (backOf (W := 0) (rm1_4 l Z a0 hw [] al5_251 ka li G1 h0 n0 Z0 OLD Va O2 P5 hr) hZ (hw _ (List.mem_of_getElem? (i := 4) rfl)) (hw _ (List.mem_of_getElem? (i := 3) rfl)) (by decide) (by decide)) (g := (mkF m 255 #[.val (.int i0), .val (.int i1), .val (.int i2), .val (.int i3), .val (.int i4), .val (.ref al5_251), .val (.int il6_251), .val (.int il7_251), .val (.int (4 : Int32)), .unset, .unset] [(.int (4 : Int32)), (.ref al5_251)])) rfl (by rw [hml]; rfl) (argsL := [(.ref al5_251), (.int (4 : Int32))]) (rest := []) (lenOf pd_3 rfl) rfl (by show 2 * 0 + _ ≤ _; exact Nat.le_of_eq rfl) (hb hby at_255) (fun _ _ => ⟨rfl, e0, (by decide : 1 + 3 ≤ _), (by decide : 6 + 12 ≤ _)⟩)
            dsimp only [Pt.U, Pt.locs, Pt.cells, Pt.slots] at X96 l96 y96 z96 st96 hQ96
            subst l96 y96 z96
            obtain ⟨b96, t96, kb96, rfl, N96q, K96, gE96, gC96, gV96, gA96⟩ := hQ96
            have N96 := Fr.app N0 N96q
            have OLDk96 := OLD.keep K96 all0
            have Zs96 : n0 ≤ T96.heap.size := Nat.le_trans Z0 K96.1
            have hk := Nat.le_trans hk K96.1
            refine own_stepW st96 ?_
            show own_EndsW p e below s _ _ _ T96 (mkF m 258 #[.val (.int i0), .val (.int i1), .val (.int i2), .val (.int i3), .val (.int i4), .val (.ref al5_251), .val (.int il6_251), .val (.int il7_251), .val (.int (4 : Int32)), .unset, .unset] [(.ref b96)])
            refine own_stepW (fun _ => XS.astore X96.here hx rfl (hb hby at_258) rfl rfl (l' := #[.val (.int i0), .val (.int i1), .val (.int i2), .val (.int i3), .val (.int i4), .val (.ref al5_251), .val (.int il6_251), .val (.int il7_251), .val (.int (4 : Int32)), .val (.ref b96), .unset]) rfl) ?_
            show own_EndsW p e below s _ _ _ T96 (mkF m 260 #[.val (.int i0), .val (.int i1), .val (.int i2), .val (.int i3), .val (.int i4), .val (.ref al5_251), .val (.int il6_251), .val (.int il7_251), .val (.int (4 : Int32)), .val (.ref b96), .unset] [])
            refine own_stepW (fun _ => XS.aconstNull X96.here hx rfl (hb hby at_260)) ?_
            show own_EndsW p e below s _ _ _ T96 (mkF m 261 #[.val (.int i0), .val (.int i1), .val (.int i2), .val (.int i3), .val (.int i4), .val (.ref al5_251), .val (.int il6_251), .val (.int il7_251), .val (.int (4 : Int32)), .val (.ref b96), .unset] [.null])
            refine own_stepW (fun _ => XS.astore X96.here hx rfl (hb hby at_261) rfl rfl (l' := #[.val (.int i0), .val (.int i1), .val (.int i2), .val (.int i3), .val (.int i4), .val (.ref al5_251), .val (.int il6_251), .val (.int il7_251), .val (.int (4 : Int32)), .val (.ref b96), .val .null]) rfl) ?_
            show own_EndsW p e below s _ _ _ T96 (mkF m 263 #[.val (.int i0), .val (.int i1), .val (.int i2), .val (.int i3), .val (.int i4), .val (.ref al5_251), .val (.int il6_251), .val (.int il7_251), .val (.int (4 : Int32)), .val (.ref b96), .val .null] [])
            refine own_stepW (fun _ => XS.iload X96.here hx rfl (hb hby at_263) rfl) ?_
            show own_EndsW p e below s _ _ _ T96 (mkF m 265 #[.val (.int i0), .val (.int i1), .val (.int i2), .val (.int i3), .val (.int i4), .val (.ref al5_251), .val (.int il6_251), .val (.int il7_251), .val (.int (4 : Int32)), .val (.ref b96), .val .null] [(.int (4 : Int32))])
            refine own_stepW (fun _ => XS.iconst X96.here hx rfl (hb hby at_265)) ?_
            show own_EndsW p e below s _ _ _ T96 (mkF m 266 #[.val (.int i0), .val (.int i1), .val (.int i2), .val (.int i3), .val (.int i4), .val (.ref al5_251), .val (.int il6_251), .val (.int il7_251), .val (.int (4 : Int32)), .val (.ref b96), .val .null] [(.int (4 : Int32)), (.int (4 : Int32))])
            refine own_stepW (fun _ => XS.icmpNo X96.here hx rfl (hb hby at_266) rfl (teq (show (4 : Int32) = (4 : Int32) from (by decide))).2) ?_
            show own_EndsW p e below s _ _ _ T96 (mkF m 269 #[.val (.int i0), .val (.int i1), .val (.int i2), .val (.int i3), .val (.int i4), .val (.ref al5_251), .val (.int il6_251), .val (.int il7_251), .val (.int (4 : Int32)), .val (.ref b96), .val .null] [])
            refine own_stepW (fun _ => XS.aload X96.here hx rfl (hb hby at_269) rfl rfl) ?_
            show own_EndsW p e below s _ _ _ T96 (mkF m 271 #[.val (.int i0), .val (.int i1), .val (.int i2), .val (.int i3), .val (.int i4), .val (.ref al5_251), .val (.int il6_251), .val (.int il7_251), .val (.int (4 : Int32)), .val (.ref b96), .val .null] [(.ref al5_251)])
            refine own_stepW (fun _ => XS.iconst X96.here hx rfl (hb hby at_271)) ?_
            show own_EndsW p e below s _ _ _ T96 (mkF m 272 #[.val (.int i0), .val (.int i1), .val (.int i2), .val (.int i3), .val (.int i4), .val (.ref al5_251), .val (.int il6_251), .val (.int il7_251), .val (.int (4 : Int32)), .val (.ref b96), .val .null] [(.int (0 : Int32)), (.ref al5_251)])
            obtain ⟨cl97, Ar97, q97, S97, N97_, H97, G97⟩ := id (Va.keep K96 nin0)
            have hin97 : ¬ ((0 : Int32) < 0 ∨ cl97.slots.size ≤ ((0 : Int32)).toNatClampNeg) := inb_of S97 ⟨by decide, by decide⟩
            have hat97 : cl97.slots[((0 : Int32)).toNatClampNeg]? = some (.int (li.getD (0 : Int32).toNatClampNeg 0)) := H97.at hin97 (own_getD li _)
            refine own_stepW (fun _ => X96.caload hx (j := (0 : Int32)) (v := (.int (li.getD (0 : Int32).toNatClampNeg 0))) (by exact Ar97.1) (State.isArrayOf_alike hZ.alike Ar97.2.1) Ar97.2.2 hin97 hat97 (g := (mkF m 272 #[.val (.int i0), .val (.int i1), .val (.int i2), .val (.int i3), .val (.int i4), .val (.ref al5_251), .val (.int il6_251), .val (.int il7_251), .val (.int (4 : Int32)), .val (.ref b96), .val .null] [(.int (0 : Int32)), (.ref al5_251)])) rfl rfl (hb hby at_272) _) ?_
            show own_EndsW p e below s _ _ _ T96 (mkF m 273 #[.val (.int i0), .val (.int i1), .val (.int i2), .val (.int i3), .val (.int i4), .val (.ref al5_251), .val (.int il6_251), .val (.int il7_251), .val (.int (4 : Int32)), .val (.ref b96), .val .null] [(.int (li.getD (0 : Int32).toNatClampNeg 0))])
            refine own_stepW (fun _ => XS.bipush X96.here hx rfl (hb hby at_273)) ?_
            show own_EndsW p e below s _ _ _ T96 (mkF m 275 #[.val (.int i0), .val (.int i1), .val (.int i2), .val (.int i3), .val (.int i4), .val (.ref al5_251), .val (.int il6_251), .val (.int il7_251), .val (.int (4 : Int32)), .val (.ref b96), .val .null] [(.int (110 : Int32)), (.int (li.getD (0 : Int32).toNatClampNeg 0))])
            by_cases hc275 : (li.getD (0 : Int32).toNatClampNeg 0) = (110 : Int32)
            · have hvf0f1f2f3t4_t := hvf0f1f2f3t4.trans (if_pos hc275)
              refine own_stepW (fun _ => XS.icmpNo X96.here hx rfl (hb hby at_275) rfl (teq hc275).2) ?_
              show own_EndsW p e below s _ _ _ T96 (mkF m 278 #[.val (.int i0), .val (.int i1), .val (.int i2), .val (.int i3), .val (.int i4), .val (.ref al5_251), .val (.int il6_251), .val (.int il7_251), .val (.int (4 : Int32)), .val (.ref b96), .val .null] [])
              refine own_stepW (fun _ => XS.aload X96.here hx rfl (hb hby at_278) rfl rfl) ?_
              show own_EndsW p e below s _ _ _ T96 (mkF m 280 #[.val (.int i0), .val (.int i1), .val (.int i2), .val (.int i3), .val (.int i4), .val (.ref al5_251), .val (.int il6_251), .val (.int il7_251), .val (.int (4 : Int32)), .val (.ref b96), .val .null] [(.ref al5_251)])
              refine own_stepW (fun _ => XS.iconst X96.here hx rfl (hb hby at_280)) ?_
              show own_EndsW p e below s _ _ _ T96 (mkF m 281 #[.val (.int i0), .val (.int i1), .val (.int i2), .val (.int i3), .val (.int i4), .val (.ref al5_251), .val (.int il6_251), .val (.int il7_251), .val (.int (4 : Int32)), .val (.ref b96), .val .null] [(.int (1 : Int32)), (.ref al5_251)])
              obtain ⟨cl98, Ar98, q98, S98, N98_, H98, G98⟩ := id (Va.keep K96 nin0)
              have hin98 : ¬ ((1 : Int32) < 0 ∨ cl98.slots.size ≤ ((1 : Int32)).toNatClampNeg) := inb_of S98 ⟨by decide, by decide⟩
              have hat98 : cl98.slots[((1 : Int32)).toNatClampNeg]? = some (.int (li.getD (1 : Int32).toNatClampNeg 0)) := H98.at hin98 (own_getD li _)
              refine own_stepW (fun _ => X96.caload hx (j := (1 : Int32)) (v := (.int (li.getD (1 : Int32).toNatClampNeg 0))) (by exact Ar98.1) (State.isArrayOf_alike hZ.alike Ar98.2.1) Ar98.2.2 hin98 hat98 (g := (mkF m 281 #[.val (.int i0), .val (.int i1), .val (.int i2), .val (.int i3), .val (.int i4), .val (.ref al5_251), .val (.int il6_251), .val (.int il7_251), .val (.int (4 : Int32)), .val (.ref b96), .val .null] [(.int (1 : Int32)), (.ref al5_251)])) rfl rfl (hb hby at_281) _) ?_
              show own_EndsW p e below s _ _ _ T96 (mkF m 282 #[.val (.int i0), .val (.int i1), .val (.int i2), .val (.int i3), .val (.int i4), .val (.ref al5_251), .val (.int il6_251), .val (.int il7_251), .val (.int (4 : Int32)), .val (.ref b96), .val .null] [(.int (li.getD (1 : Int32).toNatClampNeg 0))])
              refine own_stepW (fun _ => XS.bipush X96.here hx rfl (hb hby at_282)) ?_
              show own_EndsW p e below s _ _ _ T96 (mkF m 284 #[.val (.int i0), .val (.int i1), .val (.int i2), .val (.int i3), .val (.int i4), .val (.ref al5_251), .val (.int il6_251), .val (.int il7_251), .val (.int (4 : Int32)), .val (.ref b96), .val .null] [(.int (97 : Int32)), (.int (li.getD (1 : Int32).toNatClampNeg 0))])
              by_cases hc284 : (li.getD (1 : Int32).toNatClampNeg 0) = (97 : Int32)
              · have hvf0f1f2f3t4_t_t := hvf0f1f2f3t4_t.trans (if_pos hc284)
                refine own_stepW (fun _ => XS.icmpNo X96.here hx rfl (hb hby at_284) rfl (teq hc284).2) ?_
                show own_EndsW p e below s _ _ _ T96 (mkF m 287 #[.val (.int i0), .val (.int i1), .val (.int i2), .val (.int i3), .val (.int i4), .val (.ref al5_251), .val (.int il6_251), .val (.int il7_251), .val (.int (4 : Int32)), .val (.ref b96), .val .null] [])
                refine own_stepW (fun _ => XS.aload X96.here hx rfl (hb hby at_287) rfl rfl) ?_
                show own_EndsW p e below s _ _ _ T96 (mkF m 289 #[.val (.int i0), .val (.int i1), .val (.int i2), .val (.int i3), .val (.int i4), .val (.ref al5_251), .val (.int il6_251), .val (.int il7_251), .val (.int (4 : Int32)), .val (.ref b96), .val .null] [(.ref al5_251)])
                refine own_stepW (fun _ => XS.iconst X96.here hx rfl (hb hby at_289)) ?_
                show own_EndsW p e below s _ _ _ T96 (mkF m 290 #[.val (.int i0), .val (.int i1), .val (.int i2), .val (.int i3), .val (.int i4), .val (.ref al5_251), .val (.int il6_251), .val (.int il7_251), .val (.int (4 : Int32)), .val (.ref b96), .val .null] [(.int (2 : Int32)), (.ref al5_251)])
                obtain ⟨cl99, Ar99, q99, S99, N99_, H99, G99⟩ := id (Va.keep K96 nin0)
                have hin99 : ¬ ((2 : Int32) < 0 ∨ cl99.slots.size ≤ ((2 : Int32)).toNatClampNeg) := inb_of S99 ⟨by decide, by decide⟩
                have hat99 : cl99.slots[((2 : Int32)).toNatClampNeg]? = some (.int (li.getD (2 : Int32).toNatClampNeg 0)) := H99.at hin99 (own_getD li _)
                refine own_stepW (fun _ => X96.caload hx (j := (2 : Int32)) (v := (.int (li.getD (2 : Int32).toNatClampNeg 0))) (by exact Ar99.1) (State.isArrayOf_alike hZ.alike Ar99.2.1) Ar99.2.2 hin99 hat99 (g := (mkF m 290 #[.val (.int i0), .val (.int i1), .val (.int i2), .val (.int i3), .val (.int i4), .val (.ref al5_251), .val (.int il6_251), .val (.int il7_251), .val (.int (4 : Int32)), .val (.ref b96), .val .null] [(.int (2 : Int32)), (.ref al5_251)])) rfl rfl (hb hby at_290) _) ?_
                show own_EndsW p e below s _ _ _ T96 (mkF m 291 #[.val (.int i0), .val (.int i1), .val (.int i2), .val (.int i3), .val (.int i4), .val (.ref al5_251), .val (.int il6_251), .val (.int il7_251), .val (.int (4 : Int32)), .val (.ref b96), .val .null] [(.int (li.getD (2 : Int32).toNatClampNeg 0))])
                refine own_stepW (fun _ => XS.bipush X96.here hx rfl (hb hby at_291)) ?_
                show own_EndsW p e below s _ _ _ T96 (mkF m 293 #[.val (.int i0), .val (.int i1), .val (.int i2), .val (.int i3), .val (.int i4), .val (.ref al5_251), .val (.int il6_251), .val (.int il7_251), .val (.int (4 : Int32)), .val (.ref b96), .val .null] [(.int (109 : Int32)), (.int (li.getD (2 : Int32).toNatClampNeg 0))])
                by_cases hc293 : (li.getD (2 : Int32).toNatClampNeg 0) = (109 : Int32)
                · have hvf0f1f2f3t4_t_t_t := hvf0f1f2f3t4_t_t.trans (if_pos hc293)
                  refine own_stepW (fun _ => XS.icmpNo X96.here hx rfl (hb hby at_293) rfl (teq hc293).2) ?_
                  show own_EndsW p e below s _ _ _ T96 (mkF m 296 #[.val (.int i0), .val (.int i1), .val (.int i2), .val (.int i3), .val (.int i4), .val (.ref al5_251), .val (.int il6_251), .val (.int il7_251), .val (.int (4 : Int32)), .val (.ref b96), .val .null] [])
                  refine own_stepW (fun _ => XS.aload X96.here hx rfl (hb hby at_296) rfl rfl) ?_
                  show own_EndsW p e below s _ _ _ T96 (mkF m 298 #[.val (.int i0), .val (.int i1), .val (.int i2), .val (.int i3), .val (.int i4), .val (.ref al5_251), .val (.int il6_251), .val (.int il7_251), .val (.int (4 : Int32)), .val (.ref b96), .val .null] [(.ref al5_251)])
                  refine own_stepW (fun _ => XS.iconst X96.here hx rfl (hb hby at_298)) ?_
                  show own_EndsW p e below s _ _ _ T96 (mkF m 299 #[.val (.int i0), .val (.int i1), .val (.int i2), .val (.int i3), .val (.int i4), .val (.ref al5_251), .val (.int il6_251), .val (.int il7_251), .val (.int (4 : Int32)), .val (.ref b96), .val .null] [(.int (3 : Int32)), (.ref al5_251)])
                  obtain ⟨cl100, Ar100, q100, S100, N100_, H100, G100⟩ := id (Va.keep K96 nin0)
                  have hin100 : ¬ ((3 : Int32) < 0 ∨ cl100.slots.size ≤ ((3 : Int32)).toNatClampNeg) := inb_of S100 ⟨by decide, by decide⟩
                  have hat100 : cl100.slots[((3 : Int32)).toNatClampNeg]? = some (.int (li.getD (3 : Int32).toNatClampNeg 0)) := H100.at hin100 (own_getD li _)
                  refine own_stepW (fun _ => X96.caload hx (j := (3 : Int32)) (v := (.int (li.getD (3 : Int32).toNatClampNeg 0))) (by exact Ar100.1) (State.isArrayOf_alike hZ.alike Ar100.2.1) Ar100.2.2 hin100 hat100 (g := (mkF m 299 #[.val (.int i0), .val (.int i1), .val (.int i2), .val (.int i3), .val (.int i4), .val (.ref al5_251), .val (.int il6_251), .val (.int il7_251), .val (.int (4 : Int32)), .val (.ref b96), .val .null] [(.int (3 : Int32)), (.ref al5_251)])) rfl rfl (hb hby at_299) _) ?_
                  show own_EndsW p e below s _ _ _ T96 (mkF m 300 #[.val (.int i0), .val (.int i1), .val (.int i2), .val (.int i3), .val (.int i4), .val (.ref al5_251), .val (.int il6_251), .val (.int il7_251), .val (.int (4 : Int32)), .val (.ref b96), .val .null] [(.int (li.getD (3 : Int32).toNatClampNeg 0))])
                  refine own_stepW (fun _ => XS.bipush X96.here hx rfl (hb hby at_300)) ?_
                  show own_EndsW p e below s _ _ _ T96 (mkF m 302 #[.val (.int i0), .val (.int i1), .val (.int i2), .val (.int i3), .val (.int i4), .val (.ref al5_251), .val (.int il6_251), .val (.int il7_251), .val (.int (4 : Int32)), .val (.ref b96), .val .null] [(.int (101 : Int32)), (.int (li.getD (3 : Int32).toNatClampNeg 0))])
                  by_cases hc302 : (li.getD (3 : Int32).toNatClampNeg 0) = (101 : Int32)
                  · have hvf0f1f2f3t4_t_t_t_t := hvf0f1f2f3t4_t_t_t.trans (if_pos hc302)
                    refine own_stepW (fun _ => XS.icmpNo X96.here hx rfl (hb hby at_302) rfl (teq hc302).2) ?_
                    show own_EndsW p e below s _ _ _ T96 (mkF m 305 #[.val (.int i0), .val (.int i1), .val (.int i2), .val (.int i3), .val (.int i4), .val (.ref al5_251), .val (.int il6_251), .val (.int il7_251), .val (.int (4 : Int32)), .val (.ref b96), .val .null] [])
                    obtain ⟨T101, X101, e101, st101⟩ := getS2 X96 hx hZ hown (host := "") (Or.inl (hw _ (List.mem_of_getElem? (i := 34) rfl))) Via.refl rfl (bSNAME.ext OLDk96.2) (g := (mkF m 305 #[.val (.int i0), .val (.int i1), .val (.int i2), .val (.int i3), .val (.int i4), .val (.ref al5_251), .val (.int il6_251), .val (.int il7_251), .val (.int (4 : Int32)), .val (.ref b96), .val .null] [])) rfl (hb hby at_305)
                    refine own_stepW st101 ?_
                    show own_EndsW p e below s _ _ _ T101 (mkF m 308 #[.val (.int i0), .val (.int i1), .val (.int i2), .val (.int i3), .val (.int i4), .val (.ref al5_251), .val (.int il6_251), .val (.int il7_251), .val (.int (4 : Int32)), .val (.ref b96), .val .null] [(.ref w3)])
                    refine own_stepW (fun _ => XS.astore X101.here hx rfl (hb hby at_308) rfl rfl (l' := #[.val (.int i0), .val (.int i1), .val (.int i2), .val (.int i3), .val (.int i4), .val (.ref al5_251), .val (.int il6_251), .val (.int il7_251), .val (.int (4 : Int32)), .val (.ref b96), .val (.ref w3)]) rfl) ?_
                    show own_EndsW p e below s _ _ _ T101 (mkF m 310 #[.val (.int i0), .val (.int i1), .val (.int i2), .val (.int i3), .val (.int i4), .val (.ref al5_251), .val (.int il6_251), .val (.int il7_251), .val (.int (4 : Int32)), .val (.ref b96), .val (.ref w3)] [])
                    refine own_stepW (fun _ => XS.iload X101.here hx rfl (hb hby at_310) rfl) ?_
                    show own_EndsW p e below s _ _ _ T101 (mkF m 312 #[.val (.int i0), .val (.int i1), .val (.int i2), .val (.int i3), .val (.int i4), .val (.ref al5_251), .val (.int il6_251), .val (.int il7_251), .val (.int (4 : Int32)), .val (.ref b96), .val (.ref w3)] [(.int (4 : Int32))])
                    refine own_stepW (fun _ => XS.iconst X101.here hx rfl (hb hby at_312)) ?_
                    show own_EndsW p e below s _ _ _ T101 (mkF m 313 #[.val (.int i0), .val (.int i1), .val (.int i2), .val (.int i3), .val (.int i4), .val (.ref al5_251), .val (.int il6_251), .val (.int il7_251), .val (.int (4 : Int32)), .val (.ref b96), .val (.ref w3)] [(.int (3 : Int32)), (.int (4 : Int32))])
                    refine own_stepW (fun _ => XS.icmpYes X101.here hx rfl (pc0 := 313) (pc' := 348) rfl (hb hby at_313) rfl (feq (show ¬ ((4 : Int32) = (3 : Int32)) from (by decide))).2 (by decide) (by decide)) ?_
                    show own_EndsW p e below s _ _ _ T101 (mkF m 348 #[.val (.int i0), .val (.int i1), .val (.int i2), .val (.int i3), .val (.int i4), .val (.ref al5_251), .val (.int il6_251), .val (.int il7_251), .val (.int (4 : Int32)), .val (.ref b96), .val (.ref w3)] [])
                    refine own_stepW (fun _ => XS.iload X101.here hx rfl (hb hby at_348) rfl) ?_
                    show own_EndsW p e below s _ _ _ T101 (mkF m 350 #[.val (.int i0), .val (.int i1), .val (.int i2), .val (.int i3), .val (.int i4), .val (.ref al5_251), .val (.int il6_251), .val (.int il7_251), .val (.int (4 : Int32)), .val (.ref b96), .val (.ref w3)] [(.int (4 : Int32))])
                    refine own_stepW (fun _ => XS.iconst X101.here hx rfl (hb hby at_350)) ?_
                    show own_EndsW p e below s _ _ _ T101 (mkF m 351 #[.val (.int i0), .val (.int i1), .val (.int i2), .val (.int i3), .val (.int i4), .val (.ref al5_251), .val (.int il6_251), .val (.int il7_251), .val (.int (4 : Int32)), .val (.ref b96), .val (.ref w3)] [(.int (5 : Int32)), (.int (4 : Int32))])
                    refine own_stepW (fun _ => XS.icmpYes X101.here hx rfl (pc0 := 351) (pc' := 404) rfl (hb hby at_351) rfl (feq (show ¬ ((4 : Int32) = (5 : Int32)) from (by decide))).2 (by decide) (by decide)) ?_
                    show own_EndsW p e below s _ _ _ T101 (mkF m 404 #[.val (.int i0), .val (.int i1), .val (.int i2), .val (.int i3), .val (.int i4), .val (.ref al5_251), .val (.int il6_251), .val (.int il7_251), .val (.int (4 : Int32)), .val (.ref b96), .val (.ref w3)] [])
                    refine own_stepW (fun _ => XS.aload X101.here hx rfl (hb hby at_404) rfl rfl) ?_
                    show own_EndsW p e below s _ _ _ T101 (mkF m 406 #[.val (.int i0), .val (.int i1), .val (.int i2), .val (.int i3), .val (.int i4), .val (.ref al5_251), .val (.int il6_251), .val (.int il7_251), .val (.int (4 : Int32)), .val (.ref b96), .val (.ref w3)] [(.ref b96)])
                    have hp102 : ∀ c ∈ ([(nar .char (li.getD (0 : Int32).toNatClampNeg 0)), (nar .char (li.getD (1 : Int32).toNatClampNeg 0)), (nar .char (li.getD (2 : Int32).toNatClampNeg 0)), (nar .char (li.getD (3 : Int32).toNatClampNeg 0))] : List Int32), own_R c := (own_lc (own_rn hr _) (own_lc (own_rn hr _) (own_lc (own_rn hr _) (own_lc (own_rn hr _) own_ln))))
                    obtain ⟨_, _, ⟨T102, L102, k102, n102⟩, -, X102, ⟨Lc102, hQ102, l102, y102, z102⟩, st102⟩ := Jvm.LawKit.callS X101 hx (y := (⟨"lomwright/lom/Entity$Part", "of", "(Ljava/lang/String;)Llomwright/lom/Entity$Part;"⟩ : MethodName)) hown (mvT hZ (hw _ (List.mem_of_getElem? (i := 37) rfl))) (mvT hZ (hw _ (List.mem_of_getElem? (i := 38) rfl))) (mvT hZ (hw _ (List.mem_of_getElem? (i := 35) rfl))) (mvT hZ (hw _ (List.mem_of_getElem? (i := 39) rfl))) (by decide) (backOf (W := 0) (rm8 l Z a0 hw [] b96 t96 kb96 ([(nar .char (li.getD (0 : Int32).toNatClampNeg 0)), (nar .char (li.getD (1 : Int32).toNatClampNeg 0)), (nar .char (li.getD (2 : Int32).toNatClampNeg 0)), (nar .char (li.getD (3 : Int32).toNatClampNeg 0))]) (4 : Int32) G1 w3 w54 w83 w9 w22 w63 w92 w32 w73 w102 k_w9 k_w32 k_w73 k_w102 T96.heap n0 Zs96 OLDk96 gE96 gC96 gV96 gA96 O2 P5 (StrChars.Road.codOf (n := 4) rfl (fun c hc => (hp102 c hc).2)) (own_up hp102) (Nat.le_of_ble_eq_true rfl) bSNAME bSORG bSEMAIL bSALL bE0 bX0 bC0 bV0 bE1 bX1 bC1 bV1 bE2 bX2 bC2 bV2 bA0 bA1 bA2 bA3) hZ (hw _ (List.mem_of_getElem? (i := 39) rfl)) (hw _ (List.mem_of_getElem? (i := 35) rfl)) (by decide) (by decide)) (g := (mkF m 406 #[.val (.int i0), .val (.int i1), .val (.int i2), .val (.int i3), .val (.int i4), .val (.ref al5_251), .val (.int il6_251), .val (.int il7_251), .val (.int (4 : Int32)), .val (.ref b96), .val (.ref w3)] [(.ref b96)])) rfl (by rw [hml]; rfl) (argsL := [(.ref b96)]) (rest := []) (lenOf pd_4 rfl) rfl (by show 2 * 0 + _ ≤ _; exact Nat.le_of_eq rfl) (hb hby at_406) (fun _ _ => ⟨rfl, e101, (by decide : 4 + 0 ≤ _), (by decide : 18 + 0 ≤ _)⟩)
                    dsimp only [Pt.U, Pt.locs, Pt.cells, Pt.slots] at X102 l102 y102 z102 st102 hQ102
                    subst l102 y102 z102
                    obtain ⟨rfl, N102q, hh102⟩ := hQ102
                    have N102 := Fr.app N96 N102q
                    refine own_stepW st102 ?_
                    show own_EndsW p e below s _ _ _ T102 (mkF m 409 #[.val (.int i0), .val (.int i1), .val (.int i2), .val (.int i3), .val (.int i4), .val (.ref al5_251), .val (.int il6_251), .val (.int il7_251), .val (.int (4 : Int32)), .val (.ref b96), .val (.ref w3)] [(f8_0 ([(nar .char (li.getD (0 : Int32).toNatClampNeg 0)), (nar .char (li.getD (1 : Int32).toNatClampNeg 0)), (nar .char (li.getD (2 : Int32).toNatClampNeg 0)), (nar .char (li.getD (3 : Int32).toNatClampNeg 0))]) w3 w54 w83)])
                    refine own_stepW (fun _ => XS.aload X102.here hx rfl (hb hby at_409) rfl rfl) ?_
                    show own_EndsW p e below s _ _ _ T102 (mkF m 411 #[.val (.int i0), .val (.int i1), .val (.int i2), .val (.int i3), .val (.int i4), .val (.ref al5_251), .val (.int il6_251), .val (.int il7_251), .val (.int (4 : Int32)), .val (.ref b96), .val (.ref w3)] [(.ref w3), (f8_0 ([(nar .char (li.getD (0 : Int32).toNatClampNeg 0)), (nar .char (li.getD (1 : Int32).toNatClampNeg 0)), (nar .char (li.getD (2 : Int32).toNatClampNeg 0)), (nar .char (li.getD (3 : Int32).toNatClampNeg 0))]) w3 w54 w83)])
                    by_cases hc411 : (f8_0 ([(nar .char (li.getD (0 : Int32).toNatClampNeg 0)), (nar .char (li.getD (1 : Int32).toNatClampNeg 0)), (nar .char (li.getD (2 : Int32).toNatClampNeg 0)), (nar .char (li.getD (3 : Int32).toNatClampNeg 0))]) w3 w54 w83) = (.ref w3)
                    · have hvf0f1f2f3t4_t_t_t_t_t := hvf0f1f2f3t4_t_t_t_t.trans (if_pos hc411)
                      refine own_stepW (fun _ => Jvm.RoadKit.acmp (g := (mkF m 411 #[.val (.int i0), .val (.int i1), .val (.int i2), .val (.int i3), .val (.int i4), .val (.ref al5_251), .val (.int il6_251), .val (.int il7_251), .val (.int (4 : Int32)), .val (.ref b96), .val (.ref w3)] [(.ref w3), (f8_0 ([(nar .char (li.getD (0 : Int32).toNatClampNeg 0)), (nar .char (li.getD (1 : Int32).toNatClampNeg 0)), (nar .char (li.getD (2 : Int32).toNatClampNeg 0)), (nar .char (li.getD (3 : Int32).toNatClampNeg 0))]) w3 w54 w83)])) X102 hx rfl (own_f8ref _ _ _ _) rfl (pc0 := 411) (pc' := 414) (same := true) rfl (hb hby at_411) rfl (decide_eq_true hc411) (by decide) (by decide)) ?_
                      show own_EndsW p e below s _ _ _ T102 (mkF m 414 #[.val (.int i0), .val (.int i1), .val (.int i2), .val (.int i3), .val (.int i4), .val (.ref al5_251), .val (.int il6_251), .val (.int il7_251), .val (.int (4 : Int32)), .val (.ref b96), .val (.ref w3)] [])
                      refine own_stepW (fun _ => XS.iconst X102.here hx rfl (hb hby at_414)) ?_
                      show own_EndsW p e below s _ _ _ T102 (mkF m 415 #[.val (.int i0), .val (.int i1), .val (.int i2), .val (.int i3), .val (.int i4), .val (.ref al5_251), .val (.int il6_251), .val (.int il7_251), .val (.int (4 : Int32)), .val (.ref b96), .val (.ref w3)] [(.int (1 : Int32))])
                      refine own_stepW (fun _ => XS.goto X102.here hx rfl (pc0 := 415) (pc' := 419) rfl (hb hby at_415) (by decide) (by decide)) ?_
                      show own_EndsW p e below s _ _ _ T102 (mkF m 419 #[.val (.int i0), .val (.int i1), .val (.int i2), .val (.int i3), .val (.int i4), .val (.ref al5_251), .val (.int il6_251), .val (.int il7_251), .val (.int (4 : Int32)), .val (.ref b96), .val (.ref w3)] [(.int (1 : Int32))])
                      exact own_retNW X102 hS (by rw [hh102]; exact hk) (t := .boolean) hx hret hlk (hb hby at_419) (by decide) (by decide) (by simp) ⟨congrArg (fun z => some (Value.int z)) hvf0f1f2f3t4_t_t_t_t_t.symm, N102, trivial⟩
                    · have hvf0f1f2f3t4_t_t_t_t_f := hvf0f1f2f3t4_t_t_t_t.trans (if_neg hc411)
                      refine own_stepW (fun _ => Jvm.RoadKit.acmp (g := (mkF m 411 #[.val (.int i0), .val (.int i1), .val (.int i2), .val (.int i3), .val (.int i4), .val (.ref al5_251), .val (.int il6_251), .val (.int il7_251), .val (.int (4 : Int32)), .val (.ref b96), .val (.ref w3)] [(.ref w3), (f8_0 ([(nar .char (li.getD (0 : Int32).toNatClampNeg 0)), (nar .char (li.getD (1 : Int32).toNatClampNeg 0)), (nar .char (li.getD (2 : Int32).toNatClampNeg 0)), (nar .char (li.getD (3 : Int32).toNatClampNeg 0))]) w3 w54 w83)])) X102 hx rfl (own_f8ref _ _ _ _) rfl (pc0 := 411) (pc' := 418) (same := false) rfl (hb hby at_411) rfl (decide_eq_false hc411) (by decide) (by decide)) ?_
                      show own_EndsW p e below s _ _ _ T102 (mkF m 418 #[.val (.int i0), .val (.int i1), .val (.int i2), .val (.int i3), .val (.int i4), .val (.ref al5_251), .val (.int il6_251), .val (.int il7_251), .val (.int (4 : Int32)), .val (.ref b96), .val (.ref w3)] [])
                      refine own_stepW (fun _ => XS.iconst X102.here hx rfl (hb hby at_418)) ?_
                      show own_EndsW p e below s _ _ _ T102 (mkF m 419 #[.val (.int i0), .val (.int i1), .val (.int i2), .val (.int i3), .val (.int i4), .val (.ref al5_251), .val (.int il6_251), .val (.int il7_251), .val (.int (4 : Int32)), .val (.ref b96), .val (.ref w3)] [(.int (0 : Int32))])
                      exact own_retNW X102 hS (by rw [hh102]; exact hk) (t := .boolean) hx hret hlk (hb hby at_419) (by decide) (by decide) (by simp) ⟨congrArg (fun z => some (Value.int z)) hvf0f1f2f3t4_t_t_t_t_f.symm, N102, trivial⟩
                  · have hvf0f1f2f3t4_t_t_t_f := hvf0f1f2f3t4_t_t_t.trans (if_neg hc302)
                    refine own_stepW (fun _ => XS.icmpYes X96.here hx rfl (pc0 := 302) (pc' := 310) rfl (hb hby at_302) rfl (feq hc302).2 (by decide) (by decide)) ?_
                    show own_EndsW p e below s _ _ _ T96 (mkF m 310 #[.val (.int i0), .val (.int i1), .val (.int i2), .val (.int i3), .val (.int i4), .val (.ref al5_251), .val (.int il6_251), .val (.int il7_251), .val (.int (4 : Int32)), .val (.ref b96), .val .null] [])
                    refine own_stepW (fun _ => XS.iload X96.here hx rfl (hb hby at_310) rfl) ?_
                    show own_EndsW p e below s _ _ _ T96 (mkF m 312 #[.val (.int i0), .val (.int i1), .val (.int i2), .val (.int i3), .val (.int i4), .val (.ref al5_251), .val (.int il6_251), .val (.int il7_251), .val (.int (4 : Int32)), .val (.ref b96), .val .null] [(.int (4 : Int32))])
                    refine own_stepW (fun _ => XS.iconst X96.here hx rfl (hb hby at_312)) ?_
                    show own_EndsW p e below s _ _ _ T96 (mkF m 313 #[.val (.int i0), .val (.int i1), .val (.int i2), .val (.int i3), .val (.int i4), .val (.ref al5_251), .val (.int il6_251), .val (.int il7_251), .val (.int (4 : Int32)), .val (.ref b96), .val .null] [(.int (3 : Int32)), (.int (4 : Int32))])
                    refine own_stepW (fun _ => XS.icmpYes X96.here hx rfl (pc0 := 313) (pc' := 348) rfl (hb hby at_313) rfl (feq (show ¬ ((4 : Int32) = (3 : Int32)) from (by decide))).2 (by decide) (by decide)) ?_
                    show own_EndsW p e below s _ _ _ T96 (mkF m 348 #[.val (.int i0), .val (.int i1), .val (.int i2), .val (.int i3), .val (.int i4), .val (.ref al5_251), .val (.int il6_251), .val (.int il7_251), .val (.int (4 : Int32)), .val (.ref b96), .val .null] [])
                    refine own_stepW (fun _ => XS.iload X96.here hx rfl (hb hby at_348) rfl) ?_
                    show own_EndsW p e below s _ _ _ T96 (mkF m 350 #[.val (.int i0), .val (.int i1), .val (.int i2), .val (.int i3), .val (.int i4), .val (.ref al5_251), .val (.int il6_251), .val (.int il7_251), .val (.int (4 : Int32)), .val (.ref b96), .val .null] [(.int (4 : Int32))])
                    refine own_stepW (fun _ => XS.iconst X96.here hx rfl (hb hby at_350)) ?_
                    show own_EndsW p e below s _ _ _ T96 (mkF m 351 #[.val (.int i0), .val (.int i1), .val (.int i2), .val (.int i3), .val (.int i4), .val (.ref al5_251), .val (.int il6_251), .val (.int il7_251), .val (.int (4 : Int32)), .val (.ref b96), .val .null] [(.int (5 : Int32)), (.int (4 : Int32))])
                    refine own_stepW (fun _ => XS.icmpYes X96.here hx rfl (pc0 := 351) (pc' := 404) rfl (hb hby at_351) rfl (feq (show ¬ ((4 : Int32) = (5 : Int32)) from (by decide))).2 (by decide) (by decide)) ?_
                    show own_EndsW p e below s _ _ _ T96 (mkF m 404 #[.val (.int i0), .val (.int i1), .val (.int i2), .val (.int i3), .val (.int i4), .val (.ref al5_251), .val (.int il6_251), .val (.int il7_251), .val (.int (4 : Int32)), .val (.ref b96), .val .null] [])
                    refine own_stepW (fun _ => XS.aload X96.here hx rfl (hb hby at_404) rfl rfl) ?_
                    show own_EndsW p e below s _ _ _ T96 (mkF m 406 #[.val (.int i0), .val (.int i1), .val (.int i2), .val (.int i3), .val (.int i4), .val (.ref al5_251), .val (.int il6_251), .val (.int il7_251), .val (.int (4 : Int32)), .val (.ref b96), .val .null] [(.ref b96)])
                    have hp103 : ∀ c ∈ ([(nar .char (li.getD (0 : Int32).toNatClampNeg 0)), (nar .char (li.getD (1 : Int32).toNatClampNeg 0)), (nar .char (li.getD (2 : Int32).toNatClampNeg 0)), (nar .char (li.getD (3 : Int32).toNatClampNeg 0))] : List Int32), own_R c := (own_lc (own_rn hr _) (own_lc (own_rn hr _) (own_lc (own_rn hr _) (own_lc (own_rn hr _) own_ln))))
                    obtain ⟨_, _, ⟨T103, L103, k103, n103⟩, -, X103, ⟨Lc103, hQ103, l103, y103, z103⟩, st103⟩ := Jvm.LawKit.callS X96 hx (y := (⟨"lomwright/lom/Entity$Part", "of", "(Ljava/lang/String;)Llomwright/lom/Entity$Part;"⟩ : MethodName)) hown (mvT hZ (hw _ (List.mem_of_getElem? (i := 37) rfl))) (mvT hZ (hw _ (List.mem_of_getElem? (i := 38) rfl))) (mvT hZ (hw _ (List.mem_of_getElem? (i := 35) rfl))) (mvT hZ (hw _ (List.mem_of_getElem? (i := 39) rfl))) (by decide) (backOf (W := 0) (rm8 l Z a0 hw [] b96 t96 kb96 ([(nar .char (li.getD (0 : Int32).toNatClampNeg 0)), (nar .char (li.getD (1 : Int32).toNatClampNeg 0)), (nar .char (li.getD (2 : Int32).toNatClampNeg 0)), (nar .char (li.getD (3 : Int32).toNatClampNeg 0))]) (4 : Int32) G1 w3 w54 w83 w9 w22 w63 w92 w32 w73 w102 k_w9 k_w32 k_w73 k_w102 T96.heap n0 Zs96 OLDk96 gE96 gC96 gV96 gA96 O2 P5 (StrChars.Road.codOf (n := 4) rfl (fun c hc => (hp103 c hc).2)) (own_up hp103) (Nat.le_of_ble_eq_true rfl) bSNAME bSORG bSEMAIL bSALL bE0 bX0 bC0 bV0 bE1 bX1 bC1 bV1 bE2 bX2 bC2 bV2 bA0 bA1 bA2 bA3) hZ (hw _ (List.mem_of_getElem? (i := 39) rfl)) (hw _ (List.mem_of_getElem? (i := 35) rfl)) (by decide) (by decide)) (g := (mkF m 406 #[.val (.int i0), .val (.int i1), .val (.int i2), .val (.int i3), .val (.int i4), .val (.ref al5_251), .val (.int il6_251), .val (.int il7_251), .val (.int (4 : Int32)), .val (.ref b96), .val .null] [(.ref b96)])) rfl (by rw [hml]; rfl) (argsL := [(.ref b96)]) (rest := []) (lenOf pd_4 rfl) rfl (by show 2 * 0 + _ ≤ _; exact Nat.le_of_eq rfl) (hb hby at_406) (fun _ _ => ⟨rfl, rfl, (by decide : 4 + 0 ≤ _), (by decide : 18 + 0 ≤ _)⟩)
                    dsimp only [Pt.U, Pt.locs, Pt.cells, Pt.slots] at X103 l103 y103 z103 st103 hQ103
                    subst l103 y103 z103
                    obtain ⟨rfl, N103q, hh103⟩ := hQ103
                    have N103 := Fr.app N96 N103q
                    refine own_stepW st103 ?_
                    show own_EndsW p e below s _ _ _ T103 (mkF m 409 #[.val (.int i0), .val (.int i1), .val (.int i2), .val (.int i3), .val (.int i4), .val (.ref al5_251), .val (.int il6_251), .val (.int il7_251), .val (.int (4 : Int32)), .val (.ref b96), .val .null] [(f8_0 ([(nar .char (li.getD (0 : Int32).toNatClampNeg 0)), (nar .char (li.getD (1 : Int32).toNatClampNeg 0)), (nar .char (li.getD (2 : Int32).toNatClampNeg 0)), (nar .char (li.getD (3 : Int32).toNatClampNeg 0))]) w3 w54 w83)])
                    refine own_stepW (fun _ => XS.aload X103.here hx rfl (hb hby at_409) rfl rfl) ?_
                    show own_EndsW p e below s _ _ _ T103 (mkF m 411 #[.val (.int i0), .val (.int i1), .val (.int i2), .val (.int i3), .val (.int i4), .val (.ref al5_251), .val (.int il6_251), .val (.int il7_251), .val (.int (4 : Int32)), .val (.ref b96), .val .null] [.null, (f8_0 ([(nar .char (li.getD (0 : Int32).toNatClampNeg 0)), (nar .char (li.getD (1 : Int32).toNatClampNeg 0)), (nar .char (li.getD (2 : Int32).toNatClampNeg 0)), (nar .char (li.getD (3 : Int32).toNatClampNeg 0))]) w3 w54 w83)])
                    by_cases hc411 : (f8_0 ([(nar .char (li.getD (0 : Int32).toNatClampNeg 0)), (nar .char (li.getD (1 : Int32).toNatClampNeg 0)), (nar .char (li.getD (2 : Int32).toNatClampNeg 0)), (nar .char (li.getD (3 : Int32).toNatClampNeg 0))]) w3 w54 w83) = .null
                    · have hvf0f1f2f3t4_t_t_t_f_t := hvf0f1f2f3t4_t_t_t_f.trans (if_pos hc411)
                      refine own_stepW (fun _ => Jvm.RoadKit.acmp (g := (mkF m 411 #[.val (.int i0), .val (.int i1), .val (.int i2), .val (.int i3), .val (.int i4), .val (.ref al5_251), .val (.int il6_251), .val (.int il7_251), .val (.int (4 : Int32)), .val (.ref b96), .val .null] [.null, (f8_0 ([(nar .char (li.getD (0 : Int32).toNatClampNeg 0)), (nar .char (li.getD (1 : Int32).toNatClampNeg 0)), (nar .char (li.getD (2 : Int32).toNatClampNeg 0)), (nar .char (li.getD (3 : Int32).toNatClampNeg 0))]) w3 w54 w83)])) X103 hx rfl (own_f8ref _ _ _ _) rfl (pc0 := 411) (pc' := 414) (same := true) rfl (hb hby at_411) rfl (decide_eq_true hc411) (by decide) (by decide)) ?_
                      show own_EndsW p e below s _ _ _ T103 (mkF m 414 #[.val (.int i0), .val (.int i1), .val (.int i2), .val (.int i3), .val (.int i4), .val (.ref al5_251), .val (.int il6_251), .val (.int il7_251), .val (.int (4 : Int32)), .val (.ref b96), .val .null] [])
                      refine own_stepW (fun _ => XS.iconst X103.here hx rfl (hb hby at_414)) ?_
                      show own_EndsW p e below s _ _ _ T103 (mkF m 415 #[.val (.int i0), .val (.int i1), .val (.int i2), .val (.int i3), .val (.int i4), .val (.ref al5_251), .val (.int il6_251), .val (.int il7_251), .val (.int (4 : Int32)), .val (.ref b96), .val .null] [(.int (1 : Int32))])
                      refine own_stepW (fun _ => XS.goto X103.here hx rfl (pc0 := 415) (pc' := 419) rfl (hb hby at_415) (by decide) (by decide)) ?_
                      show own_EndsW p e below s _ _ _ T103 (mkF m 419 #[.val (.int i0), .val (.int i1), .val (.int i2), .val (.int i3), .val (.int i4), .val (.ref al5_251), .val (.int il6_251), .val (.int il7_251), .val (.int (4 : Int32)), .val (.ref b96), .val .null] [(.int (1 : Int32))])
                      exact own_retNW X103 hS (by rw [hh103]; exact hk) (t := .boolean) hx hret hlk (hb hby at_419) (by decide) (by decide) (by simp) ⟨congrArg (fun z => some (Value.int z)) hvf0f1f2f3t4_t_t_t_f_t.symm, N103, trivial⟩
                    · have hvf0f1f2f3t4_t_t_t_f_f := hvf0f1f2f3t4_t_t_t_f.trans (if_neg hc411)
                      refine own_stepW (fun _ => Jvm.RoadKit.acmp (g := (mkF m 411 #[.val (.int i0), .val (.int i1), .val (.int i2), .val (.int i3), .val (.int i4), .val (.ref al5_251), .val (.int il6_251), .val (.int il7_251), .val (.int (4 : Int32)), .val (.ref b96), .val .null] [.null, (f8_0 ([(nar .char (li.getD (0 : Int32).toNatClampNeg 0)), (nar .char (li.getD (1 : Int32).toNatClampNeg 0)), (nar .char (li.getD (2 : Int32).toNatClampNeg 0)), (nar .char (li.getD (3 : Int32).toNatClampNeg 0))]) w3 w54 w83)])) X103 hx rfl (own_f8ref _ _ _ _) rfl (pc0 := 411) (pc' := 418) (same := false) rfl (hb hby at_411) rfl (decide_eq_false hc411) (by decide) (by decide)) ?_
                      show own_EndsW p e below s _ _ _ T103 (mkF m 418 #[.val (.int i0), .val (.int i1), .val (.int i2), .val (.int i3), .val (.int i4), .val (.ref al5_251), .val (.int il6_251), .val (.int il7_251), .val (.int (4 : Int32)), .val (.ref b96), .val .null] [])
                      refine own_stepW (fun _ => XS.iconst X103.here hx rfl (hb hby at_418)) ?_
                      show own_EndsW p e below s _ _ _ T103 (mkF m 419 #[.val (.int i0), .val (.int i1), .val (.int i2), .val (.int i3), .val (.int i4), .val (.ref al5_251), .val (.int il6_251), .val (.int il7_251), .val (.int (4 : Int32)), .val (.ref b96), .val .null] [(.int (0 : Int32))])
                      exact own_retNW X103 hS (by rw [hh103]; exact hk) (t := .boolean) hx hret hlk (hb hby at_419) (by decide) (by decide) (by simp) ⟨congrArg (fun z => some (Value.int z)) hvf0f1f2f3t4_t_t_t_f_f.symm, N103, trivial⟩
                · have hvf0f1f2f3t4_t_t_f := hvf0f1f2f3t4_t_t.trans (if_neg hc293)
                  refine own_stepW (fun _ => XS.icmpYes X96.here hx rfl (pc0 := 293) (pc' := 310) rfl (hb hby at_293) rfl (feq hc293).2 (by decide) (by decide)) ?_
                  show own_EndsW p e below s _ _ _ T96 (mkF m 310 #[.val (.int i0), .val (.int i1), .val (.int i2), .val (.int i3), .val (.int i4), .val (.ref al5_251), .val (.int il6_251), .val (.int il7_251), .val (.int (4 : Int32)), .val (.ref b96), .val .null] [])
                  refine own_stepW (fun _ => XS.iload X96.here hx rfl (hb hby at_310) rfl) ?_
                  show own_EndsW p e below s _ _ _ T96 (mkF m 312 #[.val (.int i0), .val (.int i1), .val (.int i2), .val (.int i3), .val (.int i4), .val (.ref al5_251), .val (.int il6_251), .val (.int il7_251), .val (.int (4 : Int32)), .val (.ref b96), .val .null] [(.int (4 : Int32))])
                  refine own_stepW (fun _ => XS.iconst X96.here hx rfl (hb hby at_312)) ?_
                  show own_EndsW p e below s _ _ _ T96 (mkF m 313 #[.val (.int i0), .val (.int i1), .val (.int i2), .val (.int i3), .val (.int i4), .val (.ref al5_251), .val (.int il6_251), .val (.int il7_251), .val (.int (4 : Int32)), .val (.ref b96), .val .null] [(.int (3 : Int32)), (.int (4 : Int32))])
                  refine own_stepW (fun _ => XS.icmpYes X96.here hx rfl (pc0 := 313) (pc' := 348) rfl (hb hby at_313) rfl (feq (show ¬ ((4 : Int32) = (3 : Int32)) from (by decide))).2 (by decide) (by decide)) ?_
                  show own_EndsW p e below s _ _ _ T96 (mkF m 348 #[.val (.int i0), .val (.int i1), .val (.int i2), .val (.int i3), .val (.int i4), .val (.ref al5_251), .val (.int il6_251), .val (.int il7_251), .val (.int (4 : Int32)), .val (.ref b96), .val .null] [])
                  refine own_stepW (fun _ => XS.iload X96.here hx rfl (hb hby at_348) rfl) ?_
                  show own_EndsW p e below s _ _ _ T96 (mkF m 350 #[.val (.int i0), .val (.int i1), .val (.int i2), .val (.int i3), .val (.int i4), .val (.ref al5_251), .val (.int il6_251), .val (.int il7_251), .val (.int (4 : Int32)), .val (.ref b96), .val .null] [(.int (4 : Int32))])
                  refine own_stepW (fun _ => XS.iconst X96.here hx rfl (hb hby at_350)) ?_
                  show own_EndsW p e below s _ _ _ T96 (mkF m 351 #[.val (.int i0), .val (.int i1), .val (.int i2), .val (.int i3), .val (.int i4), .val (.ref al5_251), .val (.int il6_251), .val (.int il7_251), .val (.int (4 : Int32)), .val (.ref b96), .val .null] [(.int (5 : Int32)), (.int (4 : Int32))])
                  refine own_stepW (fun _ => XS.icmpYes X96.here hx rfl (pc0 := 351) (pc' := 404) rfl (hb hby at_351) rfl (feq (show ¬ ((4 : Int32) = (5 : Int32)) from (by decide))).2 (by decide) (by decide)) ?_
                  show own_EndsW p e below s _ _ _ T96 (mkF m 404 #[.val (.int i0), .val (.int i1), .val (.int i2), .val (.int i3), .val (.int i4), .val (.ref al5_251), .val (.int il6_251), .val (.int il7_251), .val (.int (4 : Int32)), .val (.ref b96), .val .null] [])
                  refine own_stepW (fun _ => XS.aload X96.here hx rfl (hb hby at_404) rfl rfl) ?_
                  show own_EndsW p e below s _ _ _ T96 (mkF m 406 #[.val (.int i0), .val (.int i1), .val (.int i2), .val (.int i3), .val (.int i4), .val (.ref al5_251), .val (.int il6_251), .val (.int il7_251), .val (.int (4 : Int32)), .val (.ref b96), .val .null] [(.ref b96)])
                  have hp104 : ∀ c ∈ ([(nar .char (li.getD (0 : Int32).toNatClampNeg 0)), (nar .char (li.getD (1 : Int32).toNatClampNeg 0)), (nar .char (li.getD (2 : Int32).toNatClampNeg 0)), (nar .char (li.getD (3 : Int32).toNatClampNeg 0))] : List Int32), own_R c := (own_lc (own_rn hr _) (own_lc (own_rn hr _) (own_lc (own_rn hr _) (own_lc (own_rn hr _) own_ln))))
                  obtain ⟨_, _, ⟨T104, L104, k104, n104⟩, -, X104, ⟨Lc104, hQ104, l104, y104, z104⟩, st104⟩ := Jvm.LawKit.callS X96 hx (y := (⟨"lomwright/lom/Entity$Part", "of", "(Ljava/lang/String;)Llomwright/lom/Entity$Part;"⟩ : MethodName)) hown (mvT hZ (hw _ (List.mem_of_getElem? (i := 37) rfl))) (mvT hZ (hw _ (List.mem_of_getElem? (i := 38) rfl))) (mvT hZ (hw _ (List.mem_of_getElem? (i := 35) rfl))) (mvT hZ (hw _ (List.mem_of_getElem? (i := 39) rfl))) (by decide) (backOf (W := 0) (rm8 l Z a0 hw [] b96 t96 kb96 ([(nar .char (li.getD (0 : Int32).toNatClampNeg 0)), (nar .char (li.getD (1 : Int32).toNatClampNeg 0)), (nar .char (li.getD (2 : Int32).toNatClampNeg 0)), (nar .char (li.getD (3 : Int32).toNatClampNeg 0))]) (4 : Int32) G1 w3 w54 w83 w9 w22 w63 w92 w32 w73 w102 k_w9 k_w32 k_w73 k_w102 T96.heap n0 Zs96 OLDk96 gE96 gC96 gV96 gA96 O2 P5 (StrChars.Road.codOf (n := 4) rfl (fun c hc => (hp104 c hc).2)) (own_up hp104) (Nat.le_of_ble_eq_true rfl) bSNAME bSORG bSEMAIL bSALL bE0 bX0 bC0 bV0 bE1 bX1 bC1 bV1 bE2 bX2 bC2 bV2 bA0 bA1 bA2 bA3) hZ (hw _ (List.mem_of_getElem? (i := 39) rfl)) (hw _ (List.mem_of_getElem? (i := 35) rfl)) (by decide) (by decide)) (g := (mkF m 406 #[.val (.int i0), .val (.int i1), .val (.int i2), .val (.int i3), .val (.int i4), .val (.ref al5_251), .val (.int il6_251), .val (.int il7_251), .val (.int (4 : Int32)), .val (.ref b96), .val .null] [(.ref b96)])) rfl (by rw [hml]; rfl) (argsL := [(.ref b96)]) (rest := []) (lenOf pd_4 rfl) rfl (by show 2 * 0 + _ ≤ _; exact Nat.le_of_eq rfl) (hb hby at_406) (fun _ _ => ⟨rfl, rfl, (by decide : 4 + 0 ≤ _), (by decide : 18 + 0 ≤ _)⟩)
                  dsimp only [Pt.U, Pt.locs, Pt.cells, Pt.slots] at X104 l104 y104 z104 st104 hQ104
                  subst l104 y104 z104
                  obtain ⟨rfl, N104q, hh104⟩ := hQ104
                  have N104 := Fr.app N96 N104q
                  refine own_stepW st104 ?_
                  show own_EndsW p e below s _ _ _ T104 (mkF m 409 #[.val (.int i0), .val (.int i1), .val (.int i2), .val (.int i3), .val (.int i4), .val (.ref al5_251), .val (.int il6_251), .val (.int il7_251), .val (.int (4 : Int32)), .val (.ref b96), .val .null] [(f8_0 ([(nar .char (li.getD (0 : Int32).toNatClampNeg 0)), (nar .char (li.getD (1 : Int32).toNatClampNeg 0)), (nar .char (li.getD (2 : Int32).toNatClampNeg 0)), (nar .char (li.getD (3 : Int32).toNatClampNeg 0))]) w3 w54 w83)])
                  refine own_stepW (fun _ => XS.aload X104.here hx rfl (hb hby at_409) rfl rfl) ?_
                  show own_EndsW p e below s _ _ _ T104 (mkF m 411 #[.val (.int i0), .val (.int i1), .val (.int i2), .val (.int i3), .val (.int i4), .val (.ref al5_251), .val (.int il6_251), .val (.int il7_251), .val (.int (4 : Int32)), .val (.ref b96), .val .null] [.null, (f8_0 ([(nar .char (li.getD (0 : Int32).toNatClampNeg 0)), (nar .char (li.getD (1 : Int32).toNatClampNeg 0)), (nar .char (li.getD (2 : Int32).toNatClampNeg 0)), (nar .char (li.getD (3 : Int32).toNatClampNeg 0))]) w3 w54 w83)])
                  by_cases hc411 : (f8_0 ([(nar .char (li.getD (0 : Int32).toNatClampNeg 0)), (nar .char (li.getD (1 : Int32).toNatClampNeg 0)), (nar .char (li.getD (2 : Int32).toNatClampNeg 0)), (nar .char (li.getD (3 : Int32).toNatClampNeg 0))]) w3 w54 w83) = .null
                  · have hvf0f1f2f3t4_t_t_f_t := hvf0f1f2f3t4_t_t_f.trans (if_pos hc411)
                    refine own_stepW (fun _ => Jvm.RoadKit.acmp (g := (mkF m 411 #[.val (.int i0), .val (.int i1), .val (.int i2), .val (.int i3), .val (.int i4), .val (.ref al5_251), .val (.int il6_251), .val (.int il7_251), .val (.int (4 : Int32)), .val (.ref b96), .val .null] [.null, (f8_0 ([(nar .char (li.getD (0 : Int32).toNatClampNeg 0)), (nar .char (li.getD (1 : Int32).toNatClampNeg 0)), (nar .char (li.getD (2 : Int32).toNatClampNeg 0)), (nar .char (li.getD (3 : Int32).toNatClampNeg 0))]) w3 w54 w83)])) X104 hx rfl (own_f8ref _ _ _ _) rfl (pc0 := 411) (pc' := 414) (same := true) rfl (hb hby at_411) rfl (decide_eq_true hc411) (by decide) (by decide)) ?_
                    show own_EndsW p e below s _ _ _ T104 (mkF m 414 #[.val (.int i0), .val (.int i1), .val (.int i2), .val (.int i3), .val (.int i4), .val (.ref al5_251), .val (.int il6_251), .val (.int il7_251), .val (.int (4 : Int32)), .val (.ref b96), .val .null] [])
                    refine own_stepW (fun _ => XS.iconst X104.here hx rfl (hb hby at_414)) ?_
                    show own_EndsW p e below s _ _ _ T104 (mkF m 415 #[.val (.int i0), .val (.int i1), .val (.int i2), .val (.int i3), .val (.int i4), .val (.ref al5_251), .val (.int il6_251), .val (.int il7_251), .val (.int (4 : Int32)), .val (.ref b96), .val .null] [(.int (1 : Int32))])
                    refine own_stepW (fun _ => XS.goto X104.here hx rfl (pc0 := 415) (pc' := 419) rfl (hb hby at_415) (by decide) (by decide)) ?_
                    show own_EndsW p e below s _ _ _ T104 (mkF m 419 #[.val (.int i0), .val (.int i1), .val (.int i2), .val (.int i3), .val (.int i4), .val (.ref al5_251), .val (.int il6_251), .val (.int il7_251), .val (.int (4 : Int32)), .val (.ref b96), .val .null] [(.int (1 : Int32))])
                    exact own_retNW X104 hS (by rw [hh104]; exact hk) (t := .boolean) hx hret hlk (hb hby at_419) (by decide) (by decide) (by simp) ⟨congrArg (fun z => some (Value.int z)) hvf0f1f2f3t4_t_t_f_t.symm, N104, trivial⟩
                  · have hvf0f1f2f3t4_t_t_f_f := hvf0f1f2f3t4_t_t_f.trans (if_neg hc411)
                    refine own_stepW (fun _ => Jvm.RoadKit.acmp (g := (mkF m 411 #[.val (.int i0), .val (.int i1), .val (.int i2), .val (.int i3), .val (.int i4), .val (.ref al5_251), .val (.int il6_251), .val (.int il7_251), .val (.int (4 : Int32)), .val (.ref b96), .val .null] [.null, (f8_0 ([(nar .char (li.getD (0 : Int32).toNatClampNeg 0)), (nar .char (li.getD (1 : Int32).toNatClampNeg 0)), (nar .char (li.getD (2 : Int32).toNatClampNeg 0)), (nar .char (li.getD (3 : Int32).toNatClampNeg 0))]) w3 w54 w83)])) X104 hx rfl (own_f8ref _ _ _ _) rfl (pc0 := 411) (pc' := 418) (same := false) rfl (hb hby at_411) rfl (decide_eq_false hc411) (by decide) (by decide)) ?_
                    show own_EndsW p e below s _ _ _ T104 (mkF m 418 #[.val (.int i0), .val (.int i1), .val (.int i2), .val (.int i3), .val (.int i4), .val (.ref al5_251), .val (.int il6_251), .val (.int il7_251), .val (.int (4 : Int32)), .val (.ref b96), .val .null] [])
                    refine own_stepW (fun _ => XS.iconst X104.here hx rfl (hb hby at_418)) ?_
                    show own_EndsW p e below s _ _ _ T104 (mkF m 419 #[.val (.int i0), .val (.int i1), .val (.int i2), .val (.int i3), .val (.int i4), .val (.ref al5_251), .val (.int il6_251), .val (.int il7_251), .val (.int (4 : Int32)), .val (.ref b96), .val .null] [(.int (0 : Int32))])
                    exact own_retNW X104 hS (by rw [hh104]; exact hk) (t := .boolean) hx hret hlk (hb hby at_419) (by decide) (by decide) (by simp) ⟨congrArg (fun z => some (Value.int z)) hvf0f1f2f3t4_t_t_f_f.symm, N104, trivial⟩
              · have hvf0f1f2f3t4_t_f := hvf0f1f2f3t4_t.trans (if_neg hc284)
                refine own_stepW (fun _ => XS.icmpYes X96.here hx rfl (pc0 := 284) (pc' := 310) rfl (hb hby at_284) rfl (feq hc284).2 (by decide) (by decide)) ?_
                show own_EndsW p e below s _ _ _ T96 (mkF m 310 #[.val (.int i0), .val (.int i1), .val (.int i2), .val (.int i3), .val (.int i4), .val (.ref al5_251), .val (.int il6_251), .val (.int il7_251), .val (.int (4 : Int32)), .val (.ref b96), .val .null] [])
                refine own_stepW (fun _ => XS.iload X96.here hx rfl (hb hby at_310) rfl) ?_
                show own_EndsW p e below s _ _ _ T96 (mkF m 312 #[.val (.int i0), .val (.int i1), .val (.int i2), .val (.int i3), .val (.int i4), .val (.ref al5_251), .val (.int il6_251), .val (.int il7_251), .val (.int (4 : Int32)), .val (.ref b96), .val .null] [(.int (4 : Int32))])
                refine own_stepW (fun _ => XS.iconst X96.here hx rfl (hb hby at_312)) ?_
                show own_EndsW p e below s _ _ _ T96 (mkF m 313 #[.val (.int i0), .val (.int i1), .val (.int i2), .val (.int i3), .val (.int i4), .val (.ref al5_251), .val (.int il6_251), .val (.int il7_251), .val (.int (4 : Int32)), .val (.ref b96), .val .null] [(.int (3 : Int32)), (.int (4 : Int32))])
                refine own_stepW (fun _ => XS.icmpYes X96.here hx rfl (pc0 := 313) (pc' := 348) rfl (hb hby at_313) rfl (feq (show ¬ ((4 : Int32) = (3 : Int32)) from (by decide))).2 (by decide) (by decide)) ?_
                show own_EndsW p e below s _ _ _ T96 (mkF m 348 #[.val (.int i0), .val (.int i1), .val (.int i2), .val (.int i3), .val (.int i4), .val (.ref al5_251), .val (.int il6_251), .val (.int il7_251), .val (.int (4 : Int32)), .val (.ref b96), .val .null] [])
                refine own_stepW (fun _ => XS.iload X96.here hx rfl (hb hby at_348) rfl) ?_
                show own_EndsW p e below s _ _ _ T96 (mkF m 350 #[.val (.int i0), .val (.int i1), .val (.int i2), .val (.int i3), .val (.int i4), .val (.ref al5_251), .val (.int il6_251), .val (.int il7_251), .val (.int (4 : Int32)), .val (.ref b96), .val .null] [(.int (4 : Int32))])
                refine own_stepW (fun _ => XS.iconst X96.here hx rfl (hb hby at_350)) ?_
                show own_EndsW p e below s _ _ _ T96 (mkF m 351 #[.val (.int i0), .val (.int i1), .val (.int i2), .val (.int i3), .val (.int i4), .val (.ref al5_251), .val (.int il6_251), .val (.int il7_251), .val (.int (4 : Int32)), .val (.ref b96), .val .null] [(.int (5 : Int32)), (.int (4 : Int32))])
                refine own_stepW (fun _ => XS.icmpYes X96.here hx rfl (pc0 := 351) (pc' := 404) rfl (hb hby at_351) rfl (feq (show ¬ ((4 : Int32) = (5 : Int32)) from (by decide))).2 (by decide) (by decide)) ?_
                show own_EndsW p e below s _ _ _ T96 (mkF m 404 #[.val (.int i0), .val (.int i1), .val (.int i2), .val (.int i3), .val (.int i4), .val (.ref al5_251), .val (.int il6_251), .val (.int il7_251), .val (.int (4 : Int32)), .val (.ref b96), .val .null] [])
                refine own_stepW (fun _ => XS.aload X96.here hx rfl (hb hby at_404) rfl rfl) ?_
                show own_EndsW p e below s _ _ _ T96 (mkF m 406 #[.val (.int i0), .val (.int i1), .val (.int i2), .val (.int i3), .val (.int i4), .val (.ref al5_251), .val (.int il6_251), .val (.int il7_251), .val (.int (4 : Int32)), .val (.ref b96), .val .null] [(.ref b96)])
                have hp105 : ∀ c ∈ ([(nar .char (li.getD (0 : Int32).toNatClampNeg 0)), (nar .char (li.getD (1 : Int32).toNatClampNeg 0)), (nar .char (li.getD (2 : Int32).toNatClampNeg 0)), (nar .char (li.getD (3 : Int32).toNatClampNeg 0))] : List Int32), own_R c := (own_lc (own_rn hr _) (own_lc (own_rn hr _) (own_lc (own_rn hr _) (own_lc (own_rn hr _) own_ln))))
                obtain ⟨_, _, ⟨T105, L105, k105, n105⟩, -, X105, ⟨Lc105, hQ105, l105, y105, z105⟩, st105⟩ := Jvm.LawKit.callS X96 hx (y := (⟨"lomwright/lom/Entity$Part", "of", "(Ljava/lang/String;)Llomwright/lom/Entity$Part;"⟩ : MethodName)) hown (mvT hZ (hw _ (List.mem_of_getElem? (i := 37) rfl))) (mvT hZ (hw _ (List.mem_of_getElem? (i := 38) rfl))) (mvT hZ (hw _ (List.mem_of_getElem? (i := 35) rfl))) (mvT hZ (hw _ (List.mem_of_getElem? (i := 39) rfl))) (by decide) (backOf (W := 0) (rm8 l Z a0 hw [] b96 t96 kb96 ([(nar .char (li.getD (0 : Int32).toNatClampNeg 0)), (nar .char (li.getD (1 : Int32).toNatClampNeg 0)), (nar .char (li.getD (2 : Int32).toNatClampNeg 0)), (nar .char (li.getD (3 : Int32).toNatClampNeg 0))]) (4 : Int32) G1 w3 w54 w83 w9 w22 w63 w92 w32 w73 w102 k_w9 k_w32 k_w73 k_w102 T96.heap n0 Zs96 OLDk96 gE96 gC96 gV96 gA96 O2 P5 (StrChars.Road.codOf (n := 4) rfl (fun c hc => (hp105 c hc).2)) (own_up hp105) (Nat.le_of_ble_eq_true rfl) bSNAME bSORG bSEMAIL bSALL bE0 bX0 bC0 bV0 bE1 bX1 bC1 bV1 bE2 bX2 bC2 bV2 bA0 bA1 bA2 bA3) hZ (hw _ (List.mem_of_getElem? (i := 39) rfl)) (hw _ (List.mem_of_getElem? (i := 35) rfl)) (by decide) (by decide)) (g := (mkF m 406 #[.val (.int i0), .val (.int i1), .val (.int i2), .val (.int i3), .val (.int i4), .val (.ref al5_251), .val (.int il6_251), .val (.int il7_251), .val (.int (4 : Int32)), .val (.ref b96), .val .null] [(.ref b96)])) rfl (by rw [hml]; rfl) (argsL := [(.ref b96)]) (rest := []) (lenOf pd_4 rfl) rfl (by show 2 * 0 + _ ≤ _; exact Nat.le_of_eq rfl) (hb hby at_406) (fun _ _ => ⟨rfl, rfl, (by decide : 4 + 0 ≤ _), (by decide : 18 + 0 ≤ _)⟩)
                dsimp only [Pt.U, Pt.locs, Pt.cells, Pt.slots] at X105 l105 y105 z105 st105 hQ105
                subst l105 y105 z105
                obtain ⟨rfl, N105q, hh105⟩ := hQ105
                have N105 := Fr.app N96 N105q
                refine own_stepW st105 ?_
                show own_EndsW p e below s _ _ _ T105 (mkF m 409 #[.val (.int i0), .val (.int i1), .val (.int i2), .val (.int i3), .val (.int i4), .val (.ref al5_251), .val (.int il6_251), .val (.int il7_251), .val (.int (4 : Int32)), .val (.ref b96), .val .null] [(f8_0 ([(nar .char (li.getD (0 : Int32).toNatClampNeg 0)), (nar .char (li.getD (1 : Int32).toNatClampNeg 0)), (nar .char (li.getD (2 : Int32).toNatClampNeg 0)), (nar .char (li.getD (3 : Int32).toNatClampNeg 0))]) w3 w54 w83)])
                refine own_stepW (fun _ => XS.aload X105.here hx rfl (hb hby at_409) rfl rfl) ?_
                show own_EndsW p e below s _ _ _ T105 (mkF m 411 #[.val (.int i0), .val (.int i1), .val (.int i2), .val (.int i3), .val (.int i4), .val (.ref al5_251), .val (.int il6_251), .val (.int il7_251), .val (.int (4 : Int32)), .val (.ref b96), .val .null] [.null, (f8_0 ([(nar .char (li.getD (0 : Int32).toNatClampNeg 0)), (nar .char (li.getD (1 : Int32).toNatClampNeg 0)), (nar .char (li.getD (2 : Int32).toNatClampNeg 0)), (nar .char (li.getD (3 : Int32).toNatClampNeg 0))]) w3 w54 w83)])
                by_cases hc411 : (f8_0 ([(nar .char (li.getD (0 : Int32).toNatClampNeg 0)), (nar .char (li.getD (1 : Int32).toNatClampNeg 0)), (nar .char (li.getD (2 : Int32).toNatClampNeg 0)), (nar .char (li.getD (3 : Int32).toNatClampNeg 0))]) w3 w54 w83) = .null
                · have hvf0f1f2f3t4_t_f_t := hvf0f1f2f3t4_t_f.trans (if_pos hc411)
                  refine own_stepW (fun _ => Jvm.RoadKit.acmp (g := (mkF m 411 #[.val (.int i0), .val (.int i1), .val (.int i2), .val (.int i3), .val (.int i4), .val (.ref al5_251), .val (.int il6_251), .val (.int il7_251), .val (.int (4 : Int32)), .val (.ref b96), .val .null] [.null, (f8_0 ([(nar .char (li.getD (0 : Int32).toNatClampNeg 0)), (nar .char (li.getD (1 : Int32).toNatClampNeg 0)), (nar .char (li.getD (2 : Int32).toNatClampNeg 0)), (nar .char (li.getD (3 : Int32).toNatClampNeg 0))]) w3 w54 w83)])) X105 hx rfl (own_f8ref _ _ _ _) rfl (pc0 := 411) (pc' := 414) (same := true) rfl (hb hby at_411) rfl (decide_eq_true hc411) (by decide) (by decide)) ?_
                  show own_EndsW p e below s _ _ _ T105 (mkF m 414 #[.val (.int i0), .val (.int i1), .val (.int i2), .val (.int i3), .val (.int i4), .val (.ref al5_251), .val (.int il6_251), .val (.int il7_251), .val (.int (4 : Int32)), .val (.ref b96), .val .null] [])
                  refine own_stepW (fun _ => XS.iconst X105.here hx rfl (hb hby at_414)) ?_
                  show own_EndsW p e below s _ _ _ T105 (mkF m 415 #[.val (.int i0), .val (.int i1), .val (.int i2), .val (.int i3), .val (.int i4), .val (.ref al5_251), .val (.int il6_251), .val (.int il7_251), .val (.int (4 : Int32)), .val (.ref b96), .val .null] [(.int (1 : Int32))])
                  refine own_stepW (fun _ => XS.goto X105.here hx rfl (pc0 := 415) (pc' := 419) rfl (hb hby at_415) (by decide) (by decide)) ?_
                  show own_EndsW p e below s _ _ _ T105 (mkF m 419 #[.val (.int i0), .val (.int i1), .val (.int i2), .val (.int i3), .val (.int i4), .val (.ref al5_251), .val (.int il6_251), .val (.int il7_251), .val (.int (4 : Int32)), .val (.ref b96), .val .null] [(.int (1 : Int32))])
                  exact own_retNW X105 hS (by rw [hh105]; exact hk) (t := .boolean) hx hret hlk (hb hby at_419) (by decide) (by decide) (by simp) ⟨congrArg (fun z => some (Value.int z)) hvf0f1f2f3t4_t_f_t.symm, N105, trivial⟩
                · have hvf0f1f2f3t4_t_f_f := hvf0f1f2f3t4_t_f.trans (if_neg hc411)
                  refine own_stepW (fun _ => Jvm.RoadKit.acmp (g := (mkF m 411 #[.val (.int i0), .val (.int i1), .val (.int i2), .val (.int i3), .val (.int i4), .val (.ref al5_251), .val (.int il6_251), .val (.int il7_251), .val (.int (4 : Int32)), .val (.ref b96), .val .null] [.null, (f8_0 ([(nar .char (li.getD (0 : Int32).toNatClampNeg 0)), (nar .char (li.getD (1 : Int32).toNatClampNeg 0)), (nar .char (li.getD (2 : Int32).toNatClampNeg 0)), (nar .char (li.getD (3 : Int32).toNatClampNeg 0))]) w3 w54 w83)])) X105 hx rfl (own_f8ref _ _ _ _) rfl (pc0 := 411) (pc' := 418) (same := false) rfl (hb hby at_411) rfl (decide_eq_false hc411) (by decide) (by decide)) ?_
                  show own_EndsW p e below s _ _ _ T105 (mkF m 418 #[.val (.int i0), .val (.int i1), .val (.int i2), .val (.int i3), .val (.int i4), .val (.ref al5_251), .val (.int il6_251), .val (.int il7_251), .val (.int (4 : Int32)), .val (.ref b96), .val .null] [])
                  refine own_stepW (fun _ => XS.iconst X105.here hx rfl (hb hby at_418)) ?_
                  show own_EndsW p e below s _ _ _ T105 (mkF m 419 #[.val (.int i0), .val (.int i1), .val (.int i2), .val (.int i3), .val (.int i4), .val (.ref al5_251), .val (.int il6_251), .val (.int il7_251), .val (.int (4 : Int32)), .val (.ref b96), .val .null] [(.int (0 : Int32))])
                  exact own_retNW X105 hS (by rw [hh105]; exact hk) (t := .boolean) hx hret hlk (hb hby at_419) (by decide) (by decide) (by simp) ⟨congrArg (fun z => some (Value.int z)) hvf0f1f2f3t4_t_f_f.symm, N105, trivial⟩
            · have hvf0f1f2f3t4_f := hvf0f1f2f3t4.trans (if_neg hc275)
              refine own_stepW (fun _ => XS.icmpYes X96.here hx rfl (pc0 := 275) (pc' := 310) rfl (hb hby at_275) rfl (feq hc275).2 (by decide) (by decide)) ?_
              show own_EndsW p e below s _ _ _ T96 (mkF m 310 #[.val (.int i0), .val (.int i1), .val (.int i2), .val (.int i3), .val (.int i4), .val (.ref al5_251), .val (.int il6_251), .val (.int il7_251), .val (.int (4 : Int32)), .val (.ref b96), .val .null] [])
              refine own_stepW (fun _ => XS.iload X96.here hx rfl (hb hby at_310) rfl) ?_
              show own_EndsW p e below s _ _ _ T96 (mkF m 312 #[.val (.int i0), .val (.int i1), .val (.int i2), .val (.int i3), .val (.int i4), .val (.ref al5_251), .val (.int il6_251), .val (.int il7_251), .val (.int (4 : Int32)), .val (.ref b96), .val .null] [(.int (4 : Int32))])
              refine own_stepW (fun _ => XS.iconst X96.here hx rfl (hb hby at_312)) ?_
              show own_EndsW p e below s _ _ _ T96 (mkF m 313 #[.val (.int i0), .val (.int i1), .val (.int i2), .val (.int i3), .val (.int i4), .val (.ref al5_251), .val (.int il6_251), .val (.int il7_251), .val (.int (4 : Int32)), .val (.ref b96), .val .null] [(.int (3 : Int32)), (.int (4 : Int32))])
              refine own_stepW (fun _ => XS.icmpYes X96.here hx rfl (pc0 := 313) (pc' := 348) rfl (hb hby at_313) rfl (feq (show ¬ ((4 : Int32) = (3 : Int32)) from (by decide))).2 (by decide) (by decide)) ?_
              show own_EndsW p e below s _ _ _ T96 (mkF m 348 #[.val (.int i0), .val (.int i1), .val (.int i2), .val (.int i3), .val (.int i4), .val (.ref al5_251), .val (.int il6_251), .val (.int il7_251), .val (.int (4 : Int32)), .val (.ref b96), .val .null] [])
              refine own_stepW (fun _ => XS.iload X96.here hx rfl (hb hby at_348) rfl) ?_
              show own_EndsW p e below s _ _ _ T96 (mkF m 350 #[.val (.int i0), .val (.int i1), .val (.int i2), .val (.int i3), .val (.int i4), .val (.ref al5_251), .val (.int il6_251), .val (.int il7_251), .val (.int (4 : Int32)), .val (.ref b96), .val .null] [(.int (4 : Int32))])
              refine own_stepW (fun _ => XS.iconst X96.here hx rfl (hb hby at_350)) ?_
              show own_EndsW p e below s _ _ _ T96 (mkF m 351 #[.val (.int i0), .val (.int i1), .val (.int i2), .val (.int i3), .val (.int i4), .val (.ref al5_251), .val (.int il6_251), .val (.int il7_251), .val (.int (4 : Int32)), .val (.ref b96), .val .null] [(.int (5 : Int32)), (.int (4 : Int32))])
              refine own_stepW (fun _ => XS.icmpYes X96.here hx rfl (pc0 := 351) (pc' := 404) rfl (hb hby at_351) rfl (feq (show ¬ ((4 : Int32) = (5 : Int32)) from (by decide))).2 (by decide) (by decide)) ?_
              show own_EndsW p e below s _ _ _ T96 (mkF m 404 #[.val (.int i0), .val (.int i1), .val (.int i2), .val (.int i3), .val (.int i4), .val (.ref al5_251), .val (.int il6_251), .val (.int il7_251), .val (.int (4 : Int32)), .val (.ref b96), .val .null] [])
              refine own_stepW (fun _ => XS.aload X96.here hx rfl (hb hby at_404) rfl rfl) ?_
              show own_EndsW p e below s _ _ _ T96 (mkF m 406 #[.val (.int i0), .val (.int i1), .val (.int i2), .val (.int i3), .val (.int i4), .val (.ref al5_251), .val (.int il6_251), .val (.int il7_251), .val (.int (4 : Int32)), .val (.ref b96), .val .null] [(.ref b96)])
              have hp106 : ∀ c ∈ ([(nar .char (li.getD (0 : Int32).toNatClampNeg 0)), (nar .char (li.getD (1 : Int32).toNatClampNeg 0)), (nar .char (li.getD (2 : Int32).toNatClampNeg 0)), (nar .char (li.getD (3 : Int32).toNatClampNeg 0))] : List Int32), own_R c := (own_lc (own_rn hr _) (own_lc (own_rn hr _) (own_lc (own_rn hr _) (own_lc (own_rn hr _) own_ln))))
              obtain ⟨_, _, ⟨T106, L106, k106, n106⟩, -, X106, ⟨Lc106, hQ106, l106, y106, z106⟩, st106⟩ := Jvm.LawKit.callS X96 hx (y := (⟨"lomwright/lom/Entity$Part", "of", "(Ljava/lang/String;)Llomwright/lom/Entity$Part;"⟩ : MethodName)) hown (mvT hZ (hw _ (List.mem_of_getElem? (i := 37) rfl))) (mvT hZ (hw _ (List.mem_of_getElem? (i := 38) rfl))) (mvT hZ (hw _ (List.mem_of_getElem? (i := 35) rfl))) (mvT hZ (hw _ (List.mem_of_getElem? (i := 39) rfl))) (by decide) (backOf (W := 0) (rm8 l Z a0 hw [] b96 t96 kb96 ([(nar .char (li.getD (0 : Int32).toNatClampNeg 0)), (nar .char (li.getD (1 : Int32).toNatClampNeg 0)), (nar .char (li.getD (2 : Int32).toNatClampNeg 0)), (nar .char (li.getD (3 : Int32).toNatClampNeg 0))]) (4 : Int32) G1 w3 w54 w83 w9 w22 w63 w92 w32 w73 w102 k_w9 k_w32 k_w73 k_w102 T96.heap n0 Zs96 OLDk96 gE96 gC96 gV96 gA96 O2 P5 (StrChars.Road.codOf (n := 4) rfl (fun c hc => (hp106 c hc).2)) (own_up hp106) (Nat.le_of_ble_eq_true rfl) bSNAME bSORG bSEMAIL bSALL bE0 bX0 bC0 bV0 bE1 bX1 bC1 bV1 bE2 bX2 bC2 bV2 bA0 bA1 bA2 bA3) hZ (hw _ (List.mem_of_getElem? (i := 39) rfl)) (hw _ (List.mem_of_getElem? (i := 35) rfl)) (by decide) (by decide)) (g := (mkF m 406 #[.val (.int i0), .val (.int i1), .val (.int i2), .val (.int i3), .val (.int i4), .val (.ref al5_251), .val (.int il6_251), .val (.int il7_251), .val (.int (4 : Int32)), .val (.ref b96), .val .null] [(.ref b96)])) rfl (by rw [hml]; rfl) (argsL := [(.ref b96)]) (rest := []) (lenOf pd_4 rfl) rfl (by show 2 * 0 + _ ≤ _; exact Nat.le_of_eq rfl) (hb hby at_406) (fun _ _ => ⟨rfl, rfl, (by decide : 4 + 0 ≤ _), (by decide : 18 + 0 ≤ _)⟩)
              dsimp only [Pt.U, Pt.locs, Pt.cells, Pt.slots] at X106 l106 y106 z106 st106 hQ106
              subst l106 y106 z106
              obtain ⟨rfl, N106q, hh106⟩ := hQ106
              have N106 := Fr.app N96 N106q
              refine own_stepW st106 ?_
              show own_EndsW p e below s _ _ _ T106 (mkF m 409 #[.val (.int i0), .val (.int i1), .val (.int i2), .val (.int i3), .val (.int i4), .val (.ref al5_251), .val (.int il6_251), .val (.int il7_251), .val (.int (4 : Int32)), .val (.ref b96), .val .null] [(f8_0 ([(nar .char (li.getD (0 : Int32).toNatClampNeg 0)), (nar .char (li.getD (1 : Int32).toNatClampNeg 0)), (nar .char (li.getD (2 : Int32).toNatClampNeg 0)), (nar .char (li.getD (3 : Int32).toNatClampNeg 0))]) w3 w54 w83)])
              refine own_stepW (fun _ => XS.aload X106.here hx rfl (hb hby at_409) rfl rfl) ?_
              show own_EndsW p e below s _ _ _ T106 (mkF m 411 #[.val (.int i0), .val (.int i1), .val (.int i2), .val (.int i3), .val (.int i4), .val (.ref al5_251), .val (.int il6_251), .val (.int il7_251), .val (.int (4 : Int32)), .val (.ref b96), .val .null] [.null, (f8_0 ([(nar .char (li.getD (0 : Int32).toNatClampNeg 0)), (nar .char (li.getD (1 : Int32).toNatClampNeg 0)), (nar .char (li.getD (2 : Int32).toNatClampNeg 0)), (nar .char (li.getD (3 : Int32).toNatClampNeg 0))]) w3 w54 w83)])
              by_cases hc411 : (f8_0 ([(nar .char (li.getD (0 : Int32).toNatClampNeg 0)), (nar .char (li.getD (1 : Int32).toNatClampNeg 0)), (nar .char (li.getD (2 : Int32).toNatClampNeg 0)), (nar .char (li.getD (3 : Int32).toNatClampNeg 0))]) w3 w54 w83) = .null
              · have hvf0f1f2f3t4_f_t := hvf0f1f2f3t4_f.trans (if_pos hc411)
                refine own_stepW (fun _ => Jvm.RoadKit.acmp (g := (mkF m 411 #[.val (.int i0), .val (.int i1), .val (.int i2), .val (.int i3), .val (.int i4), .val (.ref al5_251), .val (.int il6_251), .val (.int il7_251), .val (.int (4 : Int32)), .val (.ref b96), .val .null] [.null, (f8_0 ([(nar .char (li.getD (0 : Int32).toNatClampNeg 0)), (nar .char (li.getD (1 : Int32).toNatClampNeg 0)), (nar .char (li.getD (2 : Int32).toNatClampNeg 0)), (nar .char (li.getD (3 : Int32).toNatClampNeg 0))]) w3 w54 w83)])) X106 hx rfl (own_f8ref _ _ _ _) rfl (pc0 := 411) (pc' := 414) (same := true) rfl (hb hby at_411) rfl (decide_eq_true hc411) (by decide) (by decide)) ?_
                show own_EndsW p e below s _ _ _ T106 (mkF m 414 #[.val (.int i0), .val (.int i1), .val (.int i2), .val (.int i3), .val (.int i4), .val (.ref al5_251), .val (.int il6_251), .val (.int il7_251), .val (.int (4 : Int32)), .val (.ref b96), .val .null] [])
                refine own_stepW (fun _ => XS.iconst X106.here hx rfl (hb hby at_414)) ?_
                show own_EndsW p e below s _ _ _ T106 (mkF m 415 #[.val (.int i0), .val (.int i1), .val (.int i2), .val (.int i3), .val (.int i4), .val (.ref al5_251), .val (.int il6_251), .val (.int il7_251), .val (.int (4 : Int32)), .val (.ref b96), .val .null] [(.int (1 : Int32))])
                refine own_stepW (fun _ => XS.goto X106.here hx rfl (pc0 := 415) (pc' := 419) rfl (hb hby at_415) (by decide) (by decide)) ?_
                show own_EndsW p e below s _ _ _ T106 (mkF m 419 #[.val (.int i0), .val (.int i1), .val (.int i2), .val (.int i3), .val (.int i4), .val (.ref al5_251), .val (.int il6_251), .val (.int il7_251), .val (.int (4 : Int32)), .val (.ref b96), .val .null] [(.int (1 : Int32))])
                exact own_retNW X106 hS (by rw [hh106]; exact hk) (t := .boolean) hx hret hlk (hb hby at_419) (by decide) (by decide) (by simp) ⟨congrArg (fun z => some (Value.int z)) hvf0f1f2f3t4_f_t.symm, N106, trivial⟩
              · have hvf0f1f2f3t4_f_f := hvf0f1f2f3t4_f.trans (if_neg hc411)
                refine own_stepW (fun _ => Jvm.RoadKit.acmp (g := (mkF m 411 #[.val (.int i0), .val (.int i1), .val (.int i2), .val (.int i3), .val (.int i4), .val (.ref al5_251), .val (.int il6_251), .val (.int il7_251), .val (.int (4 : Int32)), .val (.ref b96), .val .null] [.null, (f8_0 ([(nar .char (li.getD (0 : Int32).toNatClampNeg 0)), (nar .char (li.getD (1 : Int32).toNatClampNeg 0)), (nar .char (li.getD (2 : Int32).toNatClampNeg 0)), (nar .char (li.getD (3 : Int32).toNatClampNeg 0))]) w3 w54 w83)])) X106 hx rfl (own_f8ref _ _ _ _) rfl (pc0 := 411) (pc' := 418) (same := false) rfl (hb hby at_411) rfl (decide_eq_false hc411) (by decide) (by decide)) ?_
                show own_EndsW p e below s _ _ _ T106 (mkF m 418 #[.val (.int i0), .val (.int i1), .val (.int i2), .val (.int i3), .val (.int i4), .val (.ref al5_251), .val (.int il6_251), .val (.int il7_251), .val (.int (4 : Int32)), .val (.ref b96), .val .null] [])
                refine own_stepW (fun _ => XS.iconst X106.here hx rfl (hb hby at_418)) ?_
                show own_EndsW p e below s _ _ _ T106 (mkF m 419 #[.val (.int i0), .val (.int i1), .val (.int i2), .val (.int i3), .val (.int i4), .val (.ref al5_251), .val (.int il6_251), .val (.int il7_251), .val (.int (4 : Int32)), .val (.ref b96), .val .null] [(.int (0 : Int32))])
                exact own_retNW X106 hS (by rw [hh106]; exact hk) (t := .boolean) hx hret hlk (hb hby at_419) (by decide) (by decide) (by simp) ⟨congrArg (fun z => some (Value.int z)) hvf0f1f2f3t4_f_f.symm, N106, trivial⟩
          · have hvf0f1f2f3f4 := hvf0f1f2f3.trans (if_neg hN4)
            by_cases hN5 : il8_251 = (5 : Int32)
            · have hvf0f1f2f3f4t5 := hvf0f1f2f3f4.trans (if_pos hN5)
              rw [hN5]
              refine own_stepW (fun _ => XS.aload X0.here hx rfl (hb hby at_251) rfl rfl) ?_
              show own_EndsW p e below s _ _ _ T0 (mkF m 253 #[.val (.int i0), .val (.int i1), .val (.int i2), .val (.int i3), .val (.int i4), .val (.ref al5_251), .val (.int il6_251), .val (.int il7_251), .val (.int (5 : Int32)), .unset, .unset] [(.ref al5_251)])
              refine own_stepW (fun _ => XS.iload X0.here hx rfl (hb hby at_253) rfl) ?_
              show own_EndsW p e below s _ _ _ T0 (mkF m 255 #[.val (.int i0), .val (.int i1), .val (.int i2), .val (.int i3), .val (.int i4), .val (.ref al5_251), .val (.int il6_251), .val (.int il7_251), .val (.int (5 : Int32)), .unset, .unset] [(.int (5 : Int32)), (.ref al5_251)])
              obtain ⟨_, _, ⟨T107, L107, k107, n107⟩, -, X107, ⟨Lc107, hQ107, l107, y107, z107⟩, st107⟩ := Jvm.LawKit.callS X0 hx (y := (⟨"lomwright/lom/PartOfPinLaw", "text", "([CI)Ljava/lang/String;"⟩ : MethodName)) hown (mvT hZ (hw _ (List.mem_of_getElem? (i := 1) rfl))) (mvT hZ (hw _ (List.mem_of_getElem? (i := 2) rfl))) (mvT hZ (hw _ (List.mem_of_getElem? (i := 3) rfl))) (mvT hZ (hw _ (List.mem_of_getElem? (i := 4) rfl))) (by decide) (backOf (W := 0) (rm1_5 l Z a0 hw [] al5_251 ka li G1 h0 n0 Z0 OLD Va O2 P5 hr) hZ (hw _ (List.mem_of_getElem? (i := 4) rfl)) (hw _ (List.mem_of_getElem? (i := 3) rfl)) (by decide) (by decide)) (g := (mkF m 255 #[.val (.int i0), .val (.int i1), .val (.int i2), .val (.int i3), .val (.int i4), .val (.ref al5_251), .val (.int il6_251), .val (.int il7_251), .val (.int (5 : Int32)), .unset, .unset] [(.int (5 : Int32)), (.ref al5_251)])) rfl (by rw [hml]; rfl) (argsL := [(.ref al5_251), (.int (5 : Int32))]) (rest := []) (lenOf pd_3 rfl) rfl (by show 2 * 0 + _ ≤ _; exact Nat.le_of_eq rfl) (hb hby at_255) (fun _ _ => ⟨rfl, e0, (by decide : 1 + 3 ≤ _), (by decide : 6 + 14 ≤ _)⟩)
              dsimp only [Pt.U, Pt.locs, Pt.cells, Pt.slots] at X107 l107 y107 z107 st107 hQ107
              subst l107 y107 z107
              obtain ⟨b107, t107, kb107, rfl, N107q, K107, gE107, gC107, gV107, gA107⟩ := hQ107
              have N107 := Fr.app N0 N107q
              have OLDk107 := OLD.keep K107 all0
              have Zs107 : n0 ≤ T107.heap.size := Nat.le_trans Z0 K107.1
              have hk := Nat.le_trans hk K107.1
              refine own_stepW st107 ?_
              show own_EndsW p e below s _ _ _ T107 (mkF m 258 #[.val (.int i0), .val (.int i1), .val (.int i2), .val (.int i3), .val (.int i4), .val (.ref al5_251), .val (.int il6_251), .val (.int il7_251), .val (.int (5 : Int32)), .unset, .unset] [(.ref b107)])
              refine own_stepW (fun _ => XS.astore X107.here hx rfl (hb hby at_258) rfl rfl (l' := #[.val (.int i0), .val (.int i1), .val (.int i2), .val (.int i3), .val (.int i4), .val (.ref al5_251), .val (.int il6_251), .val (.int il7_251), .val (.int (5 : Int32)), .val (.ref b107), .unset]) rfl) ?_
              show own_EndsW p e below s _ _ _ T107 (mkF m 260 #[.val (.int i0), .val (.int i1), .val (.int i2), .val (.int i3), .val (.int i4), .val (.ref al5_251), .val (.int il6_251), .val (.int il7_251), .val (.int (5 : Int32)), .val (.ref b107), .unset] [])
              refine own_stepW (fun _ => XS.aconstNull X107.here hx rfl (hb hby at_260)) ?_
              show own_EndsW p e below s _ _ _ T107 (mkF m 261 #[.val (.int i0), .val (.int i1), .val (.int i2), .val (.int i3), .val (.int i4), .val (.ref al5_251), .val (.int il6_251), .val (.int il7_251), .val (.int (5 : Int32)), .val (.ref b107), .unset] [.null])
              refine own_stepW (fun _ => XS.astore X107.here hx rfl (hb hby at_261) rfl rfl (l' := #[.val (.int i0), .val (.int i1), .val (.int i2), .val (.int i3), .val (.int i4), .val (.ref al5_251), .val (.int il6_251), .val (.int il7_251), .val (.int (5 : Int32)), .val (.ref b107), .val .null]) rfl) ?_
              show own_EndsW p e below s _ _ _ T107 (mkF m 263 #[.val (.int i0), .val (.int i1), .val (.int i2), .val (.int i3), .val (.int i4), .val (.ref al5_251), .val (.int il6_251), .val (.int il7_251), .val (.int (5 : Int32)), .val (.ref b107), .val .null] [])
              refine own_stepW (fun _ => XS.iload X107.here hx rfl (hb hby at_263) rfl) ?_
              show own_EndsW p e below s _ _ _ T107 (mkF m 265 #[.val (.int i0), .val (.int i1), .val (.int i2), .val (.int i3), .val (.int i4), .val (.ref al5_251), .val (.int il6_251), .val (.int il7_251), .val (.int (5 : Int32)), .val (.ref b107), .val .null] [(.int (5 : Int32))])
              refine own_stepW (fun _ => XS.iconst X107.here hx rfl (hb hby at_265)) ?_
              show own_EndsW p e below s _ _ _ T107 (mkF m 266 #[.val (.int i0), .val (.int i1), .val (.int i2), .val (.int i3), .val (.int i4), .val (.ref al5_251), .val (.int il6_251), .val (.int il7_251), .val (.int (5 : Int32)), .val (.ref b107), .val .null] [(.int (4 : Int32)), (.int (5 : Int32))])
              refine own_stepW (fun _ => XS.icmpYes X107.here hx rfl (pc0 := 266) (pc' := 310) rfl (hb hby at_266) rfl (feq (show ¬ ((5 : Int32) = (4 : Int32)) from (by decide))).2 (by decide) (by decide)) ?_
              show own_EndsW p e below s _ _ _ T107 (mkF m 310 #[.val (.int i0), .val (.int i1), .val (.int i2), .val (.int i3), .val (.int i4), .val (.ref al5_251), .val (.int il6_251), .val (.int il7_251), .val (.int (5 : Int32)), .val (.ref b107), .val .null] [])
              refine own_stepW (fun _ => XS.iload X107.here hx rfl (hb hby at_310) rfl) ?_
              show own_EndsW p e below s _ _ _ T107 (mkF m 312 #[.val (.int i0), .val (.int i1), .val (.int i2), .val (.int i3), .val (.int i4), .val (.ref al5_251), .val (.int il6_251), .val (.int il7_251), .val (.int (5 : Int32)), .val (.ref b107), .val .null] [(.int (5 : Int32))])
              refine own_stepW (fun _ => XS.iconst X107.here hx rfl (hb hby at_312)) ?_
              show own_EndsW p e below s _ _ _ T107 (mkF m 313 #[.val (.int i0), .val (.int i1), .val (.int i2), .val (.int i3), .val (.int i4), .val (.ref al5_251), .val (.int il6_251), .val (.int il7_251), .val (.int (5 : Int32)), .val (.ref b107), .val .null] [(.int (3 : Int32)), (.int (5 : Int32))])
              refine own_stepW (fun _ => XS.icmpYes X107.here hx rfl (pc0 := 313) (pc' := 348) rfl (hb hby at_313) rfl (feq (show ¬ ((5 : Int32) = (3 : Int32)) from (by decide))).2 (by decide) (by decide)) ?_
              show own_EndsW p e below s _ _ _ T107 (mkF m 348 #[.val (.int i0), .val (.int i1), .val (.int i2), .val (.int i3), .val (.int i4), .val (.ref al5_251), .val (.int il6_251), .val (.int il7_251), .val (.int (5 : Int32)), .val (.ref b107), .val .null] [])
              refine own_stepW (fun _ => XS.iload X107.here hx rfl (hb hby at_348) rfl) ?_
              show own_EndsW p e below s _ _ _ T107 (mkF m 350 #[.val (.int i0), .val (.int i1), .val (.int i2), .val (.int i3), .val (.int i4), .val (.ref al5_251), .val (.int il6_251), .val (.int il7_251), .val (.int (5 : Int32)), .val (.ref b107), .val .null] [(.int (5 : Int32))])
              refine own_stepW (fun _ => XS.iconst X107.here hx rfl (hb hby at_350)) ?_
              show own_EndsW p e below s _ _ _ T107 (mkF m 351 #[.val (.int i0), .val (.int i1), .val (.int i2), .val (.int i3), .val (.int i4), .val (.ref al5_251), .val (.int il6_251), .val (.int il7_251), .val (.int (5 : Int32)), .val (.ref b107), .val .null] [(.int (5 : Int32)), (.int (5 : Int32))])
              refine own_stepW (fun _ => XS.icmpNo X107.here hx rfl (hb hby at_351) rfl (teq (show (5 : Int32) = (5 : Int32) from (by decide))).2) ?_
              show own_EndsW p e below s _ _ _ T107 (mkF m 354 #[.val (.int i0), .val (.int i1), .val (.int i2), .val (.int i3), .val (.int i4), .val (.ref al5_251), .val (.int il6_251), .val (.int il7_251), .val (.int (5 : Int32)), .val (.ref b107), .val .null] [])
              refine own_stepW (fun _ => XS.aload X107.here hx rfl (hb hby at_354) rfl rfl) ?_
              show own_EndsW p e below s _ _ _ T107 (mkF m 356 #[.val (.int i0), .val (.int i1), .val (.int i2), .val (.int i3), .val (.int i4), .val (.ref al5_251), .val (.int il6_251), .val (.int il7_251), .val (.int (5 : Int32)), .val (.ref b107), .val .null] [(.ref al5_251)])
              refine own_stepW (fun _ => XS.iconst X107.here hx rfl (hb hby at_356)) ?_
              show own_EndsW p e below s _ _ _ T107 (mkF m 357 #[.val (.int i0), .val (.int i1), .val (.int i2), .val (.int i3), .val (.int i4), .val (.ref al5_251), .val (.int il6_251), .val (.int il7_251), .val (.int (5 : Int32)), .val (.ref b107), .val .null] [(.int (0 : Int32)), (.ref al5_251)])
              obtain ⟨cl108, Ar108, q108, S108, N108_, H108, G108⟩ := id (Va.keep K107 nin0)
              have hin108 : ¬ ((0 : Int32) < 0 ∨ cl108.slots.size ≤ ((0 : Int32)).toNatClampNeg) := inb_of S108 ⟨by decide, by decide⟩
              have hat108 : cl108.slots[((0 : Int32)).toNatClampNeg]? = some (.int (li.getD (0 : Int32).toNatClampNeg 0)) := H108.at hin108 (own_getD li _)
              refine own_stepW (fun _ => X107.caload hx (j := (0 : Int32)) (v := (.int (li.getD (0 : Int32).toNatClampNeg 0))) (by exact Ar108.1) (State.isArrayOf_alike hZ.alike Ar108.2.1) Ar108.2.2 hin108 hat108 (g := (mkF m 357 #[.val (.int i0), .val (.int i1), .val (.int i2), .val (.int i3), .val (.int i4), .val (.ref al5_251), .val (.int il6_251), .val (.int il7_251), .val (.int (5 : Int32)), .val (.ref b107), .val .null] [(.int (0 : Int32)), (.ref al5_251)])) rfl rfl (hb hby at_357) _) ?_
              show own_EndsW p e below s _ _ _ T107 (mkF m 358 #[.val (.int i0), .val (.int i1), .val (.int i2), .val (.int i3), .val (.int i4), .val (.ref al5_251), .val (.int il6_251), .val (.int il7_251), .val (.int (5 : Int32)), .val (.ref b107), .val .null] [(.int (li.getD (0 : Int32).toNatClampNeg 0))])
              refine own_stepW (fun _ => XS.bipush X107.here hx rfl (hb hby at_358)) ?_
              show own_EndsW p e below s _ _ _ T107 (mkF m 360 #[.val (.int i0), .val (.int i1), .val (.int i2), .val (.int i3), .val (.int i4), .val (.ref al5_251), .val (.int il6_251), .val (.int il7_251), .val (.int (5 : Int32)), .val (.ref b107), .val .null] [(.int (101 : Int32)), (.int (li.getD (0 : Int32).toNatClampNeg 0))])
              by_cases hc360 : (li.getD (0 : Int32).toNatClampNeg 0) = (101 : Int32)
              · have hvf0f1f2f3f4t5_t := hvf0f1f2f3f4t5.trans (if_pos hc360)
                refine own_stepW (fun _ => XS.icmpNo X107.here hx rfl (hb hby at_360) rfl (teq hc360).2) ?_
                show own_EndsW p e below s _ _ _ T107 (mkF m 363 #[.val (.int i0), .val (.int i1), .val (.int i2), .val (.int i3), .val (.int i4), .val (.ref al5_251), .val (.int il6_251), .val (.int il7_251), .val (.int (5 : Int32)), .val (.ref b107), .val .null] [])
                refine own_stepW (fun _ => XS.aload X107.here hx rfl (hb hby at_363) rfl rfl) ?_
                show own_EndsW p e below s _ _ _ T107 (mkF m 365 #[.val (.int i0), .val (.int i1), .val (.int i2), .val (.int i3), .val (.int i4), .val (.ref al5_251), .val (.int il6_251), .val (.int il7_251), .val (.int (5 : Int32)), .val (.ref b107), .val .null] [(.ref al5_251)])
                refine own_stepW (fun _ => XS.iconst X107.here hx rfl (hb hby at_365)) ?_
                show own_EndsW p e below s _ _ _ T107 (mkF m 366 #[.val (.int i0), .val (.int i1), .val (.int i2), .val (.int i3), .val (.int i4), .val (.ref al5_251), .val (.int il6_251), .val (.int il7_251), .val (.int (5 : Int32)), .val (.ref b107), .val .null] [(.int (1 : Int32)), (.ref al5_251)])
                obtain ⟨cl109, Ar109, q109, S109, N109_, H109, G109⟩ := id (Va.keep K107 nin0)
                have hin109 : ¬ ((1 : Int32) < 0 ∨ cl109.slots.size ≤ ((1 : Int32)).toNatClampNeg) := inb_of S109 ⟨by decide, by decide⟩
                have hat109 : cl109.slots[((1 : Int32)).toNatClampNeg]? = some (.int (li.getD (1 : Int32).toNatClampNeg 0)) := H109.at hin109 (own_getD li _)
                refine own_stepW (fun _ => X107.caload hx (j := (1 : Int32)) (v := (.int (li.getD (1 : Int32).toNatClampNeg 0))) (by exact Ar109.1) (State.isArrayOf_alike hZ.alike Ar109.2.1) Ar109.2.2 hin109 hat109 (g := (mkF m 366 #[.val (.int i0), .val (.int i1), .val (.int i2), .val (.int i3), .val (.int i4), .val (.ref al5_251), .val (.int il6_251), .val (.int il7_251), .val (.int (5 : Int32)), .val (.ref b107), .val .null] [(.int (1 : Int32)), (.ref al5_251)])) rfl rfl (hb hby at_366) _) ?_
                show own_EndsW p e below s _ _ _ T107 (mkF m 367 #[.val (.int i0), .val (.int i1), .val (.int i2), .val (.int i3), .val (.int i4), .val (.ref al5_251), .val (.int il6_251), .val (.int il7_251), .val (.int (5 : Int32)), .val (.ref b107), .val .null] [(.int (li.getD (1 : Int32).toNatClampNeg 0))])
                refine own_stepW (fun _ => XS.bipush X107.here hx rfl (hb hby at_367)) ?_
                show own_EndsW p e below s _ _ _ T107 (mkF m 369 #[.val (.int i0), .val (.int i1), .val (.int i2), .val (.int i3), .val (.int i4), .val (.ref al5_251), .val (.int il6_251), .val (.int il7_251), .val (.int (5 : Int32)), .val (.ref b107), .val .null] [(.int (109 : Int32)), (.int (li.getD (1 : Int32).toNatClampNeg 0))])
                by_cases hc369 : (li.getD (1 : Int32).toNatClampNeg 0) = (109 : Int32)
                · have hvf0f1f2f3f4t5_t_t := hvf0f1f2f3f4t5_t.trans (if_pos hc369)
                  refine own_stepW (fun _ => XS.icmpNo X107.here hx rfl (hb hby at_369) rfl (teq hc369).2) ?_
                  show own_EndsW p e below s _ _ _ T107 (mkF m 372 #[.val (.int i0), .val (.int i1), .val (.int i2), .val (.int i3), .val (.int i4), .val (.ref al5_251), .val (.int il6_251), .val (.int il7_251), .val (.int (5 : Int32)), .val (.ref b107), .val .null] [])
                  refine own_stepW (fun _ => XS.aload X107.here hx rfl (hb hby at_372) rfl rfl) ?_
                  show own_EndsW p e below s _ _ _ T107 (mkF m 374 #[.val (.int i0), .val (.int i1), .val (.int i2), .val (.int i3), .val (.int i4), .val (.ref al5_251), .val (.int il6_251), .val (.int il7_251), .val (.int (5 : Int32)), .val (.ref b107), .val .null] [(.ref al5_251)])
                  refine own_stepW (fun _ => XS.iconst X107.here hx rfl (hb hby at_374)) ?_
                  show own_EndsW p e below s _ _ _ T107 (mkF m 375 #[.val (.int i0), .val (.int i1), .val (.int i2), .val (.int i3), .val (.int i4), .val (.ref al5_251), .val (.int il6_251), .val (.int il7_251), .val (.int (5 : Int32)), .val (.ref b107), .val .null] [(.int (2 : Int32)), (.ref al5_251)])
                  obtain ⟨cl110, Ar110, q110, S110, N110_, H110, G110⟩ := id (Va.keep K107 nin0)
                  have hin110 : ¬ ((2 : Int32) < 0 ∨ cl110.slots.size ≤ ((2 : Int32)).toNatClampNeg) := inb_of S110 ⟨by decide, by decide⟩
                  have hat110 : cl110.slots[((2 : Int32)).toNatClampNeg]? = some (.int (li.getD (2 : Int32).toNatClampNeg 0)) := H110.at hin110 (own_getD li _)
                  refine own_stepW (fun _ => X107.caload hx (j := (2 : Int32)) (v := (.int (li.getD (2 : Int32).toNatClampNeg 0))) (by exact Ar110.1) (State.isArrayOf_alike hZ.alike Ar110.2.1) Ar110.2.2 hin110 hat110 (g := (mkF m 375 #[.val (.int i0), .val (.int i1), .val (.int i2), .val (.int i3), .val (.int i4), .val (.ref al5_251), .val (.int il6_251), .val (.int il7_251), .val (.int (5 : Int32)), .val (.ref b107), .val .null] [(.int (2 : Int32)), (.ref al5_251)])) rfl rfl (hb hby at_375) _) ?_
                  show own_EndsW p e below s _ _ _ T107 (mkF m 376 #[.val (.int i0), .val (.int i1), .val (.int i2), .val (.int i3), .val (.int i4), .val (.ref al5_251), .val (.int il6_251), .val (.int il7_251), .val (.int (5 : Int32)), .val (.ref b107), .val .null] [(.int (li.getD (2 : Int32).toNatClampNeg 0))])
                  refine own_stepW (fun _ => XS.bipush X107.here hx rfl (hb hby at_376)) ?_
                  show own_EndsW p e below s _ _ _ T107 (mkF m 378 #[.val (.int i0), .val (.int i1), .val (.int i2), .val (.int i3), .val (.int i4), .val (.ref al5_251), .val (.int il6_251), .val (.int il7_251), .val (.int (5 : Int32)), .val (.ref b107), .val .null] [(.int (97 : Int32)), (.int (li.getD (2 : Int32).toNatClampNeg 0))])
                  by_cases hc378 : (li.getD (2 : Int32).toNatClampNeg 0) = (97 : Int32)
                  · have hvf0f1f2f3f4t5_t_t_t := hvf0f1f2f3f4t5_t_t.trans (if_pos hc378)
                    refine own_stepW (fun _ => XS.icmpNo X107.here hx rfl (hb hby at_378) rfl (teq hc378).2) ?_
                    show own_EndsW p e below s _ _ _ T107 (mkF m 381 #[.val (.int i0), .val (.int i1), .val (.int i2), .val (.int i3), .val (.int i4), .val (.ref al5_251), .val (.int il6_251), .val (.int il7_251), .val (.int (5 : Int32)), .val (.ref b107), .val .null] [])
                    refine own_stepW (fun _ => XS.aload X107.here hx rfl (hb hby at_381) rfl rfl) ?_
                    show own_EndsW p e below s _ _ _ T107 (mkF m 383 #[.val (.int i0), .val (.int i1), .val (.int i2), .val (.int i3), .val (.int i4), .val (.ref al5_251), .val (.int il6_251), .val (.int il7_251), .val (.int (5 : Int32)), .val (.ref b107), .val .null] [(.ref al5_251)])
                    refine own_stepW (fun _ => XS.iconst X107.here hx rfl (hb hby at_383)) ?_
                    show own_EndsW p e below s _ _ _ T107 (mkF m 384 #[.val (.int i0), .val (.int i1), .val (.int i2), .val (.int i3), .val (.int i4), .val (.ref al5_251), .val (.int il6_251), .val (.int il7_251), .val (.int (5 : Int32)), .val (.ref b107), .val .null] [(.int (3 : Int32)), (.ref al5_251)])
                    obtain ⟨cl111, Ar111, q111, S111, N111_, H111, G111⟩ := id (Va.keep K107 nin0)
                    have hin111 : ¬ ((3 : Int32) < 0 ∨ cl111.slots.size ≤ ((3 : Int32)).toNatClampNeg) := inb_of S111 ⟨by decide, by decide⟩
                    have hat111 : cl111.slots[((3 : Int32)).toNatClampNeg]? = some (.int (li.getD (3 : Int32).toNatClampNeg 0)) := H111.at hin111 (own_getD li _)
                    refine own_stepW (fun _ => X107.caload hx (j := (3 : Int32)) (v := (.int (li.getD (3 : Int32).toNatClampNeg 0))) (by exact Ar111.1) (State.isArrayOf_alike hZ.alike Ar111.2.1) Ar111.2.2 hin111 hat111 (g := (mkF m 384 #[.val (.int i0), .val (.int i1), .val (.int i2), .val (.int i3), .val (.int i4), .val (.ref al5_251), .val (.int il6_251), .val (.int il7_251), .val (.int (5 : Int32)), .val (.ref b107), .val .null] [(.int (3 : Int32)), (.ref al5_251)])) rfl rfl (hb hby at_384) _) ?_
                    show own_EndsW p e below s _ _ _ T107 (mkF m 385 #[.val (.int i0), .val (.int i1), .val (.int i2), .val (.int i3), .val (.int i4), .val (.ref al5_251), .val (.int il6_251), .val (.int il7_251), .val (.int (5 : Int32)), .val (.ref b107), .val .null] [(.int (li.getD (3 : Int32).toNatClampNeg 0))])
                    refine own_stepW (fun _ => XS.bipush X107.here hx rfl (hb hby at_385)) ?_
                    show own_EndsW p e below s _ _ _ T107 (mkF m 387 #[.val (.int i0), .val (.int i1), .val (.int i2), .val (.int i3), .val (.int i4), .val (.ref al5_251), .val (.int il6_251), .val (.int il7_251), .val (.int (5 : Int32)), .val (.ref b107), .val .null] [(.int (105 : Int32)), (.int (li.getD (3 : Int32).toNatClampNeg 0))])
                    by_cases hc387 : (li.getD (3 : Int32).toNatClampNeg 0) = (105 : Int32)
                    · have hvf0f1f2f3f4t5_t_t_t_t := hvf0f1f2f3f4t5_t_t_t.trans (if_pos hc387)
                      refine own_stepW (fun _ => XS.icmpNo X107.here hx rfl (hb hby at_387) rfl (teq hc387).2) ?_
                      show own_EndsW p e below s _ _ _ T107 (mkF m 390 #[.val (.int i0), .val (.int i1), .val (.int i2), .val (.int i3), .val (.int i4), .val (.ref al5_251), .val (.int il6_251), .val (.int il7_251), .val (.int (5 : Int32)), .val (.ref b107), .val .null] [])
                      refine own_stepW (fun _ => XS.aload X107.here hx rfl (hb hby at_390) rfl rfl) ?_
                      show own_EndsW p e below s _ _ _ T107 (mkF m 392 #[.val (.int i0), .val (.int i1), .val (.int i2), .val (.int i3), .val (.int i4), .val (.ref al5_251), .val (.int il6_251), .val (.int il7_251), .val (.int (5 : Int32)), .val (.ref b107), .val .null] [(.ref al5_251)])
                      refine own_stepW (fun _ => XS.iconst X107.here hx rfl (hb hby at_392)) ?_
                      show own_EndsW p e below s _ _ _ T107 (mkF m 393 #[.val (.int i0), .val (.int i1), .val (.int i2), .val (.int i3), .val (.int i4), .val (.ref al5_251), .val (.int il6_251), .val (.int il7_251), .val (.int (5 : Int32)), .val (.ref b107), .val .null] [(.int (4 : Int32)), (.ref al5_251)])
                      obtain ⟨cl112, Ar112, q112, S112, N112_, H112, G112⟩ := id (Va.keep K107 nin0)
                      have hin112 : ¬ ((4 : Int32) < 0 ∨ cl112.slots.size ≤ ((4 : Int32)).toNatClampNeg) := inb_of S112 ⟨by decide, by decide⟩
                      have hat112 : cl112.slots[((4 : Int32)).toNatClampNeg]? = some (.int (li.getD (4 : Int32).toNatClampNeg 0)) := H112.at hin112 (own_getD li _)
                      refine own_stepW (fun _ => X107.caload hx (j := (4 : Int32)) (v := (.int (li.getD (4 : Int32).toNatClampNeg 0))) (by exact Ar112.1) (State.isArrayOf_alike hZ.alike Ar112.2.1) Ar112.2.2 hin112 hat112 (g := (mkF m 393 #[.val (.int i0), .val (.int i1), .val (.int i2), .val (.int i3), .val (.int i4), .val (.ref al5_251), .val (.int il6_251), .val (.int il7_251), .val (.int (5 : Int32)), .val (.ref b107), .val .null] [(.int (4 : Int32)), (.ref al5_251)])) rfl rfl (hb hby at_393) _) ?_
                      show own_EndsW p e below s _ _ _ T107 (mkF m 394 #[.val (.int i0), .val (.int i1), .val (.int i2), .val (.int i3), .val (.int i4), .val (.ref al5_251), .val (.int il6_251), .val (.int il7_251), .val (.int (5 : Int32)), .val (.ref b107), .val .null] [(.int (li.getD (4 : Int32).toNatClampNeg 0))])
                      refine own_stepW (fun _ => XS.bipush X107.here hx rfl (hb hby at_394)) ?_
                      show own_EndsW p e below s _ _ _ T107 (mkF m 396 #[.val (.int i0), .val (.int i1), .val (.int i2), .val (.int i3), .val (.int i4), .val (.ref al5_251), .val (.int il6_251), .val (.int il7_251), .val (.int (5 : Int32)), .val (.ref b107), .val .null] [(.int (108 : Int32)), (.int (li.getD (4 : Int32).toNatClampNeg 0))])
                      by_cases hc396 : (li.getD (4 : Int32).toNatClampNeg 0) = (108 : Int32)
                      · have hvf0f1f2f3f4t5_t_t_t_t_t := hvf0f1f2f3f4t5_t_t_t_t.trans (if_pos hc396)
                        refine own_stepW (fun _ => XS.icmpNo X107.here hx rfl (hb hby at_396) rfl (teq hc396).2) ?_
                        show own_EndsW p e below s _ _ _ T107 (mkF m 399 #[.val (.int i0), .val (.int i1), .val (.int i2), .val (.int i3), .val (.int i4), .val (.ref al5_251), .val (.int il6_251), .val (.int il7_251), .val (.int (5 : Int32)), .val (.ref b107), .val .null] [])
                        obtain ⟨T113, X113, e113, st113⟩ := getS2 X107 hx hZ hown (host := "") (Or.inl (hw _ (List.mem_of_getElem? (i := 60) rfl))) Via.refl rfl (bSEMAIL.ext OLDk107.2) (g := (mkF m 399 #[.val (.int i0), .val (.int i1), .val (.int i2), .val (.int i3), .val (.int i4), .val (.ref al5_251), .val (.int il6_251), .val (.int il7_251), .val (.int (5 : Int32)), .val (.ref b107), .val .null] [])) rfl (hb hby at_399)
                        refine own_stepW st113 ?_
                        show own_EndsW p e below s _ _ _ T113 (mkF m 402 #[.val (.int i0), .val (.int i1), .val (.int i2), .val (.int i3), .val (.int i4), .val (.ref al5_251), .val (.int il6_251), .val (.int il7_251), .val (.int (5 : Int32)), .val (.ref b107), .val .null] [(.ref w83)])
                        refine own_stepW (fun _ => XS.astore X113.here hx rfl (hb hby at_402) rfl rfl (l' := #[.val (.int i0), .val (.int i1), .val (.int i2), .val (.int i3), .val (.int i4), .val (.ref al5_251), .val (.int il6_251), .val (.int il7_251), .val (.int (5 : Int32)), .val (.ref b107), .val (.ref w83)]) rfl) ?_
                        show own_EndsW p e below s _ _ _ T113 (mkF m 404 #[.val (.int i0), .val (.int i1), .val (.int i2), .val (.int i3), .val (.int i4), .val (.ref al5_251), .val (.int il6_251), .val (.int il7_251), .val (.int (5 : Int32)), .val (.ref b107), .val (.ref w83)] [])
                        refine own_stepW (fun _ => XS.aload X113.here hx rfl (hb hby at_404) rfl rfl) ?_
                        show own_EndsW p e below s _ _ _ T113 (mkF m 406 #[.val (.int i0), .val (.int i1), .val (.int i2), .val (.int i3), .val (.int i4), .val (.ref al5_251), .val (.int il6_251), .val (.int il7_251), .val (.int (5 : Int32)), .val (.ref b107), .val (.ref w83)] [(.ref b107)])
                        have hp114 : ∀ c ∈ ([(nar .char (li.getD (0 : Int32).toNatClampNeg 0)), (nar .char (li.getD (1 : Int32).toNatClampNeg 0)), (nar .char (li.getD (2 : Int32).toNatClampNeg 0)), (nar .char (li.getD (3 : Int32).toNatClampNeg 0)), (nar .char (li.getD (4 : Int32).toNatClampNeg 0))] : List Int32), own_R c := (own_lc (own_rn hr _) (own_lc (own_rn hr _) (own_lc (own_rn hr _) (own_lc (own_rn hr _) (own_lc (own_rn hr _) own_ln)))))
                        obtain ⟨_, _, ⟨T114, L114, k114, n114⟩, -, X114, ⟨Lc114, hQ114, l114, y114, z114⟩, st114⟩ := Jvm.LawKit.callS X113 hx (y := (⟨"lomwright/lom/Entity$Part", "of", "(Ljava/lang/String;)Llomwright/lom/Entity$Part;"⟩ : MethodName)) hown (mvT hZ (hw _ (List.mem_of_getElem? (i := 37) rfl))) (mvT hZ (hw _ (List.mem_of_getElem? (i := 38) rfl))) (mvT hZ (hw _ (List.mem_of_getElem? (i := 35) rfl))) (mvT hZ (hw _ (List.mem_of_getElem? (i := 39) rfl))) (by decide) (backOf (W := 0) (rm8 l Z a0 hw [] b107 t107 kb107 ([(nar .char (li.getD (0 : Int32).toNatClampNeg 0)), (nar .char (li.getD (1 : Int32).toNatClampNeg 0)), (nar .char (li.getD (2 : Int32).toNatClampNeg 0)), (nar .char (li.getD (3 : Int32).toNatClampNeg 0)), (nar .char (li.getD (4 : Int32).toNatClampNeg 0))]) (5 : Int32) G1 w3 w54 w83 w9 w22 w63 w92 w32 w73 w102 k_w9 k_w32 k_w73 k_w102 T107.heap n0 Zs107 OLDk107 gE107 gC107 gV107 gA107 O2 P5 (StrChars.Road.codOf (n := 5) rfl (fun c hc => (hp114 c hc).2)) (own_up hp114) (Nat.le_of_ble_eq_true rfl) bSNAME bSORG bSEMAIL bSALL bE0 bX0 bC0 bV0 bE1 bX1 bC1 bV1 bE2 bX2 bC2 bV2 bA0 bA1 bA2 bA3) hZ (hw _ (List.mem_of_getElem? (i := 39) rfl)) (hw _ (List.mem_of_getElem? (i := 35) rfl)) (by decide) (by decide)) (g := (mkF m 406 #[.val (.int i0), .val (.int i1), .val (.int i2), .val (.int i3), .val (.int i4), .val (.ref al5_251), .val (.int il6_251), .val (.int il7_251), .val (.int (5 : Int32)), .val (.ref b107), .val (.ref w83)] [(.ref b107)])) rfl (by rw [hml]; rfl) (argsL := [(.ref b107)]) (rest := []) (lenOf pd_4 rfl) rfl (by show 2 * 0 + _ ≤ _; exact Nat.le_of_eq rfl) (hb hby at_406) (fun _ _ => ⟨rfl, e113, (by decide : 4 + 0 ≤ _), (by decide : 20 + 0 ≤ _)⟩)
                        dsimp only [Pt.U, Pt.locs, Pt.cells, Pt.slots] at X114 l114 y114 z114 st114 hQ114
                        subst l114 y114 z114
                        obtain ⟨rfl, N114q, hh114⟩ := hQ114
                        have N114 := Fr.app N107 N114q
                        refine own_stepW st114 ?_
                        show own_EndsW p e below s _ _ _ T114 (mkF m 409 #[.val (.int i0), .val (.int i1), .val (.int i2), .val (.int i3), .val (.int i4), .val (.ref al5_251), .val (.int il6_251), .val (.int il7_251), .val (.int (5 : Int32)), .val (.ref b107), .val (.ref w83)] [(f8_0 ([(nar .char (li.getD (0 : Int32).toNatClampNeg 0)), (nar .char (li.getD (1 : Int32).toNatClampNeg 0)), (nar .char (li.getD (2 : Int32).toNatClampNeg 0)), (nar .char (li.getD (3 : Int32).toNatClampNeg 0)), (nar .char (li.getD (4 : Int32).toNatClampNeg 0))]) w3 w54 w83)])
                        refine own_stepW (fun _ => XS.aload X114.here hx rfl (hb hby at_409) rfl rfl) ?_
                        show own_EndsW p e below s _ _ _ T114 (mkF m 411 #[.val (.int i0), .val (.int i1), .val (.int i2), .val (.int i3), .val (.int i4), .val (.ref al5_251), .val (.int il6_251), .val (.int il7_251), .val (.int (5 : Int32)), .val (.ref b107), .val (.ref w83)] [(.ref w83), (f8_0 ([(nar .char (li.getD (0 : Int32).toNatClampNeg 0)), (nar .char (li.getD (1 : Int32).toNatClampNeg 0)), (nar .char (li.getD (2 : Int32).toNatClampNeg 0)), (nar .char (li.getD (3 : Int32).toNatClampNeg 0)), (nar .char (li.getD (4 : Int32).toNatClampNeg 0))]) w3 w54 w83)])
                        by_cases hc411 : (f8_0 ([(nar .char (li.getD (0 : Int32).toNatClampNeg 0)), (nar .char (li.getD (1 : Int32).toNatClampNeg 0)), (nar .char (li.getD (2 : Int32).toNatClampNeg 0)), (nar .char (li.getD (3 : Int32).toNatClampNeg 0)), (nar .char (li.getD (4 : Int32).toNatClampNeg 0))]) w3 w54 w83) = (.ref w83)
                        · have hvf0f1f2f3f4t5_t_t_t_t_t_t := hvf0f1f2f3f4t5_t_t_t_t_t.trans (if_pos hc411)
                          refine own_stepW (fun _ => Jvm.RoadKit.acmp (g := (mkF m 411 #[.val (.int i0), .val (.int i1), .val (.int i2), .val (.int i3), .val (.int i4), .val (.ref al5_251), .val (.int il6_251), .val (.int il7_251), .val (.int (5 : Int32)), .val (.ref b107), .val (.ref w83)] [(.ref w83), (f8_0 ([(nar .char (li.getD (0 : Int32).toNatClampNeg 0)), (nar .char (li.getD (1 : Int32).toNatClampNeg 0)), (nar .char (li.getD (2 : Int32).toNatClampNeg 0)), (nar .char (li.getD (3 : Int32).toNatClampNeg 0)), (nar .char (li.getD (4 : Int32).toNatClampNeg 0))]) w3 w54 w83)])) X114 hx rfl (own_f8ref _ _ _ _) rfl (pc0 := 411) (pc' := 414) (same := true) rfl (hb hby at_411) rfl (decide_eq_true hc411) (by decide) (by decide)) ?_
                          show own_EndsW p e below s _ _ _ T114 (mkF m 414 #[.val (.int i0), .val (.int i1), .val (.int i2), .val (.int i3), .val (.int i4), .val (.ref al5_251), .val (.int il6_251), .val (.int il7_251), .val (.int (5 : Int32)), .val (.ref b107), .val (.ref w83)] [])
                          refine own_stepW (fun _ => XS.iconst X114.here hx rfl (hb hby at_414)) ?_
                          show own_EndsW p e below s _ _ _ T114 (mkF m 415 #[.val (.int i0), .val (.int i1), .val (.int i2), .val (.int i3), .val (.int i4), .val (.ref al5_251), .val (.int il6_251), .val (.int il7_251), .val (.int (5 : Int32)), .val (.ref b107), .val (.ref w83)] [(.int (1 : Int32))])
                          refine own_stepW (fun _ => XS.goto X114.here hx rfl (pc0 := 415) (pc' := 419) rfl (hb hby at_415) (by decide) (by decide)) ?_
                          show own_EndsW p e below s _ _ _ T114 (mkF m 419 #[.val (.int i0), .val (.int i1), .val (.int i2), .val (.int i3), .val (.int i4), .val (.ref al5_251), .val (.int il6_251), .val (.int il7_251), .val (.int (5 : Int32)), .val (.ref b107), .val (.ref w83)] [(.int (1 : Int32))])
                          exact own_retNW X114 hS (by rw [hh114]; exact hk) (t := .boolean) hx hret hlk (hb hby at_419) (by decide) (by decide) (by simp) ⟨congrArg (fun z => some (Value.int z)) hvf0f1f2f3f4t5_t_t_t_t_t_t.symm, N114, trivial⟩
                        · have hvf0f1f2f3f4t5_t_t_t_t_t_f := hvf0f1f2f3f4t5_t_t_t_t_t.trans (if_neg hc411)
                          refine own_stepW (fun _ => Jvm.RoadKit.acmp (g := (mkF m 411 #[.val (.int i0), .val (.int i1), .val (.int i2), .val (.int i3), .val (.int i4), .val (.ref al5_251), .val (.int il6_251), .val (.int il7_251), .val (.int (5 : Int32)), .val (.ref b107), .val (.ref w83)] [(.ref w83), (f8_0 ([(nar .char (li.getD (0 : Int32).toNatClampNeg 0)), (nar .char (li.getD (1 : Int32).toNatClampNeg 0)), (nar .char (li.getD (2 : Int32).toNatClampNeg 0)), (nar .char (li.getD (3 : Int32).toNatClampNeg 0)), (nar .char (li.getD (4 : Int32).toNatClampNeg 0))]) w3 w54 w83)])) X114 hx rfl (own_f8ref _ _ _ _) rfl (pc0 := 411) (pc' := 418) (same := false) rfl (hb hby at_411) rfl (decide_eq_false hc411) (by decide) (by decide)) ?_
                          show own_EndsW p e below s _ _ _ T114 (mkF m 418 #[.val (.int i0), .val (.int i1), .val (.int i2), .val (.int i3), .val (.int i4), .val (.ref al5_251), .val (.int il6_251), .val (.int il7_251), .val (.int (5 : Int32)), .val (.ref b107), .val (.ref w83)] [])
                          refine own_stepW (fun _ => XS.iconst X114.here hx rfl (hb hby at_418)) ?_
                          show own_EndsW p e below s _ _ _ T114 (mkF m 419 #[.val (.int i0), .val (.int i1), .val (.int i2), .val (.int i3), .val (.int i4), .val (.ref al5_251), .val (.int il6_251), .val (.int il7_251), .val (.int (5 : Int32)), .val (.ref b107), .val (.ref w83)] [(.int (0 : Int32))])
                          exact own_retNW X114 hS (by rw [hh114]; exact hk) (t := .boolean) hx hret hlk (hb hby at_419) (by decide) (by decide) (by simp) ⟨congrArg (fun z => some (Value.int z)) hvf0f1f2f3f4t5_t_t_t_t_t_f.symm, N114, trivial⟩
                      · have hvf0f1f2f3f4t5_t_t_t_t_f := hvf0f1f2f3f4t5_t_t_t_t.trans (if_neg hc396)
                        refine own_stepW (fun _ => XS.icmpYes X107.here hx rfl (pc0 := 396) (pc' := 404) rfl (hb hby at_396) rfl (feq hc396).2 (by decide) (by decide)) ?_
                        show own_EndsW p e below s _ _ _ T107 (mkF m 404 #[.val (.int i0), .val (.int i1), .val (.int i2), .val (.int i3), .val (.int i4), .val (.ref al5_251), .val (.int il6_251), .val (.int il7_251), .val (.int (5 : Int32)), .val (.ref b107), .val .null] [])
                        refine own_stepW (fun _ => XS.aload X107.here hx rfl (hb hby at_404) rfl rfl) ?_
                        show own_EndsW p e below s _ _ _ T107 (mkF m 406 #[.val (.int i0), .val (.int i1), .val (.int i2), .val (.int i3), .val (.int i4), .val (.ref al5_251), .val (.int il6_251), .val (.int il7_251), .val (.int (5 : Int32)), .val (.ref b107), .val .null] [(.ref b107)])
                        have hp115 : ∀ c ∈ ([(nar .char (li.getD (0 : Int32).toNatClampNeg 0)), (nar .char (li.getD (1 : Int32).toNatClampNeg 0)), (nar .char (li.getD (2 : Int32).toNatClampNeg 0)), (nar .char (li.getD (3 : Int32).toNatClampNeg 0)), (nar .char (li.getD (4 : Int32).toNatClampNeg 0))] : List Int32), own_R c := (own_lc (own_rn hr _) (own_lc (own_rn hr _) (own_lc (own_rn hr _) (own_lc (own_rn hr _) (own_lc (own_rn hr _) own_ln)))))
                        obtain ⟨_, _, ⟨T115, L115, k115, n115⟩, -, X115, ⟨Lc115, hQ115, l115, y115, z115⟩, st115⟩ := Jvm.LawKit.callS X107 hx (y := (⟨"lomwright/lom/Entity$Part", "of", "(Ljava/lang/String;)Llomwright/lom/Entity$Part;"⟩ : MethodName)) hown (mvT hZ (hw _ (List.mem_of_getElem? (i := 37) rfl))) (mvT hZ (hw _ (List.mem_of_getElem? (i := 38) rfl))) (mvT hZ (hw _ (List.mem_of_getElem? (i := 35) rfl))) (mvT hZ (hw _ (List.mem_of_getElem? (i := 39) rfl))) (by decide) (backOf (W := 0) (rm8 l Z a0 hw [] b107 t107 kb107 ([(nar .char (li.getD (0 : Int32).toNatClampNeg 0)), (nar .char (li.getD (1 : Int32).toNatClampNeg 0)), (nar .char (li.getD (2 : Int32).toNatClampNeg 0)), (nar .char (li.getD (3 : Int32).toNatClampNeg 0)), (nar .char (li.getD (4 : Int32).toNatClampNeg 0))]) (5 : Int32) G1 w3 w54 w83 w9 w22 w63 w92 w32 w73 w102 k_w9 k_w32 k_w73 k_w102 T107.heap n0 Zs107 OLDk107 gE107 gC107 gV107 gA107 O2 P5 (StrChars.Road.codOf (n := 5) rfl (fun c hc => (hp115 c hc).2)) (own_up hp115) (Nat.le_of_ble_eq_true rfl) bSNAME bSORG bSEMAIL bSALL bE0 bX0 bC0 bV0 bE1 bX1 bC1 bV1 bE2 bX2 bC2 bV2 bA0 bA1 bA2 bA3) hZ (hw _ (List.mem_of_getElem? (i := 39) rfl)) (hw _ (List.mem_of_getElem? (i := 35) rfl)) (by decide) (by decide)) (g := (mkF m 406 #[.val (.int i0), .val (.int i1), .val (.int i2), .val (.int i3), .val (.int i4), .val (.ref al5_251), .val (.int il6_251), .val (.int il7_251), .val (.int (5 : Int32)), .val (.ref b107), .val .null] [(.ref b107)])) rfl (by rw [hml]; rfl) (argsL := [(.ref b107)]) (rest := []) (lenOf pd_4 rfl) rfl (by show 2 * 0 + _ ≤ _; exact Nat.le_of_eq rfl) (hb hby at_406) (fun _ _ => ⟨rfl, rfl, (by decide : 4 + 0 ≤ _), (by decide : 20 + 0 ≤ _)⟩)
                        dsimp only [Pt.U, Pt.locs, Pt.cells, Pt.slots] at X115 l115 y115 z115 st115 hQ115
                        subst l115 y115 z115
                        obtain ⟨rfl, N115q, hh115⟩ := hQ115
                        have N115 := Fr.app N107 N115q
                        refine own_stepW st115 ?_
                        show own_EndsW p e below s _ _ _ T115 (mkF m 409 #[.val (.int i0), .val (.int i1), .val (.int i2), .val (.int i3), .val (.int i4), .val (.ref al5_251), .val (.int il6_251), .val (.int il7_251), .val (.int (5 : Int32)), .val (.ref b107), .val .null] [(f8_0 ([(nar .char (li.getD (0 : Int32).toNatClampNeg 0)), (nar .char (li.getD (1 : Int32).toNatClampNeg 0)), (nar .char (li.getD (2 : Int32).toNatClampNeg 0)), (nar .char (li.getD (3 : Int32).toNatClampNeg 0)), (nar .char (li.getD (4 : Int32).toNatClampNeg 0))]) w3 w54 w83)])
                        refine own_stepW (fun _ => XS.aload X115.here hx rfl (hb hby at_409) rfl rfl) ?_
                        show own_EndsW p e below s _ _ _ T115 (mkF m 411 #[.val (.int i0), .val (.int i1), .val (.int i2), .val (.int i3), .val (.int i4), .val (.ref al5_251), .val (.int il6_251), .val (.int il7_251), .val (.int (5 : Int32)), .val (.ref b107), .val .null] [.null, (f8_0 ([(nar .char (li.getD (0 : Int32).toNatClampNeg 0)), (nar .char (li.getD (1 : Int32).toNatClampNeg 0)), (nar .char (li.getD (2 : Int32).toNatClampNeg 0)), (nar .char (li.getD (3 : Int32).toNatClampNeg 0)), (nar .char (li.getD (4 : Int32).toNatClampNeg 0))]) w3 w54 w83)])
                        by_cases hc411 : (f8_0 ([(nar .char (li.getD (0 : Int32).toNatClampNeg 0)), (nar .char (li.getD (1 : Int32).toNatClampNeg 0)), (nar .char (li.getD (2 : Int32).toNatClampNeg 0)), (nar .char (li.getD (3 : Int32).toNatClampNeg 0)), (nar .char (li.getD (4 : Int32).toNatClampNeg 0))]) w3 w54 w83) = .null
                        · have hvf0f1f2f3f4t5_t_t_t_t_f_t := hvf0f1f2f3f4t5_t_t_t_t_f.trans (if_pos hc411)
                          refine own_stepW (fun _ => Jvm.RoadKit.acmp (g := (mkF m 411 #[.val (.int i0), .val (.int i1), .val (.int i2), .val (.int i3), .val (.int i4), .val (.ref al5_251), .val (.int il6_251), .val (.int il7_251), .val (.int (5 : Int32)), .val (.ref b107), .val .null] [.null, (f8_0 ([(nar .char (li.getD (0 : Int32).toNatClampNeg 0)), (nar .char (li.getD (1 : Int32).toNatClampNeg 0)), (nar .char (li.getD (2 : Int32).toNatClampNeg 0)), (nar .char (li.getD (3 : Int32).toNatClampNeg 0)), (nar .char (li.getD (4 : Int32).toNatClampNeg 0))]) w3 w54 w83)])) X115 hx rfl (own_f8ref _ _ _ _) rfl (pc0 := 411) (pc' := 414) (same := true) rfl (hb hby at_411) rfl (decide_eq_true hc411) (by decide) (by decide)) ?_
                          show own_EndsW p e below s _ _ _ T115 (mkF m 414 #[.val (.int i0), .val (.int i1), .val (.int i2), .val (.int i3), .val (.int i4), .val (.ref al5_251), .val (.int il6_251), .val (.int il7_251), .val (.int (5 : Int32)), .val (.ref b107), .val .null] [])
                          refine own_stepW (fun _ => XS.iconst X115.here hx rfl (hb hby at_414)) ?_
                          show own_EndsW p e below s _ _ _ T115 (mkF m 415 #[.val (.int i0), .val (.int i1), .val (.int i2), .val (.int i3), .val (.int i4), .val (.ref al5_251), .val (.int il6_251), .val (.int il7_251), .val (.int (5 : Int32)), .val (.ref b107), .val .null] [(.int (1 : Int32))])
                          refine own_stepW (fun _ => XS.goto X115.here hx rfl (pc0 := 415) (pc' := 419) rfl (hb hby at_415) (by decide) (by decide)) ?_
                          show own_EndsW p e below s _ _ _ T115 (mkF m 419 #[.val (.int i0), .val (.int i1), .val (.int i2), .val (.int i3), .val (.int i4), .val (.ref al5_251), .val (.int il6_251), .val (.int il7_251), .val (.int (5 : Int32)), .val (.ref b107), .val .null] [(.int (1 : Int32))])
                          exact own_retNW X115 hS (by rw [hh115]; exact hk) (t := .boolean) hx hret hlk (hb hby at_419) (by decide) (by decide) (by simp) ⟨congrArg (fun z => some (Value.int z)) hvf0f1f2f3f4t5_t_t_t_t_f_t.symm, N115, trivial⟩
                        · have hvf0f1f2f3f4t5_t_t_t_t_f_f := hvf0f1f2f3f4t5_t_t_t_t_f.trans (if_neg hc411)
                          refine own_stepW (fun _ => Jvm.RoadKit.acmp (g := (mkF m 411 #[.val (.int i0), .val (.int i1), .val (.int i2), .val (.int i3), .val (.int i4), .val (.ref al5_251), .val (.int il6_251), .val (.int il7_251), .val (.int (5 : Int32)), .val (.ref b107), .val .null] [.null, (f8_0 ([(nar .char (li.getD (0 : Int32).toNatClampNeg 0)), (nar .char (li.getD (1 : Int32).toNatClampNeg 0)), (nar .char (li.getD (2 : Int32).toNatClampNeg 0)), (nar .char (li.getD (3 : Int32).toNatClampNeg 0)), (nar .char (li.getD (4 : Int32).toNatClampNeg 0))]) w3 w54 w83)])) X115 hx rfl (own_f8ref _ _ _ _) rfl (pc0 := 411) (pc' := 418) (same := false) rfl (hb hby at_411) rfl (decide_eq_false hc411) (by decide) (by decide)) ?_
                          show own_EndsW p e below s _ _ _ T115 (mkF m 418 #[.val (.int i0), .val (.int i1), .val (.int i2), .val (.int i3), .val (.int i4), .val (.ref al5_251), .val (.int il6_251), .val (.int il7_251), .val (.int (5 : Int32)), .val (.ref b107), .val .null] [])
                          refine own_stepW (fun _ => XS.iconst X115.here hx rfl (hb hby at_418)) ?_
                          show own_EndsW p e below s _ _ _ T115 (mkF m 419 #[.val (.int i0), .val (.int i1), .val (.int i2), .val (.int i3), .val (.int i4), .val (.ref al5_251), .val (.int il6_251), .val (.int il7_251), .val (.int (5 : Int32)), .val (.ref b107), .val .null] [(.int (0 : Int32))])
                          exact own_retNW X115 hS (by rw [hh115]; exact hk) (t := .boolean) hx hret hlk (hb hby at_419) (by decide) (by decide) (by simp) ⟨congrArg (fun z => some (Value.int z)) hvf0f1f2f3f4t5_t_t_t_t_f_f.symm, N115, trivial⟩
                    · have hvf0f1f2f3f4t5_t_t_t_f := hvf0f1f2f3f4t5_t_t_t.trans (if_neg hc387)
                      refine own_stepW (fun _ => XS.icmpYes X107.here hx rfl (pc0 := 387) (pc' := 404) rfl (hb hby at_387) rfl (feq hc387).2 (by decide) (by decide)) ?_
                      show own_EndsW p e below s _ _ _ T107 (mkF m 404 #[.val (.int i0), .val (.int i1), .val (.int i2), .val (.int i3), .val (.int i4), .val (.ref al5_251), .val (.int il6_251), .val (.int il7_251), .val (.int (5 : Int32)), .val (.ref b107), .val .null] [])
                      refine own_stepW (fun _ => XS.aload X107.here hx rfl (hb hby at_404) rfl rfl) ?_
                      show own_EndsW p e below s _ _ _ T107 (mkF m 406 #[.val (.int i0), .val (.int i1), .val (.int i2), .val (.int i3), .val (.int i4), .val (.ref al5_251), .val (.int il6_251), .val (.int il7_251), .val (.int (5 : Int32)), .val (.ref b107), .val .null] [(.ref b107)])
                      have hp116 : ∀ c ∈ ([(nar .char (li.getD (0 : Int32).toNatClampNeg 0)), (nar .char (li.getD (1 : Int32).toNatClampNeg 0)), (nar .char (li.getD (2 : Int32).toNatClampNeg 0)), (nar .char (li.getD (3 : Int32).toNatClampNeg 0)), (nar .char (li.getD (4 : Int32).toNatClampNeg 0))] : List Int32), own_R c := (own_lc (own_rn hr _) (own_lc (own_rn hr _) (own_lc (own_rn hr _) (own_lc (own_rn hr _) (own_lc (own_rn hr _) own_ln)))))
                      obtain ⟨_, _, ⟨T116, L116, k116, n116⟩, -, X116, ⟨Lc116, hQ116, l116, y116, z116⟩, st116⟩ := Jvm.LawKit.callS X107 hx (y := (⟨"lomwright/lom/Entity$Part", "of", "(Ljava/lang/String;)Llomwright/lom/Entity$Part;"⟩ : MethodName)) hown (mvT hZ (hw _ (List.mem_of_getElem? (i := 37) rfl))) (mvT hZ (hw _ (List.mem_of_getElem? (i := 38) rfl))) (mvT hZ (hw _ (List.mem_of_getElem? (i := 35) rfl))) (mvT hZ (hw _ (List.mem_of_getElem? (i := 39) rfl))) (by decide) (backOf (W := 0) (rm8 l Z a0 hw [] b107 t107 kb107 ([(nar .char (li.getD (0 : Int32).toNatClampNeg 0)), (nar .char (li.getD (1 : Int32).toNatClampNeg 0)), (nar .char (li.getD (2 : Int32).toNatClampNeg 0)), (nar .char (li.getD (3 : Int32).toNatClampNeg 0)), (nar .char (li.getD (4 : Int32).toNatClampNeg 0))]) (5 : Int32) G1 w3 w54 w83 w9 w22 w63 w92 w32 w73 w102 k_w9 k_w32 k_w73 k_w102 T107.heap n0 Zs107 OLDk107 gE107 gC107 gV107 gA107 O2 P5 (StrChars.Road.codOf (n := 5) rfl (fun c hc => (hp116 c hc).2)) (own_up hp116) (Nat.le_of_ble_eq_true rfl) bSNAME bSORG bSEMAIL bSALL bE0 bX0 bC0 bV0 bE1 bX1 bC1 bV1 bE2 bX2 bC2 bV2 bA0 bA1 bA2 bA3) hZ (hw _ (List.mem_of_getElem? (i := 39) rfl)) (hw _ (List.mem_of_getElem? (i := 35) rfl)) (by decide) (by decide)) (g := (mkF m 406 #[.val (.int i0), .val (.int i1), .val (.int i2), .val (.int i3), .val (.int i4), .val (.ref al5_251), .val (.int il6_251), .val (.int il7_251), .val (.int (5 : Int32)), .val (.ref b107), .val .null] [(.ref b107)])) rfl (by rw [hml]; rfl) (argsL := [(.ref b107)]) (rest := []) (lenOf pd_4 rfl) rfl (by show 2 * 0 + _ ≤ _; exact Nat.le_of_eq rfl) (hb hby at_406) (fun _ _ => ⟨rfl, rfl, (by decide : 4 + 0 ≤ _), (by decide : 20 + 0 ≤ _)⟩)
                      dsimp only [Pt.U, Pt.locs, Pt.cells, Pt.slots] at X116 l116 y116 z116 st116 hQ116
                      subst l116 y116 z116
                      obtain ⟨rfl, N116q, hh116⟩ := hQ116
                      have N116 := Fr.app N107 N116q
                      refine own_stepW st116 ?_
                      show own_EndsW p e below s _ _ _ T116 (mkF m 409 #[.val (.int i0), .val (.int i1), .val (.int i2), .val (.int i3), .val (.int i4), .val (.ref al5_251), .val (.int il6_251), .val (.int il7_251), .val (.int (5 : Int32)), .val (.ref b107), .val .null] [(f8_0 ([(nar .char (li.getD (0 : Int32).toNatClampNeg 0)), (nar .char (li.getD (1 : Int32).toNatClampNeg 0)), (nar .char (li.getD (2 : Int32).toNatClampNeg 0)), (nar .char (li.getD (3 : Int32).toNatClampNeg 0)), (nar .char (li.getD (4 : Int32).toNatClampNeg 0))]) w3 w54 w83)])
                      refine own_stepW (fun _ => XS.aload X116.here hx rfl (hb hby at_409) rfl rfl) ?_
                      show own_EndsW p e below s _ _ _ T116 (mkF m 411 #[.val (.int i0), .val (.int i1), .val (.int i2), .val (.int i3), .val (.int i4), .val (.ref al5_251), .val (.int il6_251), .val (.int il7_251), .val (.int (5 : Int32)), .val (.ref b107), .val .null] [.null, (f8_0 ([(nar .char (li.getD (0 : Int32).toNatClampNeg 0)), (nar .char (li.getD (1 : Int32).toNatClampNeg 0)), (nar .char (li.getD (2 : Int32).toNatClampNeg 0)), (nar .char (li.getD (3 : Int32).toNatClampNeg 0)), (nar .char (li.getD (4 : Int32).toNatClampNeg 0))]) w3 w54 w83)])
                      by_cases hc411 : (f8_0 ([(nar .char (li.getD (0 : Int32).toNatClampNeg 0)), (nar .char (li.getD (1 : Int32).toNatClampNeg 0)), (nar .char (li.getD (2 : Int32).toNatClampNeg 0)), (nar .char (li.getD (3 : Int32).toNatClampNeg 0)), (nar .char (li.getD (4 : Int32).toNatClampNeg 0))]) w3 w54 w83) = .null
                      · have hvf0f1f2f3f4t5_t_t_t_f_t := hvf0f1f2f3f4t5_t_t_t_f.trans (if_pos hc411)
                        refine own_stepW (fun _ => Jvm.RoadKit.acmp (g := (mkF m 411 #[.val (.int i0), .val (.int i1), .val (.int i2), .val (.int i3), .val (.int i4), .val (.ref al5_251), .val (.int il6_251), .val (.int il7_251), .val (.int (5 : Int32)), .val (.ref b107), .val .null] [.null, (f8_0 ([(nar .char (li.getD (0 : Int32).toNatClampNeg 0)), (nar .char (li.getD (1 : Int32).toNatClampNeg 0)), (nar .char (li.getD (2 : Int32).toNatClampNeg 0)), (nar .char (li.getD (3 : Int32).toNatClampNeg 0)), (nar .char (li.getD (4 : Int32).toNatClampNeg 0))]) w3 w54 w83)])) X116 hx rfl (own_f8ref _ _ _ _) rfl (pc0 := 411) (pc' := 414) (same := true) rfl (hb hby at_411) rfl (decide_eq_true hc411) (by decide) (by decide)) ?_
                        show own_EndsW p e below s _ _ _ T116 (mkF m 414 #[.val (.int i0), .val (.int i1), .val (.int i2), .val (.int i3), .val (.int i4), .val (.ref al5_251), .val (.int il6_251), .val (.int il7_251), .val (.int (5 : Int32)), .val (.ref b107), .val .null] [])
                        refine own_stepW (fun _ => XS.iconst X116.here hx rfl (hb hby at_414)) ?_
                        show own_EndsW p e below s _ _ _ T116 (mkF m 415 #[.val (.int i0), .val (.int i1), .val (.int i2), .val (.int i3), .val (.int i4), .val (.ref al5_251), .val (.int il6_251), .val (.int il7_251), .val (.int (5 : Int32)), .val (.ref b107), .val .null] [(.int (1 : Int32))])
                        refine own_stepW (fun _ => XS.goto X116.here hx rfl (pc0 := 415) (pc' := 419) rfl (hb hby at_415) (by decide) (by decide)) ?_
                        show own_EndsW p e below s _ _ _ T116 (mkF m 419 #[.val (.int i0), .val (.int i1), .val (.int i2), .val (.int i3), .val (.int i4), .val (.ref al5_251), .val (.int il6_251), .val (.int il7_251), .val (.int (5 : Int32)), .val (.ref b107), .val .null] [(.int (1 : Int32))])
                        exact own_retNW X116 hS (by rw [hh116]; exact hk) (t := .boolean) hx hret hlk (hb hby at_419) (by decide) (by decide) (by simp) ⟨congrArg (fun z => some (Value.int z)) hvf0f1f2f3f4t5_t_t_t_f_t.symm, N116, trivial⟩
                      · have hvf0f1f2f3f4t5_t_t_t_f_f := hvf0f1f2f3f4t5_t_t_t_f.trans (if_neg hc411)
                        refine own_stepW (fun _ => Jvm.RoadKit.acmp (g := (mkF m 411 #[.val (.int i0), .val (.int i1), .val (.int i2), .val (.int i3), .val (.int i4), .val (.ref al5_251), .val (.int il6_251), .val (.int il7_251), .val (.int (5 : Int32)), .val (.ref b107), .val .null] [.null, (f8_0 ([(nar .char (li.getD (0 : Int32).toNatClampNeg 0)), (nar .char (li.getD (1 : Int32).toNatClampNeg 0)), (nar .char (li.getD (2 : Int32).toNatClampNeg 0)), (nar .char (li.getD (3 : Int32).toNatClampNeg 0)), (nar .char (li.getD (4 : Int32).toNatClampNeg 0))]) w3 w54 w83)])) X116 hx rfl (own_f8ref _ _ _ _) rfl (pc0 := 411) (pc' := 418) (same := false) rfl (hb hby at_411) rfl (decide_eq_false hc411) (by decide) (by decide)) ?_
                        show own_EndsW p e below s _ _ _ T116 (mkF m 418 #[.val (.int i0), .val (.int i1), .val (.int i2), .val (.int i3), .val (.int i4), .val (.ref al5_251), .val (.int il6_251), .val (.int il7_251), .val (.int (5 : Int32)), .val (.ref b107), .val .null] [])
                        refine own_stepW (fun _ => XS.iconst X116.here hx rfl (hb hby at_418)) ?_
                        show own_EndsW p e below s _ _ _ T116 (mkF m 419 #[.val (.int i0), .val (.int i1), .val (.int i2), .val (.int i3), .val (.int i4), .val (.ref al5_251), .val (.int il6_251), .val (.int il7_251), .val (.int (5 : Int32)), .val (.ref b107), .val .null] [(.int (0 : Int32))])
                        exact own_retNW X116 hS (by rw [hh116]; exact hk) (t := .boolean) hx hret hlk (hb hby at_419) (by decide) (by decide) (by simp) ⟨congrArg (fun z => some (Value.int z)) hvf0f1f2f3f4t5_t_t_t_f_f.symm, N116, trivial⟩
                  · have hvf0f1f2f3f4t5_t_t_f := hvf0f1f2f3f4t5_t_t.trans (if_neg hc378)
                    refine own_stepW (fun _ => XS.icmpYes X107.here hx rfl (pc0 := 378) (pc' := 404) rfl (hb hby at_378) rfl (feq hc378).2 (by decide) (by decide)) ?_
                    show own_EndsW p e below s _ _ _ T107 (mkF m 404 #[.val (.int i0), .val (.int i1), .val (.int i2), .val (.int i3), .val (.int i4), .val (.ref al5_251), .val (.int il6_251), .val (.int il7_251), .val (.int (5 : Int32)), .val (.ref b107), .val .null] [])
                    refine own_stepW (fun _ => XS.aload X107.here hx rfl (hb hby at_404) rfl rfl) ?_
                    show own_EndsW p e below s _ _ _ T107 (mkF m 406 #[.val (.int i0), .val (.int i1), .val (.int i2), .val (.int i3), .val (.int i4), .val (.ref al5_251), .val (.int il6_251), .val (.int il7_251), .val (.int (5 : Int32)), .val (.ref b107), .val .null] [(.ref b107)])
                    have hp117 : ∀ c ∈ ([(nar .char (li.getD (0 : Int32).toNatClampNeg 0)), (nar .char (li.getD (1 : Int32).toNatClampNeg 0)), (nar .char (li.getD (2 : Int32).toNatClampNeg 0)), (nar .char (li.getD (3 : Int32).toNatClampNeg 0)), (nar .char (li.getD (4 : Int32).toNatClampNeg 0))] : List Int32), own_R c := (own_lc (own_rn hr _) (own_lc (own_rn hr _) (own_lc (own_rn hr _) (own_lc (own_rn hr _) (own_lc (own_rn hr _) own_ln)))))
                    obtain ⟨_, _, ⟨T117, L117, k117, n117⟩, -, X117, ⟨Lc117, hQ117, l117, y117, z117⟩, st117⟩ := Jvm.LawKit.callS X107 hx (y := (⟨"lomwright/lom/Entity$Part", "of", "(Ljava/lang/String;)Llomwright/lom/Entity$Part;"⟩ : MethodName)) hown (mvT hZ (hw _ (List.mem_of_getElem? (i := 37) rfl))) (mvT hZ (hw _ (List.mem_of_getElem? (i := 38) rfl))) (mvT hZ (hw _ (List.mem_of_getElem? (i := 35) rfl))) (mvT hZ (hw _ (List.mem_of_getElem? (i := 39) rfl))) (by decide) (backOf (W := 0) (rm8 l Z a0 hw [] b107 t107 kb107 ([(nar .char (li.getD (0 : Int32).toNatClampNeg 0)), (nar .char (li.getD (1 : Int32).toNatClampNeg 0)), (nar .char (li.getD (2 : Int32).toNatClampNeg 0)), (nar .char (li.getD (3 : Int32).toNatClampNeg 0)), (nar .char (li.getD (4 : Int32).toNatClampNeg 0))]) (5 : Int32) G1 w3 w54 w83 w9 w22 w63 w92 w32 w73 w102 k_w9 k_w32 k_w73 k_w102 T107.heap n0 Zs107 OLDk107 gE107 gC107 gV107 gA107 O2 P5 (StrChars.Road.codOf (n := 5) rfl (fun c hc => (hp117 c hc).2)) (own_up hp117) (Nat.le_of_ble_eq_true rfl) bSNAME bSORG bSEMAIL bSALL bE0 bX0 bC0 bV0 bE1 bX1 bC1 bV1 bE2 bX2 bC2 bV2 bA0 bA1 bA2 bA3) hZ (hw _ (List.mem_of_getElem? (i := 39) rfl)) (hw _ (List.mem_of_getElem? (i := 35) rfl)) (by decide) (by decide)) (g := (mkF m 406 #[.val (.int i0), .val (.int i1), .val (.int i2), .val (.int i3), .val (.int i4), .val (.ref al5_251), .val (.int il6_251), .val (.int il7_251), .val (.int (5 : Int32)), .val (.ref b107), .val .null] [(.ref b107)])) rfl (by rw [hml]; rfl) (argsL := [(.ref b107)]) (rest := []) (lenOf pd_4 rfl) rfl (by show 2 * 0 + _ ≤ _; exact Nat.le_of_eq rfl) (hb hby at_406) (fun _ _ => ⟨rfl, rfl, (by decide : 4 + 0 ≤ _), (by decide : 20 + 0 ≤ _)⟩)
                    dsimp only [Pt.U, Pt.locs, Pt.cells, Pt.slots] at X117 l117 y117 z117 st117 hQ117
                    subst l117 y117 z117
                    obtain ⟨rfl, N117q, hh117⟩ := hQ117
                    have N117 := Fr.app N107 N117q
                    refine own_stepW st117 ?_
                    show own_EndsW p e below s _ _ _ T117 (mkF m 409 #[.val (.int i0), .val (.int i1), .val (.int i2), .val (.int i3), .val (.int i4), .val (.ref al5_251), .val (.int il6_251), .val (.int il7_251), .val (.int (5 : Int32)), .val (.ref b107), .val .null] [(f8_0 ([(nar .char (li.getD (0 : Int32).toNatClampNeg 0)), (nar .char (li.getD (1 : Int32).toNatClampNeg 0)), (nar .char (li.getD (2 : Int32).toNatClampNeg 0)), (nar .char (li.getD (3 : Int32).toNatClampNeg 0)), (nar .char (li.getD (4 : Int32).toNatClampNeg 0))]) w3 w54 w83)])
                    refine own_stepW (fun _ => XS.aload X117.here hx rfl (hb hby at_409) rfl rfl) ?_
                    show own_EndsW p e below s _ _ _ T117 (mkF m 411 #[.val (.int i0), .val (.int i1), .val (.int i2), .val (.int i3), .val (.int i4), .val (.ref al5_251), .val (.int il6_251), .val (.int il7_251), .val (.int (5 : Int32)), .val (.ref b107), .val .null] [.null, (f8_0 ([(nar .char (li.getD (0 : Int32).toNatClampNeg 0)), (nar .char (li.getD (1 : Int32).toNatClampNeg 0)), (nar .char (li.getD (2 : Int32).toNatClampNeg 0)), (nar .char (li.getD (3 : Int32).toNatClampNeg 0)), (nar .char (li.getD (4 : Int32).toNatClampNeg 0))]) w3 w54 w83)])
                    by_cases hc411 : (f8_0 ([(nar .char (li.getD (0 : Int32).toNatClampNeg 0)), (nar .char (li.getD (1 : Int32).toNatClampNeg 0)), (nar .char (li.getD (2 : Int32).toNatClampNeg 0)), (nar .char (li.getD (3 : Int32).toNatClampNeg 0)), (nar .char (li.getD (4 : Int32).toNatClampNeg 0))]) w3 w54 w83) = .null
                    · have hvf0f1f2f3f4t5_t_t_f_t := hvf0f1f2f3f4t5_t_t_f.trans (if_pos hc411)
                      refine own_stepW (fun _ => Jvm.RoadKit.acmp (g := (mkF m 411 #[.val (.int i0), .val (.int i1), .val (.int i2), .val (.int i3), .val (.int i4), .val (.ref al5_251), .val (.int il6_251), .val (.int il7_251), .val (.int (5 : Int32)), .val (.ref b107), .val .null] [.null, (f8_0 ([(nar .char (li.getD (0 : Int32).toNatClampNeg 0)), (nar .char (li.getD (1 : Int32).toNatClampNeg 0)), (nar .char (li.getD (2 : Int32).toNatClampNeg 0)), (nar .char (li.getD (3 : Int32).toNatClampNeg 0)), (nar .char (li.getD (4 : Int32).toNatClampNeg 0))]) w3 w54 w83)])) X117 hx rfl (own_f8ref _ _ _ _) rfl (pc0 := 411) (pc' := 414) (same := true) rfl (hb hby at_411) rfl (decide_eq_true hc411) (by decide) (by decide)) ?_
                      show own_EndsW p e below s _ _ _ T117 (mkF m 414 #[.val (.int i0), .val (.int i1), .val (.int i2), .val (.int i3), .val (.int i4), .val (.ref al5_251), .val (.int il6_251), .val (.int il7_251), .val (.int (5 : Int32)), .val (.ref b107), .val .null] [])
                      refine own_stepW (fun _ => XS.iconst X117.here hx rfl (hb hby at_414)) ?_
                      show own_EndsW p e below s _ _ _ T117 (mkF m 415 #[.val (.int i0), .val (.int i1), .val (.int i2), .val (.int i3), .val (.int i4), .val (.ref al5_251), .val (.int il6_251), .val (.int il7_251), .val (.int (5 : Int32)), .val (.ref b107), .val .null] [(.int (1 : Int32))])
                      refine own_stepW (fun _ => XS.goto X117.here hx rfl (pc0 := 415) (pc' := 419) rfl (hb hby at_415) (by decide) (by decide)) ?_
                      show own_EndsW p e below s _ _ _ T117 (mkF m 419 #[.val (.int i0), .val (.int i1), .val (.int i2), .val (.int i3), .val (.int i4), .val (.ref al5_251), .val (.int il6_251), .val (.int il7_251), .val (.int (5 : Int32)), .val (.ref b107), .val .null] [(.int (1 : Int32))])
                      exact own_retNW X117 hS (by rw [hh117]; exact hk) (t := .boolean) hx hret hlk (hb hby at_419) (by decide) (by decide) (by simp) ⟨congrArg (fun z => some (Value.int z)) hvf0f1f2f3f4t5_t_t_f_t.symm, N117, trivial⟩
                    · have hvf0f1f2f3f4t5_t_t_f_f := hvf0f1f2f3f4t5_t_t_f.trans (if_neg hc411)
                      refine own_stepW (fun _ => Jvm.RoadKit.acmp (g := (mkF m 411 #[.val (.int i0), .val (.int i1), .val (.int i2), .val (.int i3), .val (.int i4), .val (.ref al5_251), .val (.int il6_251), .val (.int il7_251), .val (.int (5 : Int32)), .val (.ref b107), .val .null] [.null, (f8_0 ([(nar .char (li.getD (0 : Int32).toNatClampNeg 0)), (nar .char (li.getD (1 : Int32).toNatClampNeg 0)), (nar .char (li.getD (2 : Int32).toNatClampNeg 0)), (nar .char (li.getD (3 : Int32).toNatClampNeg 0)), (nar .char (li.getD (4 : Int32).toNatClampNeg 0))]) w3 w54 w83)])) X117 hx rfl (own_f8ref _ _ _ _) rfl (pc0 := 411) (pc' := 418) (same := false) rfl (hb hby at_411) rfl (decide_eq_false hc411) (by decide) (by decide)) ?_
                      show own_EndsW p e below s _ _ _ T117 (mkF m 418 #[.val (.int i0), .val (.int i1), .val (.int i2), .val (.int i3), .val (.int i4), .val (.ref al5_251), .val (.int il6_251), .val (.int il7_251), .val (.int (5 : Int32)), .val (.ref b107), .val .null] [])
                      refine own_stepW (fun _ => XS.iconst X117.here hx rfl (hb hby at_418)) ?_
                      show own_EndsW p e below s _ _ _ T117 (mkF m 419 #[.val (.int i0), .val (.int i1), .val (.int i2), .val (.int i3), .val (.int i4), .val (.ref al5_251), .val (.int il6_251), .val (.int il7_251), .val (.int (5 : Int32)), .val (.ref b107), .val .null] [(.int (0 : Int32))])
                      exact own_retNW X117 hS (by rw [hh117]; exact hk) (t := .boolean) hx hret hlk (hb hby at_419) (by decide) (by decide) (by simp) ⟨congrArg (fun z => some (Value.int z)) hvf0f1f2f3f4t5_t_t_f_f.symm, N117, trivial⟩
                · have hvf0f1f2f3f4t5_t_f := hvf0f1f2f3f4t5_t.trans (if_neg hc369)
                  refine own_stepW (fun _ => XS.icmpYes X107.here hx rfl (pc0 := 369) (pc' := 404) rfl (hb hby at_369) rfl (feq hc369).2 (by decide) (by decide)) ?_
                  show own_EndsW p e below s _ _ _ T107 (mkF m 404 #[.val (.int i0), .val (.int i1), .val (.int i2), .val (.int i3), .val (.int i4), .val (.ref al5_251), .val (.int il6_251), .val (.int il7_251), .val (.int (5 : Int32)), .val (.ref b107), .val .null] [])
                  refine own_stepW (fun _ => XS.aload X107.here hx rfl (hb hby at_404) rfl rfl) ?_
                  show own_EndsW p e below s _ _ _ T107 (mkF m 406 #[.val (.int i0), .val (.int i1), .val (.int i2), .val (.int i3), .val (.int i4), .val (.ref al5_251), .val (.int il6_251), .val (.int il7_251), .val (.int (5 : Int32)), .val (.ref b107), .val .null] [(.ref b107)])
                  have hp118 : ∀ c ∈ ([(nar .char (li.getD (0 : Int32).toNatClampNeg 0)), (nar .char (li.getD (1 : Int32).toNatClampNeg 0)), (nar .char (li.getD (2 : Int32).toNatClampNeg 0)), (nar .char (li.getD (3 : Int32).toNatClampNeg 0)), (nar .char (li.getD (4 : Int32).toNatClampNeg 0))] : List Int32), own_R c := (own_lc (own_rn hr _) (own_lc (own_rn hr _) (own_lc (own_rn hr _) (own_lc (own_rn hr _) (own_lc (own_rn hr _) own_ln)))))
                  obtain ⟨_, _, ⟨T118, L118, k118, n118⟩, -, X118, ⟨Lc118, hQ118, l118, y118, z118⟩, st118⟩ := Jvm.LawKit.callS X107 hx (y := (⟨"lomwright/lom/Entity$Part", "of", "(Ljava/lang/String;)Llomwright/lom/Entity$Part;"⟩ : MethodName)) hown (mvT hZ (hw _ (List.mem_of_getElem? (i := 37) rfl))) (mvT hZ (hw _ (List.mem_of_getElem? (i := 38) rfl))) (mvT hZ (hw _ (List.mem_of_getElem? (i := 35) rfl))) (mvT hZ (hw _ (List.mem_of_getElem? (i := 39) rfl))) (by decide) (backOf (W := 0) (rm8 l Z a0 hw [] b107 t107 kb107 ([(nar .char (li.getD (0 : Int32).toNatClampNeg 0)), (nar .char (li.getD (1 : Int32).toNatClampNeg 0)), (nar .char (li.getD (2 : Int32).toNatClampNeg 0)), (nar .char (li.getD (3 : Int32).toNatClampNeg 0)), (nar .char (li.getD (4 : Int32).toNatClampNeg 0))]) (5 : Int32) G1 w3 w54 w83 w9 w22 w63 w92 w32 w73 w102 k_w9 k_w32 k_w73 k_w102 T107.heap n0 Zs107 OLDk107 gE107 gC107 gV107 gA107 O2 P5 (StrChars.Road.codOf (n := 5) rfl (fun c hc => (hp118 c hc).2)) (own_up hp118) (Nat.le_of_ble_eq_true rfl) bSNAME bSORG bSEMAIL bSALL bE0 bX0 bC0 bV0 bE1 bX1 bC1 bV1 bE2 bX2 bC2 bV2 bA0 bA1 bA2 bA3) hZ (hw _ (List.mem_of_getElem? (i := 39) rfl)) (hw _ (List.mem_of_getElem? (i := 35) rfl)) (by decide) (by decide)) (g := (mkF m 406 #[.val (.int i0), .val (.int i1), .val (.int i2), .val (.int i3), .val (.int i4), .val (.ref al5_251), .val (.int il6_251), .val (.int il7_251), .val (.int (5 : Int32)), .val (.ref b107), .val .null] [(.ref b107)])) rfl (by rw [hml]; rfl) (argsL := [(.ref b107)]) (rest := []) (lenOf pd_4 rfl) rfl (by show 2 * 0 + _ ≤ _; exact Nat.le_of_eq rfl) (hb hby at_406) (fun _ _ => ⟨rfl, rfl, (by decide : 4 + 0 ≤ _), (by decide : 20 + 0 ≤ _)⟩)
                  dsimp only [Pt.U, Pt.locs, Pt.cells, Pt.slots] at X118 l118 y118 z118 st118 hQ118
                  subst l118 y118 z118
                  obtain ⟨rfl, N118q, hh118⟩ := hQ118
                  have N118 := Fr.app N107 N118q
                  refine own_stepW st118 ?_
                  show own_EndsW p e below s _ _ _ T118 (mkF m 409 #[.val (.int i0), .val (.int i1), .val (.int i2), .val (.int i3), .val (.int i4), .val (.ref al5_251), .val (.int il6_251), .val (.int il7_251), .val (.int (5 : Int32)), .val (.ref b107), .val .null] [(f8_0 ([(nar .char (li.getD (0 : Int32).toNatClampNeg 0)), (nar .char (li.getD (1 : Int32).toNatClampNeg 0)), (nar .char (li.getD (2 : Int32).toNatClampNeg 0)), (nar .char (li.getD (3 : Int32).toNatClampNeg 0)), (nar .char (li.getD (4 : Int32).toNatClampNeg 0))]) w3 w54 w83)])
                  refine own_stepW (fun _ => XS.aload X118.here hx rfl (hb hby at_409) rfl rfl) ?_
                  show own_EndsW p e below s _ _ _ T118 (mkF m 411 #[.val (.int i0), .val (.int i1), .val (.int i2), .val (.int i3), .val (.int i4), .val (.ref al5_251), .val (.int il6_251), .val (.int il7_251), .val (.int (5 : Int32)), .val (.ref b107), .val .null] [.null, (f8_0 ([(nar .char (li.getD (0 : Int32).toNatClampNeg 0)), (nar .char (li.getD (1 : Int32).toNatClampNeg 0)), (nar .char (li.getD (2 : Int32).toNatClampNeg 0)), (nar .char (li.getD (3 : Int32).toNatClampNeg 0)), (nar .char (li.getD (4 : Int32).toNatClampNeg 0))]) w3 w54 w83)])
                  by_cases hc411 : (f8_0 ([(nar .char (li.getD (0 : Int32).toNatClampNeg 0)), (nar .char (li.getD (1 : Int32).toNatClampNeg 0)), (nar .char (li.getD (2 : Int32).toNatClampNeg 0)), (nar .char (li.getD (3 : Int32).toNatClampNeg 0)), (nar .char (li.getD (4 : Int32).toNatClampNeg 0))]) w3 w54 w83) = .null
                  · have hvf0f1f2f3f4t5_t_f_t := hvf0f1f2f3f4t5_t_f.trans (if_pos hc411)
                    refine own_stepW (fun _ => Jvm.RoadKit.acmp (g := (mkF m 411 #[.val (.int i0), .val (.int i1), .val (.int i2), .val (.int i3), .val (.int i4), .val (.ref al5_251), .val (.int il6_251), .val (.int il7_251), .val (.int (5 : Int32)), .val (.ref b107), .val .null] [.null, (f8_0 ([(nar .char (li.getD (0 : Int32).toNatClampNeg 0)), (nar .char (li.getD (1 : Int32).toNatClampNeg 0)), (nar .char (li.getD (2 : Int32).toNatClampNeg 0)), (nar .char (li.getD (3 : Int32).toNatClampNeg 0)), (nar .char (li.getD (4 : Int32).toNatClampNeg 0))]) w3 w54 w83)])) X118 hx rfl (own_f8ref _ _ _ _) rfl (pc0 := 411) (pc' := 414) (same := true) rfl (hb hby at_411) rfl (decide_eq_true hc411) (by decide) (by decide)) ?_
                    show own_EndsW p e below s _ _ _ T118 (mkF m 414 #[.val (.int i0), .val (.int i1), .val (.int i2), .val (.int i3), .val (.int i4), .val (.ref al5_251), .val (.int il6_251), .val (.int il7_251), .val (.int (5 : Int32)), .val (.ref b107), .val .null] [])
                    refine own_stepW (fun _ => XS.iconst X118.here hx rfl (hb hby at_414)) ?_
                    show own_EndsW p e below s _ _ _ T118 (mkF m 415 #[.val (.int i0), .val (.int i1), .val (.int i2), .val (.int i3), .val (.int i4), .val (.ref al5_251), .val (.int il6_251), .val (.int il7_251), .val (.int (5 : Int32)), .val (.ref b107), .val .null] [(.int (1 : Int32))])
                    refine own_stepW (fun _ => XS.goto X118.here hx rfl (pc0 := 415) (pc' := 419) rfl (hb hby at_415) (by decide) (by decide)) ?_
                    show own_EndsW p e below s _ _ _ T118 (mkF m 419 #[.val (.int i0), .val (.int i1), .val (.int i2), .val (.int i3), .val (.int i4), .val (.ref al5_251), .val (.int il6_251), .val (.int il7_251), .val (.int (5 : Int32)), .val (.ref b107), .val .null] [(.int (1 : Int32))])
                    exact own_retNW X118 hS (by rw [hh118]; exact hk) (t := .boolean) hx hret hlk (hb hby at_419) (by decide) (by decide) (by simp) ⟨congrArg (fun z => some (Value.int z)) hvf0f1f2f3f4t5_t_f_t.symm, N118, trivial⟩
                  · have hvf0f1f2f3f4t5_t_f_f := hvf0f1f2f3f4t5_t_f.trans (if_neg hc411)
                    refine own_stepW (fun _ => Jvm.RoadKit.acmp (g := (mkF m 411 #[.val (.int i0), .val (.int i1), .val (.int i2), .val (.int i3), .val (.int i4), .val (.ref al5_251), .val (.int il6_251), .val (.int il7_251), .val (.int (5 : Int32)), .val (.ref b107), .val .null] [.null, (f8_0 ([(nar .char (li.getD (0 : Int32).toNatClampNeg 0)), (nar .char (li.getD (1 : Int32).toNatClampNeg 0)), (nar .char (li.getD (2 : Int32).toNatClampNeg 0)), (nar .char (li.getD (3 : Int32).toNatClampNeg 0)), (nar .char (li.getD (4 : Int32).toNatClampNeg 0))]) w3 w54 w83)])) X118 hx rfl (own_f8ref _ _ _ _) rfl (pc0 := 411) (pc' := 418) (same := false) rfl (hb hby at_411) rfl (decide_eq_false hc411) (by decide) (by decide)) ?_
                    show own_EndsW p e below s _ _ _ T118 (mkF m 418 #[.val (.int i0), .val (.int i1), .val (.int i2), .val (.int i3), .val (.int i4), .val (.ref al5_251), .val (.int il6_251), .val (.int il7_251), .val (.int (5 : Int32)), .val (.ref b107), .val .null] [])
                    refine own_stepW (fun _ => XS.iconst X118.here hx rfl (hb hby at_418)) ?_
                    show own_EndsW p e below s _ _ _ T118 (mkF m 419 #[.val (.int i0), .val (.int i1), .val (.int i2), .val (.int i3), .val (.int i4), .val (.ref al5_251), .val (.int il6_251), .val (.int il7_251), .val (.int (5 : Int32)), .val (.ref b107), .val .null] [(.int (0 : Int32))])
                    exact own_retNW X118 hS (by rw [hh118]; exact hk) (t := .boolean) hx hret hlk (hb hby at_419) (by decide) (by decide) (by simp) ⟨congrArg (fun z => some (Value.int z)) hvf0f1f2f3f4t5_t_f_f.symm, N118, trivial⟩
              · have hvf0f1f2f3f4t5_f := hvf0f1f2f3f4t5.trans (if_neg hc360)
                refine own_stepW (fun _ => XS.icmpYes X107.here hx rfl (pc0 := 360) (pc' := 404) rfl (hb hby at_360) rfl (feq hc360).2 (by decide) (by decide)) ?_
                show own_EndsW p e below s _ _ _ T107 (mkF m 404 #[.val (.int i0), .val (.int i1), .val (.int i2), .val (.int i3), .val (.int i4), .val (.ref al5_251), .val (.int il6_251), .val (.int il7_251), .val (.int (5 : Int32)), .val (.ref b107), .val .null] [])
                refine own_stepW (fun _ => XS.aload X107.here hx rfl (hb hby at_404) rfl rfl) ?_
                show own_EndsW p e below s _ _ _ T107 (mkF m 406 #[.val (.int i0), .val (.int i1), .val (.int i2), .val (.int i3), .val (.int i4), .val (.ref al5_251), .val (.int il6_251), .val (.int il7_251), .val (.int (5 : Int32)), .val (.ref b107), .val .null] [(.ref b107)])
                have hp119 : ∀ c ∈ ([(nar .char (li.getD (0 : Int32).toNatClampNeg 0)), (nar .char (li.getD (1 : Int32).toNatClampNeg 0)), (nar .char (li.getD (2 : Int32).toNatClampNeg 0)), (nar .char (li.getD (3 : Int32).toNatClampNeg 0)), (nar .char (li.getD (4 : Int32).toNatClampNeg 0))] : List Int32), own_R c := (own_lc (own_rn hr _) (own_lc (own_rn hr _) (own_lc (own_rn hr _) (own_lc (own_rn hr _) (own_lc (own_rn hr _) own_ln)))))
                obtain ⟨_, _, ⟨T119, L119, k119, n119⟩, -, X119, ⟨Lc119, hQ119, l119, y119, z119⟩, st119⟩ := Jvm.LawKit.callS X107 hx (y := (⟨"lomwright/lom/Entity$Part", "of", "(Ljava/lang/String;)Llomwright/lom/Entity$Part;"⟩ : MethodName)) hown (mvT hZ (hw _ (List.mem_of_getElem? (i := 37) rfl))) (mvT hZ (hw _ (List.mem_of_getElem? (i := 38) rfl))) (mvT hZ (hw _ (List.mem_of_getElem? (i := 35) rfl))) (mvT hZ (hw _ (List.mem_of_getElem? (i := 39) rfl))) (by decide) (backOf (W := 0) (rm8 l Z a0 hw [] b107 t107 kb107 ([(nar .char (li.getD (0 : Int32).toNatClampNeg 0)), (nar .char (li.getD (1 : Int32).toNatClampNeg 0)), (nar .char (li.getD (2 : Int32).toNatClampNeg 0)), (nar .char (li.getD (3 : Int32).toNatClampNeg 0)), (nar .char (li.getD (4 : Int32).toNatClampNeg 0))]) (5 : Int32) G1 w3 w54 w83 w9 w22 w63 w92 w32 w73 w102 k_w9 k_w32 k_w73 k_w102 T107.heap n0 Zs107 OLDk107 gE107 gC107 gV107 gA107 O2 P5 (StrChars.Road.codOf (n := 5) rfl (fun c hc => (hp119 c hc).2)) (own_up hp119) (Nat.le_of_ble_eq_true rfl) bSNAME bSORG bSEMAIL bSALL bE0 bX0 bC0 bV0 bE1 bX1 bC1 bV1 bE2 bX2 bC2 bV2 bA0 bA1 bA2 bA3) hZ (hw _ (List.mem_of_getElem? (i := 39) rfl)) (hw _ (List.mem_of_getElem? (i := 35) rfl)) (by decide) (by decide)) (g := (mkF m 406 #[.val (.int i0), .val (.int i1), .val (.int i2), .val (.int i3), .val (.int i4), .val (.ref al5_251), .val (.int il6_251), .val (.int il7_251), .val (.int (5 : Int32)), .val (.ref b107), .val .null] [(.ref b107)])) rfl (by rw [hml]; rfl) (argsL := [(.ref b107)]) (rest := []) (lenOf pd_4 rfl) rfl (by show 2 * 0 + _ ≤ _; exact Nat.le_of_eq rfl) (hb hby at_406) (fun _ _ => ⟨rfl, rfl, (by decide : 4 + 0 ≤ _), (by decide : 20 + 0 ≤ _)⟩)
                dsimp only [Pt.U, Pt.locs, Pt.cells, Pt.slots] at X119 l119 y119 z119 st119 hQ119
                subst l119 y119 z119
                obtain ⟨rfl, N119q, hh119⟩ := hQ119
                have N119 := Fr.app N107 N119q
                refine own_stepW st119 ?_
                show own_EndsW p e below s _ _ _ T119 (mkF m 409 #[.val (.int i0), .val (.int i1), .val (.int i2), .val (.int i3), .val (.int i4), .val (.ref al5_251), .val (.int il6_251), .val (.int il7_251), .val (.int (5 : Int32)), .val (.ref b107), .val .null] [(f8_0 ([(nar .char (li.getD (0 : Int32).toNatClampNeg 0)), (nar .char (li.getD (1 : Int32).toNatClampNeg 0)), (nar .char (li.getD (2 : Int32).toNatClampNeg 0)), (nar .char (li.getD (3 : Int32).toNatClampNeg 0)), (nar .char (li.getD (4 : Int32).toNatClampNeg 0))]) w3 w54 w83)])
                refine own_stepW (fun _ => XS.aload X119.here hx rfl (hb hby at_409) rfl rfl) ?_
                show own_EndsW p e below s _ _ _ T119 (mkF m 411 #[.val (.int i0), .val (.int i1), .val (.int i2), .val (.int i3), .val (.int i4), .val (.ref al5_251), .val (.int il6_251), .val (.int il7_251), .val (.int (5 : Int32)), .val (.ref b107), .val .null] [.null, (f8_0 ([(nar .char (li.getD (0 : Int32).toNatClampNeg 0)), (nar .char (li.getD (1 : Int32).toNatClampNeg 0)), (nar .char (li.getD (2 : Int32).toNatClampNeg 0)), (nar .char (li.getD (3 : Int32).toNatClampNeg 0)), (nar .char (li.getD (4 : Int32).toNatClampNeg 0))]) w3 w54 w83)])
                by_cases hc411 : (f8_0 ([(nar .char (li.getD (0 : Int32).toNatClampNeg 0)), (nar .char (li.getD (1 : Int32).toNatClampNeg 0)), (nar .char (li.getD (2 : Int32).toNatClampNeg 0)), (nar .char (li.getD (3 : Int32).toNatClampNeg 0)), (nar .char (li.getD (4 : Int32).toNatClampNeg 0))]) w3 w54 w83) = .null
                · have hvf0f1f2f3f4t5_f_t := hvf0f1f2f3f4t5_f.trans (if_pos hc411)
                  refine own_stepW (fun _ => Jvm.RoadKit.acmp (g := (mkF m 411 #[.val (.int i0), .val (.int i1), .val (.int i2), .val (.int i3), .val (.int i4), .val (.ref al5_251), .val (.int il6_251), .val (.int il7_251), .val (.int (5 : Int32)), .val (.ref b107), .val .null] [.null, (f8_0 ([(nar .char (li.getD (0 : Int32).toNatClampNeg 0)), (nar .char (li.getD (1 : Int32).toNatClampNeg 0)), (nar .char (li.getD (2 : Int32).toNatClampNeg 0)), (nar .char (li.getD (3 : Int32).toNatClampNeg 0)), (nar .char (li.getD (4 : Int32).toNatClampNeg 0))]) w3 w54 w83)])) X119 hx rfl (own_f8ref _ _ _ _) rfl (pc0 := 411) (pc' := 414) (same := true) rfl (hb hby at_411) rfl (decide_eq_true hc411) (by decide) (by decide)) ?_
                  show own_EndsW p e below s _ _ _ T119 (mkF m 414 #[.val (.int i0), .val (.int i1), .val (.int i2), .val (.int i3), .val (.int i4), .val (.ref al5_251), .val (.int il6_251), .val (.int il7_251), .val (.int (5 : Int32)), .val (.ref b107), .val .null] [])
                  refine own_stepW (fun _ => XS.iconst X119.here hx rfl (hb hby at_414)) ?_
                  show own_EndsW p e below s _ _ _ T119 (mkF m 415 #[.val (.int i0), .val (.int i1), .val (.int i2), .val (.int i3), .val (.int i4), .val (.ref al5_251), .val (.int il6_251), .val (.int il7_251), .val (.int (5 : Int32)), .val (.ref b107), .val .null] [(.int (1 : Int32))])
                  refine own_stepW (fun _ => XS.goto X119.here hx rfl (pc0 := 415) (pc' := 419) rfl (hb hby at_415) (by decide) (by decide)) ?_
                  show own_EndsW p e below s _ _ _ T119 (mkF m 419 #[.val (.int i0), .val (.int i1), .val (.int i2), .val (.int i3), .val (.int i4), .val (.ref al5_251), .val (.int il6_251), .val (.int il7_251), .val (.int (5 : Int32)), .val (.ref b107), .val .null] [(.int (1 : Int32))])
                  exact own_retNW X119 hS (by rw [hh119]; exact hk) (t := .boolean) hx hret hlk (hb hby at_419) (by decide) (by decide) (by simp) ⟨congrArg (fun z => some (Value.int z)) hvf0f1f2f3f4t5_f_t.symm, N119, trivial⟩
                · have hvf0f1f2f3f4t5_f_f := hvf0f1f2f3f4t5_f.trans (if_neg hc411)
                  refine own_stepW (fun _ => Jvm.RoadKit.acmp (g := (mkF m 411 #[.val (.int i0), .val (.int i1), .val (.int i2), .val (.int i3), .val (.int i4), .val (.ref al5_251), .val (.int il6_251), .val (.int il7_251), .val (.int (5 : Int32)), .val (.ref b107), .val .null] [.null, (f8_0 ([(nar .char (li.getD (0 : Int32).toNatClampNeg 0)), (nar .char (li.getD (1 : Int32).toNatClampNeg 0)), (nar .char (li.getD (2 : Int32).toNatClampNeg 0)), (nar .char (li.getD (3 : Int32).toNatClampNeg 0)), (nar .char (li.getD (4 : Int32).toNatClampNeg 0))]) w3 w54 w83)])) X119 hx rfl (own_f8ref _ _ _ _) rfl (pc0 := 411) (pc' := 418) (same := false) rfl (hb hby at_411) rfl (decide_eq_false hc411) (by decide) (by decide)) ?_
                  show own_EndsW p e below s _ _ _ T119 (mkF m 418 #[.val (.int i0), .val (.int i1), .val (.int i2), .val (.int i3), .val (.int i4), .val (.ref al5_251), .val (.int il6_251), .val (.int il7_251), .val (.int (5 : Int32)), .val (.ref b107), .val .null] [])
                  refine own_stepW (fun _ => XS.iconst X119.here hx rfl (hb hby at_418)) ?_
                  show own_EndsW p e below s _ _ _ T119 (mkF m 419 #[.val (.int i0), .val (.int i1), .val (.int i2), .val (.int i3), .val (.int i4), .val (.ref al5_251), .val (.int il6_251), .val (.int il7_251), .val (.int (5 : Int32)), .val (.ref b107), .val .null] [(.int (0 : Int32))])
                  exact own_retNW X119 hS (by rw [hh119]; exact hk) (t := .boolean) hx hret hlk (hb hby at_419) (by decide) (by decide) (by simp) ⟨congrArg (fun z => some (Value.int z)) hvf0f1f2f3f4t5_f_f.symm, N119, trivial⟩
            · have hvf0f1f2f3f4f5 := hvf0f1f2f3f4.trans (if_neg hN5)
              have hN6 : il8_251 = (6 : Int32) := own_last hn hN0 hN1 hN2 hN3 hN4 hN5
              rw [hN6]
              refine own_stepW (fun _ => XS.aload X0.here hx rfl (hb hby at_251) rfl rfl) ?_
              show own_EndsW p e below s _ _ _ T0 (mkF m 253 #[.val (.int i0), .val (.int i1), .val (.int i2), .val (.int i3), .val (.int i4), .val (.ref al5_251), .val (.int il6_251), .val (.int il7_251), .val (.int (6 : Int32)), .unset, .unset] [(.ref al5_251)])
              refine own_stepW (fun _ => XS.iload X0.here hx rfl (hb hby at_253) rfl) ?_
              show own_EndsW p e below s _ _ _ T0 (mkF m 255 #[.val (.int i0), .val (.int i1), .val (.int i2), .val (.int i3), .val (.int i4), .val (.ref al5_251), .val (.int il6_251), .val (.int il7_251), .val (.int (6 : Int32)), .unset, .unset] [(.int (6 : Int32)), (.ref al5_251)])
              obtain ⟨_, _, ⟨T120, L120, k120, n120⟩, -, X120, ⟨Lc120, hQ120, l120, y120, z120⟩, st120⟩ := Jvm.LawKit.callS X0 hx (y := (⟨"lomwright/lom/PartOfPinLaw", "text", "([CI)Ljava/lang/String;"⟩ : MethodName)) hown (mvT hZ (hw _ (List.mem_of_getElem? (i := 1) rfl))) (mvT hZ (hw _ (List.mem_of_getElem? (i := 2) rfl))) (mvT hZ (hw _ (List.mem_of_getElem? (i := 3) rfl))) (mvT hZ (hw _ (List.mem_of_getElem? (i := 4) rfl))) (by decide) (backOf (W := 0) (rm1_6 l Z a0 hw [] al5_251 ka li G1 h0 n0 Z0 OLD Va O2 P5 hr) hZ (hw _ (List.mem_of_getElem? (i := 4) rfl)) (hw _ (List.mem_of_getElem? (i := 3) rfl)) (by decide) (by decide)) (g := (mkF m 255 #[.val (.int i0), .val (.int i1), .val (.int i2), .val (.int i3), .val (.int i4), .val (.ref al5_251), .val (.int il6_251), .val (.int il7_251), .val (.int (6 : Int32)), .unset, .unset] [(.int (6 : Int32)), (.ref al5_251)])) rfl (by rw [hml]; rfl) (argsL := [(.ref al5_251), (.int (6 : Int32))]) (rest := []) (lenOf pd_3 rfl) rfl (by show 2 * 0 + _ ≤ _; exact Nat.le_of_eq rfl) (hb hby at_255) (fun _ _ => ⟨rfl, e0, (by decide : 1 + 3 ≤ _), (by decide : 6 + 16 ≤ _)⟩)
              dsimp only [Pt.U, Pt.locs, Pt.cells, Pt.slots] at X120 l120 y120 z120 st120 hQ120
              subst l120 y120 z120
              obtain ⟨b120, t120, kb120, rfl, N120q, K120, gE120, gC120, gV120, gA120⟩ := hQ120
              have N120 := Fr.app N0 N120q
              have OLDk120 := OLD.keep K120 all0
              have Zs120 : n0 ≤ T120.heap.size := Nat.le_trans Z0 K120.1
              have hk := Nat.le_trans hk K120.1
              refine own_stepW st120 ?_
              show own_EndsW p e below s _ _ _ T120 (mkF m 258 #[.val (.int i0), .val (.int i1), .val (.int i2), .val (.int i3), .val (.int i4), .val (.ref al5_251), .val (.int il6_251), .val (.int il7_251), .val (.int (6 : Int32)), .unset, .unset] [(.ref b120)])
              refine own_stepW (fun _ => XS.astore X120.here hx rfl (hb hby at_258) rfl rfl (l' := #[.val (.int i0), .val (.int i1), .val (.int i2), .val (.int i3), .val (.int i4), .val (.ref al5_251), .val (.int il6_251), .val (.int il7_251), .val (.int (6 : Int32)), .val (.ref b120), .unset]) rfl) ?_
              show own_EndsW p e below s _ _ _ T120 (mkF m 260 #[.val (.int i0), .val (.int i1), .val (.int i2), .val (.int i3), .val (.int i4), .val (.ref al5_251), .val (.int il6_251), .val (.int il7_251), .val (.int (6 : Int32)), .val (.ref b120), .unset] [])
              refine own_stepW (fun _ => XS.aconstNull X120.here hx rfl (hb hby at_260)) ?_
              show own_EndsW p e below s _ _ _ T120 (mkF m 261 #[.val (.int i0), .val (.int i1), .val (.int i2), .val (.int i3), .val (.int i4), .val (.ref al5_251), .val (.int il6_251), .val (.int il7_251), .val (.int (6 : Int32)), .val (.ref b120), .unset] [.null])
              refine own_stepW (fun _ => XS.astore X120.here hx rfl (hb hby at_261) rfl rfl (l' := #[.val (.int i0), .val (.int i1), .val (.int i2), .val (.int i3), .val (.int i4), .val (.ref al5_251), .val (.int il6_251), .val (.int il7_251), .val (.int (6 : Int32)), .val (.ref b120), .val .null]) rfl) ?_
              show own_EndsW p e below s _ _ _ T120 (mkF m 263 #[.val (.int i0), .val (.int i1), .val (.int i2), .val (.int i3), .val (.int i4), .val (.ref al5_251), .val (.int il6_251), .val (.int il7_251), .val (.int (6 : Int32)), .val (.ref b120), .val .null] [])
              refine own_stepW (fun _ => XS.iload X120.here hx rfl (hb hby at_263) rfl) ?_
              show own_EndsW p e below s _ _ _ T120 (mkF m 265 #[.val (.int i0), .val (.int i1), .val (.int i2), .val (.int i3), .val (.int i4), .val (.ref al5_251), .val (.int il6_251), .val (.int il7_251), .val (.int (6 : Int32)), .val (.ref b120), .val .null] [(.int (6 : Int32))])
              refine own_stepW (fun _ => XS.iconst X120.here hx rfl (hb hby at_265)) ?_
              show own_EndsW p e below s _ _ _ T120 (mkF m 266 #[.val (.int i0), .val (.int i1), .val (.int i2), .val (.int i3), .val (.int i4), .val (.ref al5_251), .val (.int il6_251), .val (.int il7_251), .val (.int (6 : Int32)), .val (.ref b120), .val .null] [(.int (4 : Int32)), (.int (6 : Int32))])
              refine own_stepW (fun _ => XS.icmpYes X120.here hx rfl (pc0 := 266) (pc' := 310) rfl (hb hby at_266) rfl (feq (show ¬ ((6 : Int32) = (4 : Int32)) from (by decide))).2 (by decide) (by decide)) ?_
              show own_EndsW p e below s _ _ _ T120 (mkF m 310 #[.val (.int i0), .val (.int i1), .val (.int i2), .val (.int i3), .val (.int i4), .val (.ref al5_251), .val (.int il6_251), .val (.int il7_251), .val (.int (6 : Int32)), .val (.ref b120), .val .null] [])
              refine own_stepW (fun _ => XS.iload X120.here hx rfl (hb hby at_310) rfl) ?_
              show own_EndsW p e below s _ _ _ T120 (mkF m 312 #[.val (.int i0), .val (.int i1), .val (.int i2), .val (.int i3), .val (.int i4), .val (.ref al5_251), .val (.int il6_251), .val (.int il7_251), .val (.int (6 : Int32)), .val (.ref b120), .val .null] [(.int (6 : Int32))])
              refine own_stepW (fun _ => XS.iconst X120.here hx rfl (hb hby at_312)) ?_
              show own_EndsW p e below s _ _ _ T120 (mkF m 313 #[.val (.int i0), .val (.int i1), .val (.int i2), .val (.int i3), .val (.int i4), .val (.ref al5_251), .val (.int il6_251), .val (.int il7_251), .val (.int (6 : Int32)), .val (.ref b120), .val .null] [(.int (3 : Int32)), (.int (6 : Int32))])
              refine own_stepW (fun _ => XS.icmpYes X120.here hx rfl (pc0 := 313) (pc' := 348) rfl (hb hby at_313) rfl (feq (show ¬ ((6 : Int32) = (3 : Int32)) from (by decide))).2 (by decide) (by decide)) ?_
              show own_EndsW p e below s _ _ _ T120 (mkF m 348 #[.val (.int i0), .val (.int i1), .val (.int i2), .val (.int i3), .val (.int i4), .val (.ref al5_251), .val (.int il6_251), .val (.int il7_251), .val (.int (6 : Int32)), .val (.ref b120), .val .null] [])
              refine own_stepW (fun _ => XS.iload X120.here hx rfl (hb hby at_348) rfl) ?_
              show own_EndsW p e below s _ _ _ T120 (mkF m 350 #[.val (.int i0), .val (.int i1), .val (.int i2), .val (.int i3), .val (.int i4), .val (.ref al5_251), .val (.int il6_251), .val (.int il7_251), .val (.int (6 : Int32)), .val (.ref b120), .val .null] [(.int (6 : Int32))])
              refine own_stepW (fun _ => XS.iconst X120.here hx rfl (hb hby at_350)) ?_
              show own_EndsW p e below s _ _ _ T120 (mkF m 351 #[.val (.int i0), .val (.int i1), .val (.int i2), .val (.int i3), .val (.int i4), .val (.ref al5_251), .val (.int il6_251), .val (.int il7_251), .val (.int (6 : Int32)), .val (.ref b120), .val .null] [(.int (5 : Int32)), (.int (6 : Int32))])
              refine own_stepW (fun _ => XS.icmpYes X120.here hx rfl (pc0 := 351) (pc' := 404) rfl (hb hby at_351) rfl (feq (show ¬ ((6 : Int32) = (5 : Int32)) from (by decide))).2 (by decide) (by decide)) ?_
              show own_EndsW p e below s _ _ _ T120 (mkF m 404 #[.val (.int i0), .val (.int i1), .val (.int i2), .val (.int i3), .val (.int i4), .val (.ref al5_251), .val (.int il6_251), .val (.int il7_251), .val (.int (6 : Int32)), .val (.ref b120), .val .null] [])
              refine own_stepW (fun _ => XS.aload X120.here hx rfl (hb hby at_404) rfl rfl) ?_
              show own_EndsW p e below s _ _ _ T120 (mkF m 406 #[.val (.int i0), .val (.int i1), .val (.int i2), .val (.int i3), .val (.int i4), .val (.ref al5_251), .val (.int il6_251), .val (.int il7_251), .val (.int (6 : Int32)), .val (.ref b120), .val .null] [(.ref b120)])
              have hp121 : ∀ c ∈ ([(nar .char (li.getD (0 : Int32).toNatClampNeg 0)), (nar .char (li.getD (1 : Int32).toNatClampNeg 0)), (nar .char (li.getD (2 : Int32).toNatClampNeg 0)), (nar .char (li.getD (3 : Int32).toNatClampNeg 0)), (nar .char (li.getD (4 : Int32).toNatClampNeg 0)), (nar .char (li.getD (5 : Int32).toNatClampNeg 0))] : List Int32), own_R c := (own_lc (own_rn hr _) (own_lc (own_rn hr _) (own_lc (own_rn hr _) (own_lc (own_rn hr _) (own_lc (own_rn hr _) (own_lc (own_rn hr _) own_ln))))))
              obtain ⟨_, _, ⟨T121, L121, k121, n121⟩, -, X121, ⟨Lc121, hQ121, l121, y121, z121⟩, st121⟩ := Jvm.LawKit.callS X120 hx (y := (⟨"lomwright/lom/Entity$Part", "of", "(Ljava/lang/String;)Llomwright/lom/Entity$Part;"⟩ : MethodName)) hown (mvT hZ (hw _ (List.mem_of_getElem? (i := 37) rfl))) (mvT hZ (hw _ (List.mem_of_getElem? (i := 38) rfl))) (mvT hZ (hw _ (List.mem_of_getElem? (i := 35) rfl))) (mvT hZ (hw _ (List.mem_of_getElem? (i := 39) rfl))) (by decide) (backOf (W := 0) (rm8 l Z a0 hw [] b120 t120 kb120 ([(nar .char (li.getD (0 : Int32).toNatClampNeg 0)), (nar .char (li.getD (1 : Int32).toNatClampNeg 0)), (nar .char (li.getD (2 : Int32).toNatClampNeg 0)), (nar .char (li.getD (3 : Int32).toNatClampNeg 0)), (nar .char (li.getD (4 : Int32).toNatClampNeg 0)), (nar .char (li.getD (5 : Int32).toNatClampNeg 0))]) (6 : Int32) G1 w3 w54 w83 w9 w22 w63 w92 w32 w73 w102 k_w9 k_w32 k_w73 k_w102 T120.heap n0 Zs120 OLDk120 gE120 gC120 gV120 gA120 O2 P5 (StrChars.Road.codOf (n := 6) rfl (fun c hc => (hp121 c hc).2)) (own_up hp121) (Nat.le_of_ble_eq_true rfl) bSNAME bSORG bSEMAIL bSALL bE0 bX0 bC0 bV0 bE1 bX1 bC1 bV1 bE2 bX2 bC2 bV2 bA0 bA1 bA2 bA3) hZ (hw _ (List.mem_of_getElem? (i := 39) rfl)) (hw _ (List.mem_of_getElem? (i := 35) rfl)) (by decide) (by decide)) (g := (mkF m 406 #[.val (.int i0), .val (.int i1), .val (.int i2), .val (.int i3), .val (.int i4), .val (.ref al5_251), .val (.int il6_251), .val (.int il7_251), .val (.int (6 : Int32)), .val (.ref b120), .val .null] [(.ref b120)])) rfl (by rw [hml]; rfl) (argsL := [(.ref b120)]) (rest := []) (lenOf pd_4 rfl) rfl (by show 2 * 0 + _ ≤ _; exact Nat.le_of_eq rfl) (hb hby at_406) (fun _ _ => ⟨rfl, rfl, (by decide : 4 + 0 ≤ _), (by decide : 22 + 0 ≤ _)⟩)
              dsimp only [Pt.U, Pt.locs, Pt.cells, Pt.slots] at X121 l121 y121 z121 st121 hQ121
              subst l121 y121 z121
              obtain ⟨rfl, N121q, hh121⟩ := hQ121
              have N121 := Fr.app N120 N121q
              refine own_stepW st121 ?_
              show own_EndsW p e below s _ _ _ T121 (mkF m 409 #[.val (.int i0), .val (.int i1), .val (.int i2), .val (.int i3), .val (.int i4), .val (.ref al5_251), .val (.int il6_251), .val (.int il7_251), .val (.int (6 : Int32)), .val (.ref b120), .val .null] [(f8_0 ([(nar .char (li.getD (0 : Int32).toNatClampNeg 0)), (nar .char (li.getD (1 : Int32).toNatClampNeg 0)), (nar .char (li.getD (2 : Int32).toNatClampNeg 0)), (nar .char (li.getD (3 : Int32).toNatClampNeg 0)), (nar .char (li.getD (4 : Int32).toNatClampNeg 0)), (nar .char (li.getD (5 : Int32).toNatClampNeg 0))]) w3 w54 w83)])
              refine own_stepW (fun _ => XS.aload X121.here hx rfl (hb hby at_409) rfl rfl) ?_
              show own_EndsW p e below s _ _ _ T121 (mkF m 411 #[.val (.int i0), .val (.int i1), .val (.int i2), .val (.int i3), .val (.int i4), .val (.ref al5_251), .val (.int il6_251), .val (.int il7_251), .val (.int (6 : Int32)), .val (.ref b120), .val .null] [.null, (f8_0 ([(nar .char (li.getD (0 : Int32).toNatClampNeg 0)), (nar .char (li.getD (1 : Int32).toNatClampNeg 0)), (nar .char (li.getD (2 : Int32).toNatClampNeg 0)), (nar .char (li.getD (3 : Int32).toNatClampNeg 0)), (nar .char (li.getD (4 : Int32).toNatClampNeg 0)), (nar .char (li.getD (5 : Int32).toNatClampNeg 0))]) w3 w54 w83)])
              by_cases hc411 : (f8_0 ([(nar .char (li.getD (0 : Int32).toNatClampNeg 0)), (nar .char (li.getD (1 : Int32).toNatClampNeg 0)), (nar .char (li.getD (2 : Int32).toNatClampNeg 0)), (nar .char (li.getD (3 : Int32).toNatClampNeg 0)), (nar .char (li.getD (4 : Int32).toNatClampNeg 0)), (nar .char (li.getD (5 : Int32).toNatClampNeg 0))]) w3 w54 w83) = .null
              · have hvf0f1f2f3f4f5_t := hvf0f1f2f3f4f5.trans (if_pos hc411)
                refine own_stepW (fun _ => Jvm.RoadKit.acmp (g := (mkF m 411 #[.val (.int i0), .val (.int i1), .val (.int i2), .val (.int i3), .val (.int i4), .val (.ref al5_251), .val (.int il6_251), .val (.int il7_251), .val (.int (6 : Int32)), .val (.ref b120), .val .null] [.null, (f8_0 ([(nar .char (li.getD (0 : Int32).toNatClampNeg 0)), (nar .char (li.getD (1 : Int32).toNatClampNeg 0)), (nar .char (li.getD (2 : Int32).toNatClampNeg 0)), (nar .char (li.getD (3 : Int32).toNatClampNeg 0)), (nar .char (li.getD (4 : Int32).toNatClampNeg 0)), (nar .char (li.getD (5 : Int32).toNatClampNeg 0))]) w3 w54 w83)])) X121 hx rfl (own_f8ref _ _ _ _) rfl (pc0 := 411) (pc' := 414) (same := true) rfl (hb hby at_411) rfl (decide_eq_true hc411) (by decide) (by decide)) ?_
                show own_EndsW p e below s _ _ _ T121 (mkF m 414 #[.val (.int i0), .val (.int i1), .val (.int i2), .val (.int i3), .val (.int i4), .val (.ref al5_251), .val (.int il6_251), .val (.int il7_251), .val (.int (6 : Int32)), .val (.ref b120), .val .null] [])
                refine own_stepW (fun _ => XS.iconst X121.here hx rfl (hb hby at_414)) ?_
                show own_EndsW p e below s _ _ _ T121 (mkF m 415 #[.val (.int i0), .val (.int i1), .val (.int i2), .val (.int i3), .val (.int i4), .val (.ref al5_251), .val (.int il6_251), .val (.int il7_251), .val (.int (6 : Int32)), .val (.ref b120), .val .null] [(.int (1 : Int32))])
                refine own_stepW (fun _ => XS.goto X121.here hx rfl (pc0 := 415) (pc' := 419) rfl (hb hby at_415) (by decide) (by decide)) ?_
                show own_EndsW p e below s _ _ _ T121 (mkF m 419 #[.val (.int i0), .val (.int i1), .val (.int i2), .val (.int i3), .val (.int i4), .val (.ref al5_251), .val (.int il6_251), .val (.int il7_251), .val (.int (6 : Int32)), .val (.ref b120), .val .null] [(.int (1 : Int32))])
                exact own_retNW X121 hS (by rw [hh121]; exact hk) (t := .boolean) hx hret hlk (hb hby at_419) (by decide) (by decide) (by simp) ⟨congrArg (fun z => some (Value.int z)) hvf0f1f2f3f4f5_t.symm, N121, trivial⟩
              · have hvf0f1f2f3f4f5_f := hvf0f1f2f3f4f5.trans (if_neg hc411)
                refine own_stepW (fun _ => Jvm.RoadKit.acmp (g := (mkF m 411 #[.val (.int i0), .val (.int i1), .val (.int i2), .val (.int i3), .val (.int i4), .val (.ref al5_251), .val (.int il6_251), .val (.int il7_251), .val (.int (6 : Int32)), .val (.ref b120), .val .null] [.null, (f8_0 ([(nar .char (li.getD (0 : Int32).toNatClampNeg 0)), (nar .char (li.getD (1 : Int32).toNatClampNeg 0)), (nar .char (li.getD (2 : Int32).toNatClampNeg 0)), (nar .char (li.getD (3 : Int32).toNatClampNeg 0)), (nar .char (li.getD (4 : Int32).toNatClampNeg 0)), (nar .char (li.getD (5 : Int32).toNatClampNeg 0))]) w3 w54 w83)])) X121 hx rfl (own_f8ref _ _ _ _) rfl (pc0 := 411) (pc' := 418) (same := false) rfl (hb hby at_411) rfl (decide_eq_false hc411) (by decide) (by decide)) ?_
                show own_EndsW p e below s _ _ _ T121 (mkF m 418 #[.val (.int i0), .val (.int i1), .val (.int i2), .val (.int i3), .val (.int i4), .val (.ref al5_251), .val (.int il6_251), .val (.int il7_251), .val (.int (6 : Int32)), .val (.ref b120), .val .null] [])
                refine own_stepW (fun _ => XS.iconst X121.here hx rfl (hb hby at_418)) ?_
                show own_EndsW p e below s _ _ _ T121 (mkF m 419 #[.val (.int i0), .val (.int i1), .val (.int i2), .val (.int i3), .val (.int i4), .val (.ref al5_251), .val (.int il6_251), .val (.int il7_251), .val (.int (6 : Int32)), .val (.ref b120), .val .null] [(.int (0 : Int32))])
                exact own_retNW X121 hS (by rw [hh121]; exact hk) (t := .boolean) hx hret hlk (hb hby at_419) (by decide) (by decide) (by simp) ⟨congrArg (fun z => some (Value.int z)) hvf0f1f2f3f4f5_f.symm, N121, trivial⟩
def f0_0 (i0 : Int32) (i1 : Int32) (i2 : Int32) (i3 : Int32) (i4 : Int32) (w3 : Addr) (w54 : Addr) (w83 : Addr) : Int32 := (if (i0 &&& (64 : Int32)) = (0 : Int32) then (if (i0 &&& (3 : Int32)) = (0 : Int32) then (if (i0 &&& (4 : Int32)) = (0 : Int32) then (f0_251 i0 i1 i2 i3 i4 w3 w54 w83 (4 : Int32) [(nar .char (110 : Int32)), (nar .char (97 : Int32)), (nar .char (109 : Int32)), (nar .char (101 : Int32)), (nar .char ((i4 &&& (255 : Int32)).toUInt32.toUInt16.toUInt32.toInt32)), (nar .char ((((i4.toUInt32 >>> ((8 : Int32) &&& 31).toUInt32).toInt32) &&& (255 : Int32)).toUInt32.toUInt16.toUInt32.toInt32))]) else (f0_251 i0 i1 i2 i3 i4 w3 w54 w83 (4 : Int32) (own_set [(nar .char (110 : Int32)), (nar .char (97 : Int32)), (nar .char (109 : Int32)), (nar .char (101 : Int32)), (nar .char ((i4 &&& (255 : Int32)).toUInt32.toUInt16.toUInt32.toInt32)), (nar .char ((((i4.toUInt32 >>> ((8 : Int32) &&& 31).toUInt32).toInt32) &&& (255 : Int32)).toUInt32.toUInt16.toUInt32.toInt32))] ((i1 &&& (2147483647 : Int32)) % (6 : Int32)) ((i2 &&& (255 : Int32)).toUInt32.toUInt16.toUInt32.toInt32)))) else (if (i0 &&& (3 : Int32)) = (1 : Int32) then (if (i0 &&& (4 : Int32)) = (0 : Int32) then (f0_251 i0 i1 i2 i3 i4 w3 w54 w83 (3 : Int32) [(nar .char (111 : Int32)), (nar .char (114 : Int32)), (nar .char (103 : Int32)), (nar .char ((((i3.toUInt32 >>> ((24 : Int32) &&& 31).toUInt32).toInt32) &&& (255 : Int32)).toUInt32.toUInt16.toUInt32.toInt32)), (nar .char ((i4 &&& (255 : Int32)).toUInt32.toUInt16.toUInt32.toInt32)), (nar .char ((((i4.toUInt32 >>> ((8 : Int32) &&& 31).toUInt32).toInt32) &&& (255 : Int32)).toUInt32.toUInt16.toUInt32.toInt32))]) else (f0_251 i0 i1 i2 i3 i4 w3 w54 w83 (3 : Int32) (own_set [(nar .char (111 : Int32)), (nar .char (114 : Int32)), (nar .char (103 : Int32)), (nar .char ((((i3.toUInt32 >>> ((24 : Int32) &&& 31).toUInt32).toInt32) &&& (255 : Int32)).toUInt32.toUInt16.toUInt32.toInt32)), (nar .char ((i4 &&& (255 : Int32)).toUInt32.toUInt16.toUInt32.toInt32)), (nar .char ((((i4.toUInt32 >>> ((8 : Int32) &&& 31).toUInt32).toInt32) &&& (255 : Int32)).toUInt32.toUInt16.toUInt32.toInt32))] ((i1 &&& (2147483647 : Int32)) % (6 : Int32)) ((i2 &&& (255 : Int32)).toUInt32.toUInt16.toUInt32.toInt32)))) else (if (i0 &&& (3 : Int32)) = (2 : Int32) then (if (i0 &&& (4 : Int32)) = (0 : Int32) then (f0_251 i0 i1 i2 i3 i4 w3 w54 w83 (5 : Int32) [(nar .char (101 : Int32)), (nar .char (109 : Int32)), (nar .char (97 : Int32)), (nar .char (105 : Int32)), (nar .char (108 : Int32)), (nar .char ((((i4.toUInt32 >>> ((8 : Int32) &&& 31).toUInt32).toInt32) &&& (255 : Int32)).toUInt32.toUInt16.toUInt32.toInt32))]) else (f0_251 i0 i1 i2 i3 i4 w3 w54 w83 (5 : Int32) (own_set [(nar .char (101 : Int32)), (nar .char (109 : Int32)), (nar .char (97 : Int32)), (nar .char (105 : Int32)), (nar .char (108 : Int32)), (nar .char ((((i4.toUInt32 >>> ((8 : Int32) &&& 31).toUInt32).toInt32) &&& (255 : Int32)).toUInt32.toUInt16.toUInt32.toInt32))] ((i1 &&& (2147483647 : Int32)) % (6 : Int32)) ((i2 &&& (255 : Int32)).toUInt32.toUInt16.toUInt32.toInt32)))) else (if (i0 &&& (4 : Int32)) = (0 : Int32) then (f0_251 i0 i1 i2 i3 i4 w3 w54 w83 ((((i0.toUInt32 >>> ((3 : Int32) &&& 31).toUInt32).toInt32) &&& (7 : Int32)) % (7 : Int32)) [(nar .char ((i3 &&& (255 : Int32)).toUInt32.toUInt16.toUInt32.toInt32)), (nar .char ((((i3.toUInt32 >>> ((8 : Int32) &&& 31).toUInt32).toInt32) &&& (255 : Int32)).toUInt32.toUInt16.toUInt32.toInt32)), (nar .char ((((i3.toUInt32 >>> ((16 : Int32) &&& 31).toUInt32).toInt32) &&& (255 : Int32)).toUInt32.toUInt16.toUInt32.toInt32)), (nar .char ((((i3.toUInt32 >>> ((24 : Int32) &&& 31).toUInt32).toInt32) &&& (255 : Int32)).toUInt32.toUInt16.toUInt32.toInt32)), (nar .char ((i4 &&& (255 : Int32)).toUInt32.toUInt16.toUInt32.toInt32)), (nar .char ((((i4.toUInt32 >>> ((8 : Int32) &&& 31).toUInt32).toInt32) &&& (255 : Int32)).toUInt32.toUInt16.toUInt32.toInt32))]) else (f0_251 i0 i1 i2 i3 i4 w3 w54 w83 ((((i0.toUInt32 >>> ((3 : Int32) &&& 31).toUInt32).toInt32) &&& (7 : Int32)) % (7 : Int32)) (own_set [(nar .char ((i3 &&& (255 : Int32)).toUInt32.toUInt16.toUInt32.toInt32)), (nar .char ((((i3.toUInt32 >>> ((8 : Int32) &&& 31).toUInt32).toInt32) &&& (255 : Int32)).toUInt32.toUInt16.toUInt32.toInt32)), (nar .char ((((i3.toUInt32 >>> ((16 : Int32) &&& 31).toUInt32).toInt32) &&& (255 : Int32)).toUInt32.toUInt16.toUInt32.toInt32)), (nar .char ((((i3.toUInt32 >>> ((24 : Int32) &&& 31).toUInt32).toInt32) &&& (255 : Int32)).toUInt32.toUInt16.toUInt32.toInt32)), (nar .char ((i4 &&& (255 : Int32)).toUInt32.toUInt16.toUInt32.toInt32)), (nar .char ((((i4.toUInt32 >>> ((8 : Int32) &&& 31).toUInt32).toInt32) &&& (255 : Int32)).toUInt32.toUInt16.toUInt32.toInt32))] ((i1 &&& (2147483647 : Int32)) % (6 : Int32)) ((i2 &&& (255 : Int32)).toUInt32.toUInt16.toUInt32.toInt32))))))) else (if (i0 &&& (3 : Int32)) = (0 : Int32) then (if (i0 &&& (4 : Int32)) = (0 : Int32) then (f0_251 i0 i1 i2 i3 i4 w3 w54 w83 ((((i0.toUInt32 >>> ((3 : Int32) &&& 31).toUInt32).toInt32) &&& (7 : Int32)) % (7 : Int32)) [(nar .char (110 : Int32)), (nar .char (97 : Int32)), (nar .char (109 : Int32)), (nar .char (101 : Int32)), (nar .char ((i4 &&& (255 : Int32)).toUInt32.toUInt16.toUInt32.toInt32)), (nar .char ((((i4.toUInt32 >>> ((8 : Int32) &&& 31).toUInt32).toInt32) &&& (255 : Int32)).toUInt32.toUInt16.toUInt32.toInt32))]) else (f0_251 i0 i1 i2 i3 i4 w3 w54 w83 ((((i0.toUInt32 >>> ((3 : Int32) &&& 31).toUInt32).toInt32) &&& (7 : Int32)) % (7 : Int32)) (own_set [(nar .char (110 : Int32)), (nar .char (97 : Int32)), (nar .char (109 : Int32)), (nar .char (101 : Int32)), (nar .char ((i4 &&& (255 : Int32)).toUInt32.toUInt16.toUInt32.toInt32)), (nar .char ((((i4.toUInt32 >>> ((8 : Int32) &&& 31).toUInt32).toInt32) &&& (255 : Int32)).toUInt32.toUInt16.toUInt32.toInt32))] ((i1 &&& (2147483647 : Int32)) % (6 : Int32)) ((i2 &&& (255 : Int32)).toUInt32.toUInt16.toUInt32.toInt32)))) else (if (i0 &&& (3 : Int32)) = (1 : Int32) then (if (i0 &&& (4 : Int32)) = (0 : Int32) then (f0_251 i0 i1 i2 i3 i4 w3 w54 w83 ((((i0.toUInt32 >>> ((3 : Int32) &&& 31).toUInt32).toInt32) &&& (7 : Int32)) % (7 : Int32)) [(nar .char (111 : Int32)), (nar .char (114 : Int32)), (nar .char (103 : Int32)), (nar .char ((((i3.toUInt32 >>> ((24 : Int32) &&& 31).toUInt32).toInt32) &&& (255 : Int32)).toUInt32.toUInt16.toUInt32.toInt32)), (nar .char ((i4 &&& (255 : Int32)).toUInt32.toUInt16.toUInt32.toInt32)), (nar .char ((((i4.toUInt32 >>> ((8 : Int32) &&& 31).toUInt32).toInt32) &&& (255 : Int32)).toUInt32.toUInt16.toUInt32.toInt32))]) else (f0_251 i0 i1 i2 i3 i4 w3 w54 w83 ((((i0.toUInt32 >>> ((3 : Int32) &&& 31).toUInt32).toInt32) &&& (7 : Int32)) % (7 : Int32)) (own_set [(nar .char (111 : Int32)), (nar .char (114 : Int32)), (nar .char (103 : Int32)), (nar .char ((((i3.toUInt32 >>> ((24 : Int32) &&& 31).toUInt32).toInt32) &&& (255 : Int32)).toUInt32.toUInt16.toUInt32.toInt32)), (nar .char ((i4 &&& (255 : Int32)).toUInt32.toUInt16.toUInt32.toInt32)), (nar .char ((((i4.toUInt32 >>> ((8 : Int32) &&& 31).toUInt32).toInt32) &&& (255 : Int32)).toUInt32.toUInt16.toUInt32.toInt32))] ((i1 &&& (2147483647 : Int32)) % (6 : Int32)) ((i2 &&& (255 : Int32)).toUInt32.toUInt16.toUInt32.toInt32)))) else (if (i0 &&& (3 : Int32)) = (2 : Int32) then (if (i0 &&& (4 : Int32)) = (0 : Int32) then (f0_251 i0 i1 i2 i3 i4 w3 w54 w83 ((((i0.toUInt32 >>> ((3 : Int32) &&& 31).toUInt32).toInt32) &&& (7 : Int32)) % (7 : Int32)) [(nar .char (101 : Int32)), (nar .char (109 : Int32)), (nar .char (97 : Int32)), (nar .char (105 : Int32)), (nar .char (108 : Int32)), (nar .char ((((i4.toUInt32 >>> ((8 : Int32) &&& 31).toUInt32).toInt32) &&& (255 : Int32)).toUInt32.toUInt16.toUInt32.toInt32))]) else (f0_251 i0 i1 i2 i3 i4 w3 w54 w83 ((((i0.toUInt32 >>> ((3 : Int32) &&& 31).toUInt32).toInt32) &&& (7 : Int32)) % (7 : Int32)) (own_set [(nar .char (101 : Int32)), (nar .char (109 : Int32)), (nar .char (97 : Int32)), (nar .char (105 : Int32)), (nar .char (108 : Int32)), (nar .char ((((i4.toUInt32 >>> ((8 : Int32) &&& 31).toUInt32).toInt32) &&& (255 : Int32)).toUInt32.toUInt16.toUInt32.toInt32))] ((i1 &&& (2147483647 : Int32)) % (6 : Int32)) ((i2 &&& (255 : Int32)).toUInt32.toUInt16.toUInt32.toInt32)))) else (if (i0 &&& (4 : Int32)) = (0 : Int32) then (f0_251 i0 i1 i2 i3 i4 w3 w54 w83 ((((i0.toUInt32 >>> ((3 : Int32) &&& 31).toUInt32).toInt32) &&& (7 : Int32)) % (7 : Int32)) [(nar .char ((i3 &&& (255 : Int32)).toUInt32.toUInt16.toUInt32.toInt32)), (nar .char ((((i3.toUInt32 >>> ((8 : Int32) &&& 31).toUInt32).toInt32) &&& (255 : Int32)).toUInt32.toUInt16.toUInt32.toInt32)), (nar .char ((((i3.toUInt32 >>> ((16 : Int32) &&& 31).toUInt32).toInt32) &&& (255 : Int32)).toUInt32.toUInt16.toUInt32.toInt32)), (nar .char ((((i3.toUInt32 >>> ((24 : Int32) &&& 31).toUInt32).toInt32) &&& (255 : Int32)).toUInt32.toUInt16.toUInt32.toInt32)), (nar .char ((i4 &&& (255 : Int32)).toUInt32.toUInt16.toUInt32.toInt32)), (nar .char ((((i4.toUInt32 >>> ((8 : Int32) &&& 31).toUInt32).toInt32) &&& (255 : Int32)).toUInt32.toUInt16.toUInt32.toInt32))]) else (f0_251 i0 i1 i2 i3 i4 w3 w54 w83 ((((i0.toUInt32 >>> ((3 : Int32) &&& 31).toUInt32).toInt32) &&& (7 : Int32)) % (7 : Int32)) (own_set [(nar .char ((i3 &&& (255 : Int32)).toUInt32.toUInt16.toUInt32.toInt32)), (nar .char ((((i3.toUInt32 >>> ((8 : Int32) &&& 31).toUInt32).toInt32) &&& (255 : Int32)).toUInt32.toUInt16.toUInt32.toInt32)), (nar .char ((((i3.toUInt32 >>> ((16 : Int32) &&& 31).toUInt32).toInt32) &&& (255 : Int32)).toUInt32.toUInt16.toUInt32.toInt32)), (nar .char ((((i3.toUInt32 >>> ((24 : Int32) &&& 31).toUInt32).toInt32) &&& (255 : Int32)).toUInt32.toUInt16.toUInt32.toInt32)), (nar .char ((i4 &&& (255 : Int32)).toUInt32.toUInt16.toUInt32.toInt32)), (nar .char ((((i4.toUInt32 >>> ((8 : Int32) &&& 31).toUInt32).toInt32) &&& (255 : Int32)).toUInt32.toUInt16.toUInt32.toInt32))] ((i1 &&& (2147483647 : Int32)) % (6 : Int32)) ((i2 &&& (255 : Int32)).toUInt32.toUInt16.toUInt32.toInt32))))))))
set_option maxRecDepth 65536 in
set_option maxHeartbeats 40000000 in
theorem b0_0 {p : Program} {l : Launch} {e : Env} {s : State} {m : MethodId} {args : Array Value} {below : List Frame} {meth : Method} {c : Code} {Z : State} {a0 : Array Value} {h0 : Heap} {n0 : Nat} {vm0 : Vm} {k0 : Nat} (C : own_C "lomwright/lom/PartOfPinLaw" code maxLocals ret x.name p (s.setVm vm0) m meth c Z a0) (Z0 : n0 ≤ h0.size) (hS : s.Since vm0 k0) (hk : k0 ≤ h0.size) {T0 : State} {locs : List Loc} (X0 : Stand p l e room_1 (s.setVm vm0) m args below meth c T0 locs 0 0) (e0 : T0.heap = h0) (N0 : Fr n0 locs) (i0 : Int32) (i1 : Int32) (i2 : Int32) (i3 : Int32) (i4 : Int32) (G1 : Int32) (w3 : Addr) (w54 : Addr) (w83 : Addr) (w9 : Addr) (w22 : Addr) (w63 : Addr) (w92 : Addr) (w32 : Addr) (w73 : Addr) (w102 : Addr) (k_w9 : ClassId) (k_w32 : ClassId) (k_w73 : ClassId) (k_w102 : ClassId) (OLD : Old Z n0 h0) (O2 : Sta Z Z.heap "java/lang/String" "COMPACT_STRINGS" "Z" (.int G1)) (P5 : ¬ (G1 = (0 : Int32))) (bSNAME : Sta Z Z.heap "lomwright/lom/Entity$Part" "NAME" "Llomwright/lom/Entity$Part;" (.ref w3)) (bSORG : Sta Z Z.heap "lomwright/lom/Entity$Part" "ORG" "Llomwright/lom/Entity$Part;" (.ref w54)) (bSEMAIL : Sta Z Z.heap "lomwright/lom/Entity$Part" "EMAIL" "Llomwright/lom/Entity$Part;" (.ref w83)) (bSALL : Sta Z Z.heap "lomwright/lom/Entity$Part" "ALL" "[Llomwright/lom/Entity$Part;" (.ref w9)) (bE0 : Fld Z Z.heap w3 "lomwright/lom/Entity$Part" "element" "Ljava/lang/String;" (.ref w22)) (bX0 : Exa Z Z.heap w22 "java/lang/String") (bC0 : Fld Z Z.heap w22 "java/lang/String" "coder" "B" (.int (0 : Int32))) (bV0 : Fld Z Z.heap w22 "java/lang/String" "value" "[B" (.ref w32)) (bE1 : Fld Z Z.heap w54 "lomwright/lom/Entity$Part" "element" "Ljava/lang/String;" (.ref w63)) (bX1 : Exa Z Z.heap w63 "java/lang/String") (bC1 : Fld Z Z.heap w63 "java/lang/String" "coder" "B" (.int (0 : Int32))) (bV1 : Fld Z Z.heap w63 "java/lang/String" "value" "[B" (.ref w73)) (bE2 : Fld Z Z.heap w83 "lomwright/lom/Entity$Part" "element" "Ljava/lang/String;" (.ref w92)) (bX2 : Exa Z Z.heap w92 "java/lang/String") (bC2 : Fld Z Z.heap w92 "java/lang/String" "coder" "B" (.int (0 : Int32))) (bV2 : Fld Z Z.heap w92 "java/lang/String" "value" "[B" (.ref w102)) (bA0 : Arv Z Z.heap w9 k_w9 (.object "lomwright/lom/Entity$Part") (3 : Int32) [(.ref w3), (.ref w54), (.ref w83)] .null) (bA1 : Arv Z Z.heap w32 k_w32 .byte (4 : Int32) [(.int (110 : Int32)), (.int (97 : Int32)), (.int (109 : Int32)), (.int (101 : Int32))] (.int 0)) (bA2 : Arv Z Z.heap w73 k_w73 .byte (3 : Int32) [(.int (111 : Int32)), (.int (114 : Int32)), (.int (103 : Int32))] (.int 0)) (bA3 : Arv Z Z.heap w102 k_w102 .byte (5 : Int32) [(.int (101 : Int32)), (.int (109 : Int32)), (.int (97 : Int32)), (.int (105 : Int32)), (.int (108 : Int32))] (.int 0)) (CHZ : CHv Z own_EL vm0 Z.heap) (W : Int32) (hv : W = f0_0 i0 i1 i2 i3 i4 w3 w54 w83) :
    own_EndsW p e below s room_1.cells room_1.slots (own_QL n0 (some (.int W))) T0 (mkF m 0 #[.val (.int i0), .val (.int i1), .val (.int i2), .val (.int i3), .val (.int i4), .unset, .unset, .unset, .unset, .unset, .unset] []) := by
  obtain ⟨hx, hZ, hw, hby, hml, hown, hret, hlk, hnm⟩ := C
  have C : own_C "lomwright/lom/PartOfPinLaw" code maxLocals ret x.name p (s.setVm vm0) m meth c Z a0 := ⟨hx, hZ, hw, hby, hml, hown, hret, hlk, hnm⟩
  unfold f0_0 at hv
  refine own_stepW (fun _ => XS.bipush X0.here hx rfl (hb hby at_0)) ?_
  show own_EndsW p e below s _ _ _ T0 (mkF m 2 #[.val (.int i0), .val (.int i1), .val (.int i2), .val (.int i3), .val (.int i4), .unset, .unset, .unset, .unset, .unset, .unset] [(.int (6 : Int32))])
  obtain ⟨T122, h122, k122, X122, e122, E122, A122, st122⟩ := newP X0 hx hZ (hw _ (List.mem_of_getElem? (i := 0) rfl)) e0 (g := (mkF m 2 #[.val (.int i0), .val (.int i1), .val (.int i2), .val (.int i3), .val (.int i4), .unset, .unset, .unset, .unset, .unset, .unset] [(.int (6 : Int32))])) rfl (hb hby at_2) rfl (by decide) (cap := 6) (by decide) (by decide) (by decide) (by decide)
  obtain ⟨b122, g122⟩ : ∃ z, z = h0.size := ⟨_, rfl⟩
  rw [← g122] at A122 st122
  have V122 : Arv Z h122 b122 k122 .char (6 : Int32) [(.int (0 : Int32)), (.int (0 : Int32)), (.int (0 : Int32)), (.int (0 : Int32)), (.int (0 : Int32)), (.int (0 : Int32))] (.int (0 : Int32)) := (Arv.new A122 (by decide)).pad (pad_rep [] (.int (0 : Int32)) 6)
  have g_b122 : n0 ≤ b122 := Nat.le_trans Z0 (Nat.le_of_eq g122.symm)
  have OLD122 := OLD.ext E122
  have Zs122 : n0 ≤ h122.size := Nat.le_trans Z0 E122.1
  have hk := Nat.le_trans hk E122.1
  refine own_stepW st122 ?_
  show own_EndsW p e below s _ _ _ T122 (mkF m 4 #[.val (.int i0), .val (.int i1), .val (.int i2), .val (.int i3), .val (.int i4), .unset, .unset, .unset, .unset, .unset, .unset] [(.ref b122)])
  refine own_stepW (fun _ => XS.astore X122.here hx rfl (hb hby at_4) rfl rfl (l' := #[.val (.int i0), .val (.int i1), .val (.int i2), .val (.int i3), .val (.int i4), .val (.ref b122), .unset, .unset, .unset, .unset, .unset]) rfl) ?_
  show own_EndsW p e below s _ _ _ T122 (mkF m 6 #[.val (.int i0), .val (.int i1), .val (.int i2), .val (.int i3), .val (.int i4), .val (.ref b122), .unset, .unset, .unset, .unset, .unset] [])
  refine own_stepW (fun _ => XS.aload X122.here hx rfl (hb hby at_6) rfl rfl) ?_
  show own_EndsW p e below s _ _ _ T122 (mkF m 8 #[.val (.int i0), .val (.int i1), .val (.int i2), .val (.int i3), .val (.int i4), .val (.ref b122), .unset, .unset, .unset, .unset, .unset] [(.ref b122)])
  refine own_stepW (fun _ => XS.iconst X122.here hx rfl (hb hby at_8)) ?_
  show own_EndsW p e below s _ _ _ T122 (mkF m 9 #[.val (.int i0), .val (.int i1), .val (.int i2), .val (.int i3), .val (.int i4), .val (.ref b122), .unset, .unset, .unset, .unset, .unset] [(.int (0 : Int32)), (.ref b122)])
  refine own_stepW (fun _ => XS.iloadN X122.here hx rfl (hb hby at_9) rfl) ?_
  show own_EndsW p e below s _ _ _ T122 (mkF m 10 #[.val (.int i0), .val (.int i1), .val (.int i2), .val (.int i3), .val (.int i4), .val (.ref b122), .unset, .unset, .unset, .unset, .unset] [(.int i3), (.int (0 : Int32)), (.ref b122)])
  refine own_stepW (fun _ => XS.sipush X122.here hx rfl (hb hby at_10)) ?_
  show own_EndsW p e below s _ _ _ T122 (mkF m 13 #[.val (.int i0), .val (.int i1), .val (.int i2), .val (.int i3), .val (.int i4), .val (.ref b122), .unset, .unset, .unset, .unset, .unset] [(.int (255 : Int32)), (.int i3), (.int (0 : Int32)), (.ref b122)])
  refine own_stepW (fun _ => XS.iand X122.here hx rfl (hb hby at_13) rfl) ?_
  show own_EndsW p e below s _ _ _ T122 (mkF m 14 #[.val (.int i0), .val (.int i1), .val (.int i2), .val (.int i3), .val (.int i4), .val (.ref b122), .unset, .unset, .unset, .unset, .unset] [(.int (i3 &&& (255 : Int32))), (.int (0 : Int32)), (.ref b122)])
  refine own_stepW (fun _ => XS.i2c X122.here hx rfl (hb hby at_14) rfl) ?_
  show own_EndsW p e below s _ _ _ T122 (mkF m 15 #[.val (.int i0), .val (.int i1), .val (.int i2), .val (.int i3), .val (.int i4), .val (.ref b122), .unset, .unset, .unset, .unset, .unset] [(.int ((i3 &&& (255 : Int32)).toUInt32.toUInt16.toUInt32.toInt32)), (.int (0 : Int32)), (.ref b122)])
  obtain ⟨cl123, Ar123, q123, S123, N123_, H123, G123⟩ := id V122
  have hin123 : ¬ ((0 : Int32) < 0 ∨ cl123.slots.size ≤ ((0 : Int32)).toNatClampNeg) := inb_of S123 ⟨by decide, by decide⟩
  obtain ⟨T123, h123, X123, e123, W123, st123⟩ := stC X122 hx hZ e122 Ar123 (j := (0 : Int32)) hin123 (g := (mkF m 15 #[.val (.int i0), .val (.int i1), .val (.int i2), .val (.int i3), .val (.int i4), .val (.ref b122), .unset, .unset, .unset, .unset, .unset] [(.int ((i3 &&& (255 : Int32)).toUInt32.toUInt16.toUInt32.toInt32)), (.int (0 : Int32)), (.ref b122)])) rfl rfl (hb hby at_15)
  have V123 : Arv Z h123 b122 k122 .char (6 : Int32) [(.int (nar .char ((i3 &&& (255 : Int32)).toUInt32.toUInt16.toUInt32.toInt32))), (.int (0 : Int32)), (.int (0 : Int32)), (.int (0 : Int32)), (.int (0 : Int32)), (.int (0 : Int32))] (.int (0 : Int32)) := Arv.set Ar123 q123 S123 N123_ H123 G123 (fits_nar_char _) W123 0 rfl (Nat.le_of_ble_eq_true rfl)
  have OLD123 := OLD122.wr W123 g_b122
  have Zs123 : n0 ≤ h123.size := (by rw [W123.size]; exact Zs122)
  have hk := Nat.le_trans hk (Nat.le_of_eq W123.size.symm)
  have N123 := Fr.snoc X123 N0 g_b122
  refine own_stepW st123 ?_
  show own_EndsW p e below s _ _ _ T123 (mkF m 16 #[.val (.int i0), .val (.int i1), .val (.int i2), .val (.int i3), .val (.int i4), .val (.ref b122), .unset, .unset, .unset, .unset, .unset] [])
  refine own_stepW (fun _ => XS.aload X123.here hx rfl (hb hby at_16) rfl rfl) ?_
  show own_EndsW p e below s _ _ _ T123 (mkF m 18 #[.val (.int i0), .val (.int i1), .val (.int i2), .val (.int i3), .val (.int i4), .val (.ref b122), .unset, .unset, .unset, .unset, .unset] [(.ref b122)])
  refine own_stepW (fun _ => XS.iconst X123.here hx rfl (hb hby at_18)) ?_
  show own_EndsW p e below s _ _ _ T123 (mkF m 19 #[.val (.int i0), .val (.int i1), .val (.int i2), .val (.int i3), .val (.int i4), .val (.ref b122), .unset, .unset, .unset, .unset, .unset] [(.int (1 : Int32)), (.ref b122)])
  refine own_stepW (fun _ => XS.iloadN X123.here hx rfl (hb hby at_19) rfl) ?_
  show own_EndsW p e below s _ _ _ T123 (mkF m 20 #[.val (.int i0), .val (.int i1), .val (.int i2), .val (.int i3), .val (.int i4), .val (.ref b122), .unset, .unset, .unset, .unset, .unset] [(.int i3), (.int (1 : Int32)), (.ref b122)])
  refine own_stepW (fun _ => XS.bipush X123.here hx rfl (hb hby at_20)) ?_
  show own_EndsW p e below s _ _ _ T123 (mkF m 22 #[.val (.int i0), .val (.int i1), .val (.int i2), .val (.int i3), .val (.int i4), .val (.ref b122), .unset, .unset, .unset, .unset, .unset] [(.int (8 : Int32)), (.int i3), (.int (1 : Int32)), (.ref b122)])
  refine own_stepW (fun _ => XS.iushr X123.here hx rfl (hb hby at_22) rfl) ?_
  show own_EndsW p e below s _ _ _ T123 (mkF m 23 #[.val (.int i0), .val (.int i1), .val (.int i2), .val (.int i3), .val (.int i4), .val (.ref b122), .unset, .unset, .unset, .unset, .unset] [(.int ((i3.toUInt32 >>> ((8 : Int32) &&& 31).toUInt32).toInt32)), (.int (1 : Int32)), (.ref b122)])
  refine own_stepW (fun _ => XS.sipush X123.here hx rfl (hb hby at_23)) ?_
  show own_EndsW p e below s _ _ _ T123 (mkF m 26 #[.val (.int i0), .val (.int i1), .val (.int i2), .val (.int i3), .val (.int i4), .val (.ref b122), .unset, .unset, .unset, .unset, .unset] [(.int (255 : Int32)), (.int ((i3.toUInt32 >>> ((8 : Int32) &&& 31).toUInt32).toInt32)), (.int (1 : Int32)), (.ref b122)])
  refine own_stepW (fun _ => XS.iand X123.here hx rfl (hb hby at_26) rfl) ?_
  show own_EndsW p e below s _ _ _ T123 (mkF m 27 #[.val (.int i0), .val (.int i1), .val (.int i2), .val (.int i3), .val (.int i4), .val (.ref b122), .unset, .unset, .unset, .unset, .unset] [(.int (((i3.toUInt32 >>> ((8 : Int32) &&& 31).toUInt32).toInt32) &&& (255 : Int32))), (.int (1 : Int32)), (.ref b122)])
  refine own_stepW (fun _ => XS.i2c X123.here hx rfl (hb hby at_27) rfl) ?_
  show own_EndsW p e below s _ _ _ T123 (mkF m 28 #[.val (.int i0), .val (.int i1), .val (.int i2), .val (.int i3), .val (.int i4), .val (.ref b122), .unset, .unset, .unset, .unset, .unset] [(.int ((((i3.toUInt32 >>> ((8 : Int32) &&& 31).toUInt32).toInt32) &&& (255 : Int32)).toUInt32.toUInt16.toUInt32.toInt32)), (.int (1 : Int32)), (.ref b122)])
  obtain ⟨cl124, Ar124, q124, S124, N124_, H124, G124⟩ := id V123
  have hin124 : ¬ ((1 : Int32) < 0 ∨ cl124.slots.size ≤ ((1 : Int32)).toNatClampNeg) := inb_of S124 ⟨by decide, by decide⟩
  obtain ⟨T124, h124, X124, e124, W124, st124⟩ := stC X123 hx hZ e123 Ar124 (j := (1 : Int32)) hin124 (g := (mkF m 28 #[.val (.int i0), .val (.int i1), .val (.int i2), .val (.int i3), .val (.int i4), .val (.ref b122), .unset, .unset, .unset, .unset, .unset] [(.int ((((i3.toUInt32 >>> ((8 : Int32) &&& 31).toUInt32).toInt32) &&& (255 : Int32)).toUInt32.toUInt16.toUInt32.toInt32)), (.int (1 : Int32)), (.ref b122)])) rfl rfl (hb hby at_28)
  have V124 : Arv Z h124 b122 k122 .char (6 : Int32) [(.int (nar .char ((i3 &&& (255 : Int32)).toUInt32.toUInt16.toUInt32.toInt32))), (.int (nar .char ((((i3.toUInt32 >>> ((8 : Int32) &&& 31).toUInt32).toInt32) &&& (255 : Int32)).toUInt32.toUInt16.toUInt32.toInt32))), (.int (0 : Int32)), (.int (0 : Int32)), (.int (0 : Int32)), (.int (0 : Int32))] (.int (0 : Int32)) := Arv.set Ar124 q124 S124 N124_ H124 G124 (fits_nar_char _) W124 1 rfl (Nat.le_of_ble_eq_true rfl)
  have OLD124 := OLD123.wr W124 g_b122
  have Zs124 : n0 ≤ h124.size := (by rw [W124.size]; exact Zs123)
  have hk := Nat.le_trans hk (Nat.le_of_eq W124.size.symm)
  have N124 := Fr.snoc X124 N123 g_b122
  refine own_stepW st124 ?_
  show own_EndsW p e below s _ _ _ T124 (mkF m 29 #[.val (.int i0), .val (.int i1), .val (.int i2), .val (.int i3), .val (.int i4), .val (.ref b122), .unset, .unset, .unset, .unset, .unset] [])
  refine own_stepW (fun _ => XS.aload X124.here hx rfl (hb hby at_29) rfl rfl) ?_
  show own_EndsW p e below s _ _ _ T124 (mkF m 31 #[.val (.int i0), .val (.int i1), .val (.int i2), .val (.int i3), .val (.int i4), .val (.ref b122), .unset, .unset, .unset, .unset, .unset] [(.ref b122)])
  refine own_stepW (fun _ => XS.iconst X124.here hx rfl (hb hby at_31)) ?_
  show own_EndsW p e below s _ _ _ T124 (mkF m 32 #[.val (.int i0), .val (.int i1), .val (.int i2), .val (.int i3), .val (.int i4), .val (.ref b122), .unset, .unset, .unset, .unset, .unset] [(.int (2 : Int32)), (.ref b122)])
  refine own_stepW (fun _ => XS.iloadN X124.here hx rfl (hb hby at_32) rfl) ?_
  show own_EndsW p e below s _ _ _ T124 (mkF m 33 #[.val (.int i0), .val (.int i1), .val (.int i2), .val (.int i3), .val (.int i4), .val (.ref b122), .unset, .unset, .unset, .unset, .unset] [(.int i3), (.int (2 : Int32)), (.ref b122)])
  refine own_stepW (fun _ => XS.bipush X124.here hx rfl (hb hby at_33)) ?_
  show own_EndsW p e below s _ _ _ T124 (mkF m 35 #[.val (.int i0), .val (.int i1), .val (.int i2), .val (.int i3), .val (.int i4), .val (.ref b122), .unset, .unset, .unset, .unset, .unset] [(.int (16 : Int32)), (.int i3), (.int (2 : Int32)), (.ref b122)])
  refine own_stepW (fun _ => XS.iushr X124.here hx rfl (hb hby at_35) rfl) ?_
  show own_EndsW p e below s _ _ _ T124 (mkF m 36 #[.val (.int i0), .val (.int i1), .val (.int i2), .val (.int i3), .val (.int i4), .val (.ref b122), .unset, .unset, .unset, .unset, .unset] [(.int ((i3.toUInt32 >>> ((16 : Int32) &&& 31).toUInt32).toInt32)), (.int (2 : Int32)), (.ref b122)])
  refine own_stepW (fun _ => XS.sipush X124.here hx rfl (hb hby at_36)) ?_
  show own_EndsW p e below s _ _ _ T124 (mkF m 39 #[.val (.int i0), .val (.int i1), .val (.int i2), .val (.int i3), .val (.int i4), .val (.ref b122), .unset, .unset, .unset, .unset, .unset] [(.int (255 : Int32)), (.int ((i3.toUInt32 >>> ((16 : Int32) &&& 31).toUInt32).toInt32)), (.int (2 : Int32)), (.ref b122)])
  refine own_stepW (fun _ => XS.iand X124.here hx rfl (hb hby at_39) rfl) ?_
  show own_EndsW p e below s _ _ _ T124 (mkF m 40 #[.val (.int i0), .val (.int i1), .val (.int i2), .val (.int i3), .val (.int i4), .val (.ref b122), .unset, .unset, .unset, .unset, .unset] [(.int (((i3.toUInt32 >>> ((16 : Int32) &&& 31).toUInt32).toInt32) &&& (255 : Int32))), (.int (2 : Int32)), (.ref b122)])
  refine own_stepW (fun _ => XS.i2c X124.here hx rfl (hb hby at_40) rfl) ?_
  show own_EndsW p e below s _ _ _ T124 (mkF m 41 #[.val (.int i0), .val (.int i1), .val (.int i2), .val (.int i3), .val (.int i4), .val (.ref b122), .unset, .unset, .unset, .unset, .unset] [(.int ((((i3.toUInt32 >>> ((16 : Int32) &&& 31).toUInt32).toInt32) &&& (255 : Int32)).toUInt32.toUInt16.toUInt32.toInt32)), (.int (2 : Int32)), (.ref b122)])
  obtain ⟨cl125, Ar125, q125, S125, N125_, H125, G125⟩ := id V124
  have hin125 : ¬ ((2 : Int32) < 0 ∨ cl125.slots.size ≤ ((2 : Int32)).toNatClampNeg) := inb_of S125 ⟨by decide, by decide⟩
  obtain ⟨T125, h125, X125, e125, W125, st125⟩ := stC X124 hx hZ e124 Ar125 (j := (2 : Int32)) hin125 (g := (mkF m 41 #[.val (.int i0), .val (.int i1), .val (.int i2), .val (.int i3), .val (.int i4), .val (.ref b122), .unset, .unset, .unset, .unset, .unset] [(.int ((((i3.toUInt32 >>> ((16 : Int32) &&& 31).toUInt32).toInt32) &&& (255 : Int32)).toUInt32.toUInt16.toUInt32.toInt32)), (.int (2 : Int32)), (.ref b122)])) rfl rfl (hb hby at_41)
  have V125 : Arv Z h125 b122 k122 .char (6 : Int32) [(.int (nar .char ((i3 &&& (255 : Int32)).toUInt32.toUInt16.toUInt32.toInt32))), (.int (nar .char ((((i3.toUInt32 >>> ((8 : Int32) &&& 31).toUInt32).toInt32) &&& (255 : Int32)).toUInt32.toUInt16.toUInt32.toInt32))), (.int (nar .char ((((i3.toUInt32 >>> ((16 : Int32) &&& 31).toUInt32).toInt32) &&& (255 : Int32)).toUInt32.toUInt16.toUInt32.toInt32))), (.int (0 : Int32)), (.int (0 : Int32)), (.int (0 : Int32))] (.int (0 : Int32)) := Arv.set Ar125 q125 S125 N125_ H125 G125 (fits_nar_char _) W125 2 rfl (Nat.le_of_ble_eq_true rfl)
  have OLD125 := OLD124.wr W125 g_b122
  have Zs125 : n0 ≤ h125.size := (by rw [W125.size]; exact Zs124)
  have hk := Nat.le_trans hk (Nat.le_of_eq W125.size.symm)
  have N125 := Fr.snoc X125 N124 g_b122
  refine own_stepW st125 ?_
  show own_EndsW p e below s _ _ _ T125 (mkF m 42 #[.val (.int i0), .val (.int i1), .val (.int i2), .val (.int i3), .val (.int i4), .val (.ref b122), .unset, .unset, .unset, .unset, .unset] [])
  refine own_stepW (fun _ => XS.aload X125.here hx rfl (hb hby at_42) rfl rfl) ?_
  show own_EndsW p e below s _ _ _ T125 (mkF m 44 #[.val (.int i0), .val (.int i1), .val (.int i2), .val (.int i3), .val (.int i4), .val (.ref b122), .unset, .unset, .unset, .unset, .unset] [(.ref b122)])
  refine own_stepW (fun _ => XS.iconst X125.here hx rfl (hb hby at_44)) ?_
  show own_EndsW p e below s _ _ _ T125 (mkF m 45 #[.val (.int i0), .val (.int i1), .val (.int i2), .val (.int i3), .val (.int i4), .val (.ref b122), .unset, .unset, .unset, .unset, .unset] [(.int (3 : Int32)), (.ref b122)])
  refine own_stepW (fun _ => XS.iloadN X125.here hx rfl (hb hby at_45) rfl) ?_
  show own_EndsW p e below s _ _ _ T125 (mkF m 46 #[.val (.int i0), .val (.int i1), .val (.int i2), .val (.int i3), .val (.int i4), .val (.ref b122), .unset, .unset, .unset, .unset, .unset] [(.int i3), (.int (3 : Int32)), (.ref b122)])
  refine own_stepW (fun _ => XS.bipush X125.here hx rfl (hb hby at_46)) ?_
  show own_EndsW p e below s _ _ _ T125 (mkF m 48 #[.val (.int i0), .val (.int i1), .val (.int i2), .val (.int i3), .val (.int i4), .val (.ref b122), .unset, .unset, .unset, .unset, .unset] [(.int (24 : Int32)), (.int i3), (.int (3 : Int32)), (.ref b122)])
  refine own_stepW (fun _ => XS.iushr X125.here hx rfl (hb hby at_48) rfl) ?_
  show own_EndsW p e below s _ _ _ T125 (mkF m 49 #[.val (.int i0), .val (.int i1), .val (.int i2), .val (.int i3), .val (.int i4), .val (.ref b122), .unset, .unset, .unset, .unset, .unset] [(.int ((i3.toUInt32 >>> ((24 : Int32) &&& 31).toUInt32).toInt32)), (.int (3 : Int32)), (.ref b122)])
  refine own_stepW (fun _ => XS.sipush X125.here hx rfl (hb hby at_49)) ?_
  show own_EndsW p e below s _ _ _ T125 (mkF m 52 #[.val (.int i0), .val (.int i1), .val (.int i2), .val (.int i3), .val (.int i4), .val (.ref b122), .unset, .unset, .unset, .unset, .unset] [(.int (255 : Int32)), (.int ((i3.toUInt32 >>> ((24 : Int32) &&& 31).toUInt32).toInt32)), (.int (3 : Int32)), (.ref b122)])
  refine own_stepW (fun _ => XS.iand X125.here hx rfl (hb hby at_52) rfl) ?_
  show own_EndsW p e below s _ _ _ T125 (mkF m 53 #[.val (.int i0), .val (.int i1), .val (.int i2), .val (.int i3), .val (.int i4), .val (.ref b122), .unset, .unset, .unset, .unset, .unset] [(.int (((i3.toUInt32 >>> ((24 : Int32) &&& 31).toUInt32).toInt32) &&& (255 : Int32))), (.int (3 : Int32)), (.ref b122)])
  refine own_stepW (fun _ => XS.i2c X125.here hx rfl (hb hby at_53) rfl) ?_
  show own_EndsW p e below s _ _ _ T125 (mkF m 54 #[.val (.int i0), .val (.int i1), .val (.int i2), .val (.int i3), .val (.int i4), .val (.ref b122), .unset, .unset, .unset, .unset, .unset] [(.int ((((i3.toUInt32 >>> ((24 : Int32) &&& 31).toUInt32).toInt32) &&& (255 : Int32)).toUInt32.toUInt16.toUInt32.toInt32)), (.int (3 : Int32)), (.ref b122)])
  obtain ⟨cl126, Ar126, q126, S126, N126_, H126, G126⟩ := id V125
  have hin126 : ¬ ((3 : Int32) < 0 ∨ cl126.slots.size ≤ ((3 : Int32)).toNatClampNeg) := inb_of S126 ⟨by decide, by decide⟩
  obtain ⟨T126, h126, X126, e126, W126, st126⟩ := stC X125 hx hZ e125 Ar126 (j := (3 : Int32)) hin126 (g := (mkF m 54 #[.val (.int i0), .val (.int i1), .val (.int i2), .val (.int i3), .val (.int i4), .val (.ref b122), .unset, .unset, .unset, .unset, .unset] [(.int ((((i3.toUInt32 >>> ((24 : Int32) &&& 31).toUInt32).toInt32) &&& (255 : Int32)).toUInt32.toUInt16.toUInt32.toInt32)), (.int (3 : Int32)), (.ref b122)])) rfl rfl (hb hby at_54)
  have V126 : Arv Z h126 b122 k122 .char (6 : Int32) [(.int (nar .char ((i3 &&& (255 : Int32)).toUInt32.toUInt16.toUInt32.toInt32))), (.int (nar .char ((((i3.toUInt32 >>> ((8 : Int32) &&& 31).toUInt32).toInt32) &&& (255 : Int32)).toUInt32.toUInt16.toUInt32.toInt32))), (.int (nar .char ((((i3.toUInt32 >>> ((16 : Int32) &&& 31).toUInt32).toInt32) &&& (255 : Int32)).toUInt32.toUInt16.toUInt32.toInt32))), (.int (nar .char ((((i3.toUInt32 >>> ((24 : Int32) &&& 31).toUInt32).toInt32) &&& (255 : Int32)).toUInt32.toUInt16.toUInt32.toInt32))), (.int (0 : Int32)), (.int (0 : Int32))] (.int (0 : Int32)) := Arv.set Ar126 q126 S126 N126_ H126 G126 (fits_nar_char _) W126 3 rfl (Nat.le_of_ble_eq_true rfl)
  have OLD126 := OLD125.wr W126 g_b122
  have Zs126 : n0 ≤ h126.size := (by rw [W126.size]; exact Zs125)
  have hk := Nat.le_trans hk (Nat.le_of_eq W126.size.symm)
  have N126 := Fr.snoc X126 N125 g_b122
  refine own_stepW st126 ?_
  show own_EndsW p e below s _ _ _ T126 (mkF m 55 #[.val (.int i0), .val (.int i1), .val (.int i2), .val (.int i3), .val (.int i4), .val (.ref b122), .unset, .unset, .unset, .unset, .unset] [])
  refine own_stepW (fun _ => XS.aload X126.here hx rfl (hb hby at_55) rfl rfl) ?_
  show own_EndsW p e below s _ _ _ T126 (mkF m 57 #[.val (.int i0), .val (.int i1), .val (.int i2), .val (.int i3), .val (.int i4), .val (.ref b122), .unset, .unset, .unset, .unset, .unset] [(.ref b122)])
  refine own_stepW (fun _ => XS.iconst X126.here hx rfl (hb hby at_57)) ?_
  show own_EndsW p e below s _ _ _ T126 (mkF m 58 #[.val (.int i0), .val (.int i1), .val (.int i2), .val (.int i3), .val (.int i4), .val (.ref b122), .unset, .unset, .unset, .unset, .unset] [(.int (4 : Int32)), (.ref b122)])
  refine own_stepW (fun _ => XS.iload X126.here hx rfl (hb hby at_58) rfl) ?_
  show own_EndsW p e below s _ _ _ T126 (mkF m 60 #[.val (.int i0), .val (.int i1), .val (.int i2), .val (.int i3), .val (.int i4), .val (.ref b122), .unset, .unset, .unset, .unset, .unset] [(.int i4), (.int (4 : Int32)), (.ref b122)])
  refine own_stepW (fun _ => XS.sipush X126.here hx rfl (hb hby at_60)) ?_
  show own_EndsW p e below s _ _ _ T126 (mkF m 63 #[.val (.int i0), .val (.int i1), .val (.int i2), .val (.int i3), .val (.int i4), .val (.ref b122), .unset, .unset, .unset, .unset, .unset] [(.int (255 : Int32)), (.int i4), (.int (4 : Int32)), (.ref b122)])
  refine own_stepW (fun _ => XS.iand X126.here hx rfl (hb hby at_63) rfl) ?_
  show own_EndsW p e below s _ _ _ T126 (mkF m 64 #[.val (.int i0), .val (.int i1), .val (.int i2), .val (.int i3), .val (.int i4), .val (.ref b122), .unset, .unset, .unset, .unset, .unset] [(.int (i4 &&& (255 : Int32))), (.int (4 : Int32)), (.ref b122)])
  refine own_stepW (fun _ => XS.i2c X126.here hx rfl (hb hby at_64) rfl) ?_
  show own_EndsW p e below s _ _ _ T126 (mkF m 65 #[.val (.int i0), .val (.int i1), .val (.int i2), .val (.int i3), .val (.int i4), .val (.ref b122), .unset, .unset, .unset, .unset, .unset] [(.int ((i4 &&& (255 : Int32)).toUInt32.toUInt16.toUInt32.toInt32)), (.int (4 : Int32)), (.ref b122)])
  obtain ⟨cl127, Ar127, q127, S127, N127_, H127, G127⟩ := id V126
  have hin127 : ¬ ((4 : Int32) < 0 ∨ cl127.slots.size ≤ ((4 : Int32)).toNatClampNeg) := inb_of S127 ⟨by decide, by decide⟩
  obtain ⟨T127, h127, X127, e127, W127, st127⟩ := stC X126 hx hZ e126 Ar127 (j := (4 : Int32)) hin127 (g := (mkF m 65 #[.val (.int i0), .val (.int i1), .val (.int i2), .val (.int i3), .val (.int i4), .val (.ref b122), .unset, .unset, .unset, .unset, .unset] [(.int ((i4 &&& (255 : Int32)).toUInt32.toUInt16.toUInt32.toInt32)), (.int (4 : Int32)), (.ref b122)])) rfl rfl (hb hby at_65)
  have V127 : Arv Z h127 b122 k122 .char (6 : Int32) [(.int (nar .char ((i3 &&& (255 : Int32)).toUInt32.toUInt16.toUInt32.toInt32))), (.int (nar .char ((((i3.toUInt32 >>> ((8 : Int32) &&& 31).toUInt32).toInt32) &&& (255 : Int32)).toUInt32.toUInt16.toUInt32.toInt32))), (.int (nar .char ((((i3.toUInt32 >>> ((16 : Int32) &&& 31).toUInt32).toInt32) &&& (255 : Int32)).toUInt32.toUInt16.toUInt32.toInt32))), (.int (nar .char ((((i3.toUInt32 >>> ((24 : Int32) &&& 31).toUInt32).toInt32) &&& (255 : Int32)).toUInt32.toUInt16.toUInt32.toInt32))), (.int (nar .char ((i4 &&& (255 : Int32)).toUInt32.toUInt16.toUInt32.toInt32))), (.int (0 : Int32))] (.int (0 : Int32)) := Arv.set Ar127 q127 S127 N127_ H127 G127 (fits_nar_char _) W127 4 rfl (Nat.le_of_ble_eq_true rfl)
  have OLD127 := OLD126.wr W127 g_b122
  have Zs127 : n0 ≤ h127.size := (by rw [W127.size]; exact Zs126)
  have hk := Nat.le_trans hk (Nat.le_of_eq W127.size.symm)
  have N127 := Fr.snoc X127 N126 g_b122
  refine own_stepW st127 ?_
  show own_EndsW p e below s _ _ _ T127 (mkF m 66 #[.val (.int i0), .val (.int i1), .val (.int i2), .val (.int i3), .val (.int i4), .val (.ref b122), .unset, .unset, .unset, .unset, .unset] [])
  refine own_stepW (fun _ => XS.aload X127.here hx rfl (hb hby at_66) rfl rfl) ?_
  show own_EndsW p e below s _ _ _ T127 (mkF m 68 #[.val (.int i0), .val (.int i1), .val (.int i2), .val (.int i3), .val (.int i4), .val (.ref b122), .unset, .unset, .unset, .unset, .unset] [(.ref b122)])
  refine own_stepW (fun _ => XS.iconst X127.here hx rfl (hb hby at_68)) ?_
  show own_EndsW p e below s _ _ _ T127 (mkF m 69 #[.val (.int i0), .val (.int i1), .val (.int i2), .val (.int i3), .val (.int i4), .val (.ref b122), .unset, .unset, .unset, .unset, .unset] [(.int (5 : Int32)), (.ref b122)])
  refine own_stepW (fun _ => XS.iload X127.here hx rfl (hb hby at_69) rfl) ?_
  show own_EndsW p e below s _ _ _ T127 (mkF m 71 #[.val (.int i0), .val (.int i1), .val (.int i2), .val (.int i3), .val (.int i4), .val (.ref b122), .unset, .unset, .unset, .unset, .unset] [(.int i4), (.int (5 : Int32)), (.ref b122)])
  refine own_stepW (fun _ => XS.bipush X127.here hx rfl (hb hby at_71)) ?_
  show own_EndsW p e below s _ _ _ T127 (mkF m 73 #[.val (.int i0), .val (.int i1), .val (.int i2), .val (.int i3), .val (.int i4), .val (.ref b122), .unset, .unset, .unset, .unset, .unset] [(.int (8 : Int32)), (.int i4), (.int (5 : Int32)), (.ref b122)])
  refine own_stepW (fun _ => XS.iushr X127.here hx rfl (hb hby at_73) rfl) ?_
  show own_EndsW p e below s _ _ _ T127 (mkF m 74 #[.val (.int i0), .val (.int i1), .val (.int i2), .val (.int i3), .val (.int i4), .val (.ref b122), .unset, .unset, .unset, .unset, .unset] [(.int ((i4.toUInt32 >>> ((8 : Int32) &&& 31).toUInt32).toInt32)), (.int (5 : Int32)), (.ref b122)])
  refine own_stepW (fun _ => XS.sipush X127.here hx rfl (hb hby at_74)) ?_
  show own_EndsW p e below s _ _ _ T127 (mkF m 77 #[.val (.int i0), .val (.int i1), .val (.int i2), .val (.int i3), .val (.int i4), .val (.ref b122), .unset, .unset, .unset, .unset, .unset] [(.int (255 : Int32)), (.int ((i4.toUInt32 >>> ((8 : Int32) &&& 31).toUInt32).toInt32)), (.int (5 : Int32)), (.ref b122)])
  refine own_stepW (fun _ => XS.iand X127.here hx rfl (hb hby at_77) rfl) ?_
  show own_EndsW p e below s _ _ _ T127 (mkF m 78 #[.val (.int i0), .val (.int i1), .val (.int i2), .val (.int i3), .val (.int i4), .val (.ref b122), .unset, .unset, .unset, .unset, .unset] [(.int (((i4.toUInt32 >>> ((8 : Int32) &&& 31).toUInt32).toInt32) &&& (255 : Int32))), (.int (5 : Int32)), (.ref b122)])
  refine own_stepW (fun _ => XS.i2c X127.here hx rfl (hb hby at_78) rfl) ?_
  show own_EndsW p e below s _ _ _ T127 (mkF m 79 #[.val (.int i0), .val (.int i1), .val (.int i2), .val (.int i3), .val (.int i4), .val (.ref b122), .unset, .unset, .unset, .unset, .unset] [(.int ((((i4.toUInt32 >>> ((8 : Int32) &&& 31).toUInt32).toInt32) &&& (255 : Int32)).toUInt32.toUInt16.toUInt32.toInt32)), (.int (5 : Int32)), (.ref b122)])
  obtain ⟨cl128, Ar128, q128, S128, N128_, H128, G128⟩ := id V127
  have hin128 : ¬ ((5 : Int32) < 0 ∨ cl128.slots.size ≤ ((5 : Int32)).toNatClampNeg) := inb_of S128 ⟨by decide, by decide⟩
  obtain ⟨T128, h128, X128, e128, W128, st128⟩ := stC X127 hx hZ e127 Ar128 (j := (5 : Int32)) hin128 (g := (mkF m 79 #[.val (.int i0), .val (.int i1), .val (.int i2), .val (.int i3), .val (.int i4), .val (.ref b122), .unset, .unset, .unset, .unset, .unset] [(.int ((((i4.toUInt32 >>> ((8 : Int32) &&& 31).toUInt32).toInt32) &&& (255 : Int32)).toUInt32.toUInt16.toUInt32.toInt32)), (.int (5 : Int32)), (.ref b122)])) rfl rfl (hb hby at_79)
  have V128 : Arv Z h128 b122 k122 .char (6 : Int32) [(.int (nar .char ((i3 &&& (255 : Int32)).toUInt32.toUInt16.toUInt32.toInt32))), (.int (nar .char ((((i3.toUInt32 >>> ((8 : Int32) &&& 31).toUInt32).toInt32) &&& (255 : Int32)).toUInt32.toUInt16.toUInt32.toInt32))), (.int (nar .char ((((i3.toUInt32 >>> ((16 : Int32) &&& 31).toUInt32).toInt32) &&& (255 : Int32)).toUInt32.toUInt16.toUInt32.toInt32))), (.int (nar .char ((((i3.toUInt32 >>> ((24 : Int32) &&& 31).toUInt32).toInt32) &&& (255 : Int32)).toUInt32.toUInt16.toUInt32.toInt32))), (.int (nar .char ((i4 &&& (255 : Int32)).toUInt32.toUInt16.toUInt32.toInt32))), (.int (nar .char ((((i4.toUInt32 >>> ((8 : Int32) &&& 31).toUInt32).toInt32) &&& (255 : Int32)).toUInt32.toUInt16.toUInt32.toInt32)))] (.int (0 : Int32)) := Arv.set Ar128 q128 S128 N128_ H128 G128 (fits_nar_char _) W128 5 rfl (Nat.le_of_ble_eq_true rfl)
  have OLD128 := OLD127.wr W128 g_b122
  have Zs128 : n0 ≤ h128.size := (by rw [W128.size]; exact Zs127)
  have hk := Nat.le_trans hk (Nat.le_of_eq W128.size.symm)
  have N128 := Fr.snoc X128 N127 g_b122
  refine own_stepW st128 ?_
  show own_EndsW p e below s _ _ _ T128 (mkF m 80 #[.val (.int i0), .val (.int i1), .val (.int i2), .val (.int i3), .val (.int i4), .val (.ref b122), .unset, .unset, .unset, .unset, .unset] [])
  refine own_stepW (fun _ => XS.iloadN X128.here hx rfl (hb hby at_80) rfl) ?_
  show own_EndsW p e below s _ _ _ T128 (mkF m 81 #[.val (.int i0), .val (.int i1), .val (.int i2), .val (.int i3), .val (.int i4), .val (.ref b122), .unset, .unset, .unset, .unset, .unset] [(.int i0)])
  refine own_stepW (fun _ => XS.iconst X128.here hx rfl (hb hby at_81)) ?_
  show own_EndsW p e below s _ _ _ T128 (mkF m 82 #[.val (.int i0), .val (.int i1), .val (.int i2), .val (.int i3), .val (.int i4), .val (.ref b122), .unset, .unset, .unset, .unset, .unset] [(.int (3 : Int32)), (.int i0)])
  refine own_stepW (fun _ => XS.iand X128.here hx rfl (hb hby at_82) rfl) ?_
  show own_EndsW p e below s _ _ _ T128 (mkF m 83 #[.val (.int i0), .val (.int i1), .val (.int i2), .val (.int i3), .val (.int i4), .val (.ref b122), .unset, .unset, .unset, .unset, .unset] [(.int (i0 &&& (3 : Int32)))])
  refine own_stepW (fun _ => XS.istore X128.here hx rfl (hb hby at_83) rfl (l' := #[.val (.int i0), .val (.int i1), .val (.int i2), .val (.int i3), .val (.int i4), .val (.ref b122), .val (.int (i0 &&& (3 : Int32))), .unset, .unset, .unset, .unset]) rfl) ?_
  show own_EndsW p e below s _ _ _ T128 (mkF m 85 #[.val (.int i0), .val (.int i1), .val (.int i2), .val (.int i3), .val (.int i4), .val (.ref b122), .val (.int (i0 &&& (3 : Int32))), .unset, .unset, .unset, .unset] [])
  refine own_stepW (fun _ => XS.iloadN X128.here hx rfl (hb hby at_85) rfl) ?_
  show own_EndsW p e below s _ _ _ T128 (mkF m 86 #[.val (.int i0), .val (.int i1), .val (.int i2), .val (.int i3), .val (.int i4), .val (.ref b122), .val (.int (i0 &&& (3 : Int32))), .unset, .unset, .unset, .unset] [(.int i0)])
  refine own_stepW (fun _ => XS.bipush X128.here hx rfl (hb hby at_86)) ?_
  show own_EndsW p e below s _ _ _ T128 (mkF m 88 #[.val (.int i0), .val (.int i1), .val (.int i2), .val (.int i3), .val (.int i4), .val (.ref b122), .val (.int (i0 &&& (3 : Int32))), .unset, .unset, .unset, .unset] [(.int (64 : Int32)), (.int i0)])
  refine own_stepW (fun _ => XS.iand X128.here hx rfl (hb hby at_88) rfl) ?_
  show own_EndsW p e below s _ _ _ T128 (mkF m 89 #[.val (.int i0), .val (.int i1), .val (.int i2), .val (.int i3), .val (.int i4), .val (.ref b122), .val (.int (i0 &&& (3 : Int32))), .unset, .unset, .unset, .unset] [(.int (i0 &&& (64 : Int32)))])
  by_cases hc89 : (i0 &&& (64 : Int32)) = (0 : Int32)
  · have hv_t := hv.trans (if_pos hc89)
    refine own_stepW (fun _ => XS.ifNo X128.here hx rfl (hb hby at_89) rfl ((if0 _ _).trans (teq hc89).2)) ?_
    show own_EndsW p e below s _ _ _ T128 (mkF m 92 #[.val (.int i0), .val (.int i1), .val (.int i2), .val (.int i3), .val (.int i4), .val (.ref b122), .val (.int (i0 &&& (3 : Int32))), .unset, .unset, .unset, .unset] [])
    refine own_stepW (fun _ => XS.iconst X128.here hx rfl (hb hby at_92)) ?_
    show own_EndsW p e below s _ _ _ T128 (mkF m 93 #[.val (.int i0), .val (.int i1), .val (.int i2), .val (.int i3), .val (.int i4), .val (.ref b122), .val (.int (i0 &&& (3 : Int32))), .unset, .unset, .unset, .unset] [(.int (1 : Int32))])
    refine own_stepW (fun _ => XS.goto X128.here hx rfl (pc0 := 93) (pc' := 97) rfl (hb hby at_93) (by decide) (by decide)) ?_
    show own_EndsW p e below s _ _ _ T128 (mkF m 97 #[.val (.int i0), .val (.int i1), .val (.int i2), .val (.int i3), .val (.int i4), .val (.ref b122), .val (.int (i0 &&& (3 : Int32))), .unset, .unset, .unset, .unset] [(.int (1 : Int32))])
    refine own_stepW (fun _ => XS.istore X128.here hx rfl (hb hby at_97) rfl (l' := #[.val (.int i0), .val (.int i1), .val (.int i2), .val (.int i3), .val (.int i4), .val (.ref b122), .val (.int (i0 &&& (3 : Int32))), .val (.int (1 : Int32)), .unset, .unset, .unset]) rfl) ?_
    show own_EndsW p e below s _ _ _ T128 (mkF m 99 #[.val (.int i0), .val (.int i1), .val (.int i2), .val (.int i3), .val (.int i4), .val (.ref b122), .val (.int (i0 &&& (3 : Int32))), .val (.int (1 : Int32)), .unset, .unset, .unset] [])
    refine own_stepW (fun _ => XS.iloadN X128.here hx rfl (hb hby at_99) rfl) ?_
    show own_EndsW p e below s _ _ _ T128 (mkF m 100 #[.val (.int i0), .val (.int i1), .val (.int i2), .val (.int i3), .val (.int i4), .val (.ref b122), .val (.int (i0 &&& (3 : Int32))), .val (.int (1 : Int32)), .unset, .unset, .unset] [(.int i0)])
    refine own_stepW (fun _ => XS.iconst X128.here hx rfl (hb hby at_100)) ?_
    show own_EndsW p e below s _ _ _ T128 (mkF m 101 #[.val (.int i0), .val (.int i1), .val (.int i2), .val (.int i3), .val (.int i4), .val (.ref b122), .val (.int (i0 &&& (3 : Int32))), .val (.int (1 : Int32)), .unset, .unset, .unset] [(.int (3 : Int32)), (.int i0)])
    refine own_stepW (fun _ => XS.iushr X128.here hx rfl (hb hby at_101) rfl) ?_
    show own_EndsW p e below s _ _ _ T128 (mkF m 102 #[.val (.int i0), .val (.int i1), .val (.int i2), .val (.int i3), .val (.int i4), .val (.ref b122), .val (.int (i0 &&& (3 : Int32))), .val (.int (1 : Int32)), .unset, .unset, .unset] [(.int ((i0.toUInt32 >>> ((3 : Int32) &&& 31).toUInt32).toInt32))])
    refine own_stepW (fun _ => XS.bipush X128.here hx rfl (hb hby at_102)) ?_
    show own_EndsW p e below s _ _ _ T128 (mkF m 104 #[.val (.int i0), .val (.int i1), .val (.int i2), .val (.int i3), .val (.int i4), .val (.ref b122), .val (.int (i0 &&& (3 : Int32))), .val (.int (1 : Int32)), .unset, .unset, .unset] [(.int (7 : Int32)), (.int ((i0.toUInt32 >>> ((3 : Int32) &&& 31).toUInt32).toInt32))])
    refine own_stepW (fun _ => XS.iand X128.here hx rfl (hb hby at_104) rfl) ?_
    show own_EndsW p e below s _ _ _ T128 (mkF m 105 #[.val (.int i0), .val (.int i1), .val (.int i2), .val (.int i3), .val (.int i4), .val (.ref b122), .val (.int (i0 &&& (3 : Int32))), .val (.int (1 : Int32)), .unset, .unset, .unset] [(.int (((i0.toUInt32 >>> ((3 : Int32) &&& 31).toUInt32).toInt32) &&& (7 : Int32)))])
    refine own_stepW (fun _ => XS.bipush X128.here hx rfl (hb hby at_105)) ?_
    show own_EndsW p e below s _ _ _ T128 (mkF m 107 #[.val (.int i0), .val (.int i1), .val (.int i2), .val (.int i3), .val (.int i4), .val (.ref b122), .val (.int (i0 &&& (3 : Int32))), .val (.int (1 : Int32)), .unset, .unset, .unset] [(.int (7 : Int32)), (.int (((i0.toUInt32 >>> ((3 : Int32) &&& 31).toUInt32).toInt32) &&& (7 : Int32)))])
    refine own_stepW (fun _ => iremM X128 hx rfl (hb hby at_107) rfl (by decide)) ?_
    show own_EndsW p e below s _ _ _ T128 (mkF m 108 #[.val (.int i0), .val (.int i1), .val (.int i2), .val (.int i3), .val (.int i4), .val (.ref b122), .val (.int (i0 &&& (3 : Int32))), .val (.int (1 : Int32)), .unset, .unset, .unset] [(.int ((((i0.toUInt32 >>> ((3 : Int32) &&& 31).toUInt32).toInt32) &&& (7 : Int32)) % (7 : Int32)))])
    refine own_stepW (fun _ => XS.istore X128.here hx rfl (hb hby at_108) rfl (l' := #[.val (.int i0), .val (.int i1), .val (.int i2), .val (.int i3), .val (.int i4), .val (.ref b122), .val (.int (i0 &&& (3 : Int32))), .val (.int (1 : Int32)), .val (.int ((((i0.toUInt32 >>> ((3 : Int32) &&& 31).toUInt32).toInt32) &&& (7 : Int32)) % (7 : Int32))), .unset, .unset]) rfl) ?_
    show own_EndsW p e below s _ _ _ T128 (mkF m 110 #[.val (.int i0), .val (.int i1), .val (.int i2), .val (.int i3), .val (.int i4), .val (.ref b122), .val (.int (i0 &&& (3 : Int32))), .val (.int (1 : Int32)), .val (.int ((((i0.toUInt32 >>> ((3 : Int32) &&& 31).toUInt32).toInt32) &&& (7 : Int32)) % (7 : Int32))), .unset, .unset] [])
    refine own_stepW (fun _ => XS.iload X128.here hx rfl (hb hby at_110) rfl) ?_
    show own_EndsW p e below s _ _ _ T128 (mkF m 112 #[.val (.int i0), .val (.int i1), .val (.int i2), .val (.int i3), .val (.int i4), .val (.ref b122), .val (.int (i0 &&& (3 : Int32))), .val (.int (1 : Int32)), .val (.int ((((i0.toUInt32 >>> ((3 : Int32) &&& 31).toUInt32).toInt32) &&& (7 : Int32)) % (7 : Int32))), .unset, .unset] [(.int (i0 &&& (3 : Int32)))])
    by_cases hc112 : (i0 &&& (3 : Int32)) = (0 : Int32)
    · have hv_t_t := hv_t.trans (if_pos hc112)
      refine own_stepW (fun _ => XS.ifNo X128.here hx rfl (hb hby at_112) rfl ((if0 _ _).trans (teq hc112).2)) ?_
      show own_EndsW p e below s _ _ _ T128 (mkF m 115 #[.val (.int i0), .val (.int i1), .val (.int i2), .val (.int i3), .val (.int i4), .val (.ref b122), .val (.int (i0 &&& (3 : Int32))), .val (.int (1 : Int32)), .val (.int ((((i0.toUInt32 >>> ((3 : Int32) &&& 31).toUInt32).toInt32) &&& (7 : Int32)) % (7 : Int32))), .unset, .unset] [])
      refine own_stepW (fun _ => XS.aload X128.here hx rfl (hb hby at_115) rfl rfl) ?_
      show own_EndsW p e below s _ _ _ T128 (mkF m 117 #[.val (.int i0), .val (.int i1), .val (.int i2), .val (.int i3), .val (.int i4), .val (.ref b122), .val (.int (i0 &&& (3 : Int32))), .val (.int (1 : Int32)), .val (.int ((((i0.toUInt32 >>> ((3 : Int32) &&& 31).toUInt32).toInt32) &&& (7 : Int32)) % (7 : Int32))), .unset, .unset] [(.ref b122)])
      refine own_stepW (fun _ => XS.iconst X128.here hx rfl (hb hby at_117)) ?_
      show own_EndsW p e below s _ _ _ T128 (mkF m 118 #[.val (.int i0), .val (.int i1), .val (.int i2), .val (.int i3), .val (.int i4), .val (.ref b122), .val (.int (i0 &&& (3 : Int32))), .val (.int (1 : Int32)), .val (.int ((((i0.toUInt32 >>> ((3 : Int32) &&& 31).toUInt32).toInt32) &&& (7 : Int32)) % (7 : Int32))), .unset, .unset] [(.int (0 : Int32)), (.ref b122)])
      refine own_stepW (fun _ => XS.bipush X128.here hx rfl (hb hby at_118)) ?_
      show own_EndsW p e below s _ _ _ T128 (mkF m 120 #[.val (.int i0), .val (.int i1), .val (.int i2), .val (.int i3), .val (.int i4), .val (.ref b122), .val (.int (i0 &&& (3 : Int32))), .val (.int (1 : Int32)), .val (.int ((((i0.toUInt32 >>> ((3 : Int32) &&& 31).toUInt32).toInt32) &&& (7 : Int32)) % (7 : Int32))), .unset, .unset] [(.int (110 : Int32)), (.int (0 : Int32)), (.ref b122)])
      obtain ⟨cl129, Ar129, q129, S129, N129_, H129, G129⟩ := id V128
      have hin129 : ¬ ((0 : Int32) < 0 ∨ cl129.slots.size ≤ ((0 : Int32)).toNatClampNeg) := inb_of S129 ⟨by decide, by decide⟩
      obtain ⟨T129, h129, X129, e129, W129, st129⟩ := stC X128 hx hZ e128 Ar129 (j := (0 : Int32)) hin129 (g := (mkF m 120 #[.val (.int i0), .val (.int i1), .val (.int i2), .val (.int i3), .val (.int i4), .val (.ref b122), .val (.int (i0 &&& (3 : Int32))), .val (.int (1 : Int32)), .val (.int ((((i0.toUInt32 >>> ((3 : Int32) &&& 31).toUInt32).toInt32) &&& (7 : Int32)) % (7 : Int32))), .unset, .unset] [(.int (110 : Int32)), (.int (0 : Int32)), (.ref b122)])) rfl rfl (hb hby at_120)
      have V129 : Arv Z h129 b122 k122 .char (6 : Int32) [(.int (nar .char (110 : Int32))), (.int (nar .char ((((i3.toUInt32 >>> ((8 : Int32) &&& 31).toUInt32).toInt32) &&& (255 : Int32)).toUInt32.toUInt16.toUInt32.toInt32))), (.int (nar .char ((((i3.toUInt32 >>> ((16 : Int32) &&& 31).toUInt32).toInt32) &&& (255 : Int32)).toUInt32.toUInt16.toUInt32.toInt32))), (.int (nar .char ((((i3.toUInt32 >>> ((24 : Int32) &&& 31).toUInt32).toInt32) &&& (255 : Int32)).toUInt32.toUInt16.toUInt32.toInt32))), (.int (nar .char ((i4 &&& (255 : Int32)).toUInt32.toUInt16.toUInt32.toInt32))), (.int (nar .char ((((i4.toUInt32 >>> ((8 : Int32) &&& 31).toUInt32).toInt32) &&& (255 : Int32)).toUInt32.toUInt16.toUInt32.toInt32)))] (.int (0 : Int32)) := Arv.set Ar129 q129 S129 N129_ H129 G129 (fits_nar_char _) W129 0 rfl (Nat.le_of_ble_eq_true rfl)
      have OLD129 := OLD128.wr W129 g_b122
      have Zs129 : n0 ≤ h129.size := (by rw [W129.size]; exact Zs128)
      have hk := Nat.le_trans hk (Nat.le_of_eq W129.size.symm)
      have N129 := Fr.snoc X129 N128 g_b122
      refine own_stepW st129 ?_
      show own_EndsW p e below s _ _ _ T129 (mkF m 121 #[.val (.int i0), .val (.int i1), .val (.int i2), .val (.int i3), .val (.int i4), .val (.ref b122), .val (.int (i0 &&& (3 : Int32))), .val (.int (1 : Int32)), .val (.int ((((i0.toUInt32 >>> ((3 : Int32) &&& 31).toUInt32).toInt32) &&& (7 : Int32)) % (7 : Int32))), .unset, .unset] [])
      refine own_stepW (fun _ => XS.aload X129.here hx rfl (hb hby at_121) rfl rfl) ?_
      show own_EndsW p e below s _ _ _ T129 (mkF m 123 #[.val (.int i0), .val (.int i1), .val (.int i2), .val (.int i3), .val (.int i4), .val (.ref b122), .val (.int (i0 &&& (3 : Int32))), .val (.int (1 : Int32)), .val (.int ((((i0.toUInt32 >>> ((3 : Int32) &&& 31).toUInt32).toInt32) &&& (7 : Int32)) % (7 : Int32))), .unset, .unset] [(.ref b122)])
      refine own_stepW (fun _ => XS.iconst X129.here hx rfl (hb hby at_123)) ?_
      show own_EndsW p e below s _ _ _ T129 (mkF m 124 #[.val (.int i0), .val (.int i1), .val (.int i2), .val (.int i3), .val (.int i4), .val (.ref b122), .val (.int (i0 &&& (3 : Int32))), .val (.int (1 : Int32)), .val (.int ((((i0.toUInt32 >>> ((3 : Int32) &&& 31).toUInt32).toInt32) &&& (7 : Int32)) % (7 : Int32))), .unset, .unset] [(.int (1 : Int32)), (.ref b122)])
      refine own_stepW (fun _ => XS.bipush X129.here hx rfl (hb hby at_124)) ?_
      show own_EndsW p e below s _ _ _ T129 (mkF m 126 #[.val (.int i0), .val (.int i1), .val (.int i2), .val (.int i3), .val (.int i4), .val (.ref b122), .val (.int (i0 &&& (3 : Int32))), .val (.int (1 : Int32)), .val (.int ((((i0.toUInt32 >>> ((3 : Int32) &&& 31).toUInt32).toInt32) &&& (7 : Int32)) % (7 : Int32))), .unset, .unset] [(.int (97 : Int32)), (.int (1 : Int32)), (.ref b122)])
      obtain ⟨cl130, Ar130, q130, S130, N130_, H130, G130⟩ := id V129
      have hin130 : ¬ ((1 : Int32) < 0 ∨ cl130.slots.size ≤ ((1 : Int32)).toNatClampNeg) := inb_of S130 ⟨by decide, by decide⟩
      obtain ⟨T130, h130, X130, e130, W130, st130⟩ := stC X129 hx hZ e129 Ar130 (j := (1 : Int32)) hin130 (g := (mkF m 126 #[.val (.int i0), .val (.int i1), .val (.int i2), .val (.int i3), .val (.int i4), .val (.ref b122), .val (.int (i0 &&& (3 : Int32))), .val (.int (1 : Int32)), .val (.int ((((i0.toUInt32 >>> ((3 : Int32) &&& 31).toUInt32).toInt32) &&& (7 : Int32)) % (7 : Int32))), .unset, .unset] [(.int (97 : Int32)), (.int (1 : Int32)), (.ref b122)])) rfl rfl (hb hby at_126)
      have V130 : Arv Z h130 b122 k122 .char (6 : Int32) [(.int (nar .char (110 : Int32))), (.int (nar .char (97 : Int32))), (.int (nar .char ((((i3.toUInt32 >>> ((16 : Int32) &&& 31).toUInt32).toInt32) &&& (255 : Int32)).toUInt32.toUInt16.toUInt32.toInt32))), (.int (nar .char ((((i3.toUInt32 >>> ((24 : Int32) &&& 31).toUInt32).toInt32) &&& (255 : Int32)).toUInt32.toUInt16.toUInt32.toInt32))), (.int (nar .char ((i4 &&& (255 : Int32)).toUInt32.toUInt16.toUInt32.toInt32))), (.int (nar .char ((((i4.toUInt32 >>> ((8 : Int32) &&& 31).toUInt32).toInt32) &&& (255 : Int32)).toUInt32.toUInt16.toUInt32.toInt32)))] (.int (0 : Int32)) := Arv.set Ar130 q130 S130 N130_ H130 G130 (fits_nar_char _) W130 1 rfl (Nat.le_of_ble_eq_true rfl)
      have OLD130 := OLD129.wr W130 g_b122
      have Zs130 : n0 ≤ h130.size := (by rw [W130.size]; exact Zs129)
      have hk := Nat.le_trans hk (Nat.le_of_eq W130.size.symm)
      have N130 := Fr.snoc X130 N129 g_b122
      refine own_stepW st130 ?_
      show own_EndsW p e below s _ _ _ T130 (mkF m 127 #[.val (.int i0), .val (.int i1), .val (.int i2), .val (.int i3), .val (.int i4), .val (.ref b122), .val (.int (i0 &&& (3 : Int32))), .val (.int (1 : Int32)), .val (.int ((((i0.toUInt32 >>> ((3 : Int32) &&& 31).toUInt32).toInt32) &&& (7 : Int32)) % (7 : Int32))), .unset, .unset] [])
      refine own_stepW (fun _ => XS.aload X130.here hx rfl (hb hby at_127) rfl rfl) ?_
      show own_EndsW p e below s _ _ _ T130 (mkF m 129 #[.val (.int i0), .val (.int i1), .val (.int i2), .val (.int i3), .val (.int i4), .val (.ref b122), .val (.int (i0 &&& (3 : Int32))), .val (.int (1 : Int32)), .val (.int ((((i0.toUInt32 >>> ((3 : Int32) &&& 31).toUInt32).toInt32) &&& (7 : Int32)) % (7 : Int32))), .unset, .unset] [(.ref b122)])
      refine own_stepW (fun _ => XS.iconst X130.here hx rfl (hb hby at_129)) ?_
      show own_EndsW p e below s _ _ _ T130 (mkF m 130 #[.val (.int i0), .val (.int i1), .val (.int i2), .val (.int i3), .val (.int i4), .val (.ref b122), .val (.int (i0 &&& (3 : Int32))), .val (.int (1 : Int32)), .val (.int ((((i0.toUInt32 >>> ((3 : Int32) &&& 31).toUInt32).toInt32) &&& (7 : Int32)) % (7 : Int32))), .unset, .unset] [(.int (2 : Int32)), (.ref b122)])
      refine own_stepW (fun _ => XS.bipush X130.here hx rfl (hb hby at_130)) ?_
      show own_EndsW p e below s _ _ _ T130 (mkF m 132 #[.val (.int i0), .val (.int i1), .val (.int i2), .val (.int i3), .val (.int i4), .val (.ref b122), .val (.int (i0 &&& (3 : Int32))), .val (.int (1 : Int32)), .val (.int ((((i0.toUInt32 >>> ((3 : Int32) &&& 31).toUInt32).toInt32) &&& (7 : Int32)) % (7 : Int32))), .unset, .unset] [(.int (109 : Int32)), (.int (2 : Int32)), (.ref b122)])
      obtain ⟨cl131, Ar131, q131, S131, N131_, H131, G131⟩ := id V130
      have hin131 : ¬ ((2 : Int32) < 0 ∨ cl131.slots.size ≤ ((2 : Int32)).toNatClampNeg) := inb_of S131 ⟨by decide, by decide⟩
      obtain ⟨T131, h131, X131, e131, W131, st131⟩ := stC X130 hx hZ e130 Ar131 (j := (2 : Int32)) hin131 (g := (mkF m 132 #[.val (.int i0), .val (.int i1), .val (.int i2), .val (.int i3), .val (.int i4), .val (.ref b122), .val (.int (i0 &&& (3 : Int32))), .val (.int (1 : Int32)), .val (.int ((((i0.toUInt32 >>> ((3 : Int32) &&& 31).toUInt32).toInt32) &&& (7 : Int32)) % (7 : Int32))), .unset, .unset] [(.int (109 : Int32)), (.int (2 : Int32)), (.ref b122)])) rfl rfl (hb hby at_132)
      have V131 : Arv Z h131 b122 k122 .char (6 : Int32) [(.int (nar .char (110 : Int32))), (.int (nar .char (97 : Int32))), (.int (nar .char (109 : Int32))), (.int (nar .char ((((i3.toUInt32 >>> ((24 : Int32) &&& 31).toUInt32).toInt32) &&& (255 : Int32)).toUInt32.toUInt16.toUInt32.toInt32))), (.int (nar .char ((i4 &&& (255 : Int32)).toUInt32.toUInt16.toUInt32.toInt32))), (.int (nar .char ((((i4.toUInt32 >>> ((8 : Int32) &&& 31).toUInt32).toInt32) &&& (255 : Int32)).toUInt32.toUInt16.toUInt32.toInt32)))] (.int (0 : Int32)) := Arv.set Ar131 q131 S131 N131_ H131 G131 (fits_nar_char _) W131 2 rfl (Nat.le_of_ble_eq_true rfl)
      have OLD131 := OLD130.wr W131 g_b122
      have Zs131 : n0 ≤ h131.size := (by rw [W131.size]; exact Zs130)
      have hk := Nat.le_trans hk (Nat.le_of_eq W131.size.symm)
      have N131 := Fr.snoc X131 N130 g_b122
      refine own_stepW st131 ?_
      show own_EndsW p e below s _ _ _ T131 (mkF m 133 #[.val (.int i0), .val (.int i1), .val (.int i2), .val (.int i3), .val (.int i4), .val (.ref b122), .val (.int (i0 &&& (3 : Int32))), .val (.int (1 : Int32)), .val (.int ((((i0.toUInt32 >>> ((3 : Int32) &&& 31).toUInt32).toInt32) &&& (7 : Int32)) % (7 : Int32))), .unset, .unset] [])
      refine own_stepW (fun _ => XS.aload X131.here hx rfl (hb hby at_133) rfl rfl) ?_
      show own_EndsW p e below s _ _ _ T131 (mkF m 135 #[.val (.int i0), .val (.int i1), .val (.int i2), .val (.int i3), .val (.int i4), .val (.ref b122), .val (.int (i0 &&& (3 : Int32))), .val (.int (1 : Int32)), .val (.int ((((i0.toUInt32 >>> ((3 : Int32) &&& 31).toUInt32).toInt32) &&& (7 : Int32)) % (7 : Int32))), .unset, .unset] [(.ref b122)])
      refine own_stepW (fun _ => XS.iconst X131.here hx rfl (hb hby at_135)) ?_
      show own_EndsW p e below s _ _ _ T131 (mkF m 136 #[.val (.int i0), .val (.int i1), .val (.int i2), .val (.int i3), .val (.int i4), .val (.ref b122), .val (.int (i0 &&& (3 : Int32))), .val (.int (1 : Int32)), .val (.int ((((i0.toUInt32 >>> ((3 : Int32) &&& 31).toUInt32).toInt32) &&& (7 : Int32)) % (7 : Int32))), .unset, .unset] [(.int (3 : Int32)), (.ref b122)])
      refine own_stepW (fun _ => XS.bipush X131.here hx rfl (hb hby at_136)) ?_
      show own_EndsW p e below s _ _ _ T131 (mkF m 138 #[.val (.int i0), .val (.int i1), .val (.int i2), .val (.int i3), .val (.int i4), .val (.ref b122), .val (.int (i0 &&& (3 : Int32))), .val (.int (1 : Int32)), .val (.int ((((i0.toUInt32 >>> ((3 : Int32) &&& 31).toUInt32).toInt32) &&& (7 : Int32)) % (7 : Int32))), .unset, .unset] [(.int (101 : Int32)), (.int (3 : Int32)), (.ref b122)])
      obtain ⟨cl132, Ar132, q132, S132, N132_, H132, G132⟩ := id V131
      have hin132 : ¬ ((3 : Int32) < 0 ∨ cl132.slots.size ≤ ((3 : Int32)).toNatClampNeg) := inb_of S132 ⟨by decide, by decide⟩
      obtain ⟨T132, h132, X132, e132, W132, st132⟩ := stC X131 hx hZ e131 Ar132 (j := (3 : Int32)) hin132 (g := (mkF m 138 #[.val (.int i0), .val (.int i1), .val (.int i2), .val (.int i3), .val (.int i4), .val (.ref b122), .val (.int (i0 &&& (3 : Int32))), .val (.int (1 : Int32)), .val (.int ((((i0.toUInt32 >>> ((3 : Int32) &&& 31).toUInt32).toInt32) &&& (7 : Int32)) % (7 : Int32))), .unset, .unset] [(.int (101 : Int32)), (.int (3 : Int32)), (.ref b122)])) rfl rfl (hb hby at_138)
      have V132 : Arv Z h132 b122 k122 .char (6 : Int32) [(.int (nar .char (110 : Int32))), (.int (nar .char (97 : Int32))), (.int (nar .char (109 : Int32))), (.int (nar .char (101 : Int32))), (.int (nar .char ((i4 &&& (255 : Int32)).toUInt32.toUInt16.toUInt32.toInt32))), (.int (nar .char ((((i4.toUInt32 >>> ((8 : Int32) &&& 31).toUInt32).toInt32) &&& (255 : Int32)).toUInt32.toUInt16.toUInt32.toInt32)))] (.int (0 : Int32)) := Arv.set Ar132 q132 S132 N132_ H132 G132 (fits_nar_char _) W132 3 rfl (Nat.le_of_ble_eq_true rfl)
      have OLD132 := OLD131.wr W132 g_b122
      have Zs132 : n0 ≤ h132.size := (by rw [W132.size]; exact Zs131)
      have hk := Nat.le_trans hk (Nat.le_of_eq W132.size.symm)
      have N132 := Fr.snoc X132 N131 g_b122
      refine own_stepW st132 ?_
      show own_EndsW p e below s _ _ _ T132 (mkF m 139 #[.val (.int i0), .val (.int i1), .val (.int i2), .val (.int i3), .val (.int i4), .val (.ref b122), .val (.int (i0 &&& (3 : Int32))), .val (.int (1 : Int32)), .val (.int ((((i0.toUInt32 >>> ((3 : Int32) &&& 31).toUInt32).toInt32) &&& (7 : Int32)) % (7 : Int32))), .unset, .unset] [])
      refine own_stepW (fun _ => XS.iload X132.here hx rfl (hb hby at_139) rfl) ?_
      show own_EndsW p e below s _ _ _ T132 (mkF m 141 #[.val (.int i0), .val (.int i1), .val (.int i2), .val (.int i3), .val (.int i4), .val (.ref b122), .val (.int (i0 &&& (3 : Int32))), .val (.int (1 : Int32)), .val (.int ((((i0.toUInt32 >>> ((3 : Int32) &&& 31).toUInt32).toInt32) &&& (7 : Int32)) % (7 : Int32))), .unset, .unset] [(.int (1 : Int32))])
      refine own_stepW (fun _ => XS.ifNo X132.here hx rfl (hb hby at_141) rfl ((if0 _ _).trans (feq (show ¬ ((1 : Int32) = (0 : Int32)) from (by decide))).1)) ?_
      show own_EndsW p e below s _ _ _ T132 (mkF m 144 #[.val (.int i0), .val (.int i1), .val (.int i2), .val (.int i3), .val (.int i4), .val (.ref b122), .val (.int (i0 &&& (3 : Int32))), .val (.int (1 : Int32)), .val (.int ((((i0.toUInt32 >>> ((3 : Int32) &&& 31).toUInt32).toInt32) &&& (7 : Int32)) % (7 : Int32))), .unset, .unset] [])
      refine own_stepW (fun _ => XS.iconst X132.here hx rfl (hb hby at_144)) ?_
      show own_EndsW p e below s _ _ _ T132 (mkF m 145 #[.val (.int i0), .val (.int i1), .val (.int i2), .val (.int i3), .val (.int i4), .val (.ref b122), .val (.int (i0 &&& (3 : Int32))), .val (.int (1 : Int32)), .val (.int ((((i0.toUInt32 >>> ((3 : Int32) &&& 31).toUInt32).toInt32) &&& (7 : Int32)) % (7 : Int32))), .unset, .unset] [(.int (4 : Int32))])
      refine own_stepW (fun _ => XS.istore X132.here hx rfl (hb hby at_145) rfl (l' := #[.val (.int i0), .val (.int i1), .val (.int i2), .val (.int i3), .val (.int i4), .val (.ref b122), .val (.int (i0 &&& (3 : Int32))), .val (.int (1 : Int32)), .val (.int (4 : Int32)), .unset, .unset]) rfl) ?_
      show own_EndsW p e below s _ _ _ T132 (mkF m 147 #[.val (.int i0), .val (.int i1), .val (.int i2), .val (.int i3), .val (.int i4), .val (.ref b122), .val (.int (i0 &&& (3 : Int32))), .val (.int (1 : Int32)), .val (.int (4 : Int32)), .unset, .unset] [])
      refine own_stepW (fun _ => XS.goto X132.here hx rfl (pc0 := 147) (pc' := 229) rfl (hb hby at_147) (by decide) (by decide)) ?_
      show own_EndsW p e below s _ _ _ T132 (mkF m 229 #[.val (.int i0), .val (.int i1), .val (.int i2), .val (.int i3), .val (.int i4), .val (.ref b122), .val (.int (i0 &&& (3 : Int32))), .val (.int (1 : Int32)), .val (.int (4 : Int32)), .unset, .unset] [])
      refine own_stepW (fun _ => XS.iloadN X132.here hx rfl (hb hby at_229) rfl) ?_
      show own_EndsW p e below s _ _ _ T132 (mkF m 230 #[.val (.int i0), .val (.int i1), .val (.int i2), .val (.int i3), .val (.int i4), .val (.ref b122), .val (.int (i0 &&& (3 : Int32))), .val (.int (1 : Int32)), .val (.int (4 : Int32)), .unset, .unset] [(.int i0)])
      refine own_stepW (fun _ => XS.iconst X132.here hx rfl (hb hby at_230)) ?_
      show own_EndsW p e below s _ _ _ T132 (mkF m 231 #[.val (.int i0), .val (.int i1), .val (.int i2), .val (.int i3), .val (.int i4), .val (.ref b122), .val (.int (i0 &&& (3 : Int32))), .val (.int (1 : Int32)), .val (.int (4 : Int32)), .unset, .unset] [(.int (4 : Int32)), (.int i0)])
      refine own_stepW (fun _ => XS.iand X132.here hx rfl (hb hby at_231) rfl) ?_
      show own_EndsW p e below s _ _ _ T132 (mkF m 232 #[.val (.int i0), .val (.int i1), .val (.int i2), .val (.int i3), .val (.int i4), .val (.ref b122), .val (.int (i0 &&& (3 : Int32))), .val (.int (1 : Int32)), .val (.int (4 : Int32)), .unset, .unset] [(.int (i0 &&& (4 : Int32)))])
      by_cases hc232 : (i0 &&& (4 : Int32)) = (0 : Int32)
      · have hv_t_t_t := hv_t_t.trans (if_pos hc232)
        refine own_stepW (fun _ => XS.ifYes X132.here hx rfl (pc0 := 232) (pc' := 251) rfl (hb hby at_232) rfl ((if0 _ _).trans (teq hc232).1) (by decide) (by decide)) ?_
        show own_EndsW p e below s _ _ _ T132 (mkF m 251 #[.val (.int i0), .val (.int i1), .val (.int i2), .val (.int i3), .val (.int i4), .val (.ref b122), .val (.int (i0 &&& (3 : Int32))), .val (.int (1 : Int32)), .val (.int (4 : Int32)), .unset, .unset] [])
        exact b0_251 C Zs132 hS hk X132 e132 N132 i0 i1 i2 i3 i4 G1 w3 w54 w83 w9 w22 w63 w92 w32 w73 w102 k_w9 k_w32 k_w73 k_w102 OLD132 O2 P5 bSNAME bSORG bSEMAIL bSALL bE0 bX0 bC0 bV0 bE1 bX1 bC1 bV1 bE2 bX2 bC2 bV2 bA0 bA1 bA2 bA3 CHZ  b122 (i0 &&& (3 : Int32)) (1 : Int32) (4 : Int32) k122 [(nar .char (110 : Int32)), (nar .char (97 : Int32)), (nar .char (109 : Int32)), (nar .char (101 : Int32)), (nar .char ((i4 &&& (255 : Int32)).toUInt32.toUInt16.toUInt32.toInt32)), (nar .char ((((i4.toUInt32 >>> ((8 : Int32) &&& 31).toUInt32).toInt32) &&& (255 : Int32)).toUInt32.toUInt16.toUInt32.toInt32))] (by decide) rfl (own_lc (by unfold own_R; decide) (own_lc (by unfold own_R; decide) (own_lc (by unfold own_R; decide) (own_lc (by unfold own_R; decide) (own_lc (own_c255 _) (own_lc (own_c255 _) own_ln)))))) V132 _ hv_t_t_t
      · have hv_t_t_f := hv_t_t.trans (if_neg hc232)
        refine own_stepW (fun _ => XS.ifNo X132.here hx rfl (hb hby at_232) rfl ((if0 _ _).trans (feq hc232).1)) ?_
        show own_EndsW p e below s _ _ _ T132 (mkF m 235 #[.val (.int i0), .val (.int i1), .val (.int i2), .val (.int i3), .val (.int i4), .val (.ref b122), .val (.int (i0 &&& (3 : Int32))), .val (.int (1 : Int32)), .val (.int (4 : Int32)), .unset, .unset] [])
        refine own_stepW (fun _ => XS.aload X132.here hx rfl (hb hby at_235) rfl rfl) ?_
        show own_EndsW p e below s _ _ _ T132 (mkF m 237 #[.val (.int i0), .val (.int i1), .val (.int i2), .val (.int i3), .val (.int i4), .val (.ref b122), .val (.int (i0 &&& (3 : Int32))), .val (.int (1 : Int32)), .val (.int (4 : Int32)), .unset, .unset] [(.ref b122)])
        refine own_stepW (fun _ => XS.iloadN X132.here hx rfl (hb hby at_237) rfl) ?_
        show own_EndsW p e below s _ _ _ T132 (mkF m 238 #[.val (.int i0), .val (.int i1), .val (.int i2), .val (.int i3), .val (.int i4), .val (.ref b122), .val (.int (i0 &&& (3 : Int32))), .val (.int (1 : Int32)), .val (.int (4 : Int32)), .unset, .unset] [(.int i1), (.ref b122)])
        refine own_stepW (fun _ => X132.ldcInt hx hown (mvT hZ (hw _ (List.mem_of_getElem? (i := 59) rfl))) (g := (mkF m 238 #[.val (.int i0), .val (.int i1), .val (.int i2), .val (.int i3), .val (.int i4), .val (.ref b122), .val (.int (i0 &&& (3 : Int32))), .val (.int (1 : Int32)), .val (.int (4 : Int32)), .unset, .unset] [(.int i1), (.ref b122)])) rfl (hb hby at_238) _) ?_
        show own_EndsW p e below s _ _ _ T132 (mkF m 240 #[.val (.int i0), .val (.int i1), .val (.int i2), .val (.int i3), .val (.int i4), .val (.ref b122), .val (.int (i0 &&& (3 : Int32))), .val (.int (1 : Int32)), .val (.int (4 : Int32)), .unset, .unset] [(.int (2147483647 : Int32)), (.int i1), (.ref b122)])
        refine own_stepW (fun _ => XS.iand X132.here hx rfl (hb hby at_240) rfl) ?_
        show own_EndsW p e below s _ _ _ T132 (mkF m 241 #[.val (.int i0), .val (.int i1), .val (.int i2), .val (.int i3), .val (.int i4), .val (.ref b122), .val (.int (i0 &&& (3 : Int32))), .val (.int (1 : Int32)), .val (.int (4 : Int32)), .unset, .unset] [(.int (i1 &&& (2147483647 : Int32))), (.ref b122)])
        refine own_stepW (fun _ => XS.bipush X132.here hx rfl (hb hby at_241)) ?_
        show own_EndsW p e below s _ _ _ T132 (mkF m 243 #[.val (.int i0), .val (.int i1), .val (.int i2), .val (.int i3), .val (.int i4), .val (.ref b122), .val (.int (i0 &&& (3 : Int32))), .val (.int (1 : Int32)), .val (.int (4 : Int32)), .unset, .unset] [(.int (6 : Int32)), (.int (i1 &&& (2147483647 : Int32))), (.ref b122)])
        refine own_stepW (fun _ => iremM X132 hx rfl (hb hby at_243) rfl (by decide)) ?_
        show own_EndsW p e below s _ _ _ T132 (mkF m 244 #[.val (.int i0), .val (.int i1), .val (.int i2), .val (.int i3), .val (.int i4), .val (.ref b122), .val (.int (i0 &&& (3 : Int32))), .val (.int (1 : Int32)), .val (.int (4 : Int32)), .unset, .unset] [(.int ((i1 &&& (2147483647 : Int32)) % (6 : Int32))), (.ref b122)])
        refine own_stepW (fun _ => XS.iloadN X132.here hx rfl (hb hby at_244) rfl) ?_
        show own_EndsW p e below s _ _ _ T132 (mkF m 245 #[.val (.int i0), .val (.int i1), .val (.int i2), .val (.int i3), .val (.int i4), .val (.ref b122), .val (.int (i0 &&& (3 : Int32))), .val (.int (1 : Int32)), .val (.int (4 : Int32)), .unset, .unset] [(.int i2), (.int ((i1 &&& (2147483647 : Int32)) % (6 : Int32))), (.ref b122)])
        refine own_stepW (fun _ => XS.sipush X132.here hx rfl (hb hby at_245)) ?_
        show own_EndsW p e below s _ _ _ T132 (mkF m 248 #[.val (.int i0), .val (.int i1), .val (.int i2), .val (.int i3), .val (.int i4), .val (.ref b122), .val (.int (i0 &&& (3 : Int32))), .val (.int (1 : Int32)), .val (.int (4 : Int32)), .unset, .unset] [(.int (255 : Int32)), (.int i2), (.int ((i1 &&& (2147483647 : Int32)) % (6 : Int32))), (.ref b122)])
        refine own_stepW (fun _ => XS.iand X132.here hx rfl (hb hby at_248) rfl) ?_
        show own_EndsW p e below s _ _ _ T132 (mkF m 249 #[.val (.int i0), .val (.int i1), .val (.int i2), .val (.int i3), .val (.int i4), .val (.ref b122), .val (.int (i0 &&& (3 : Int32))), .val (.int (1 : Int32)), .val (.int (4 : Int32)), .unset, .unset] [(.int (i2 &&& (255 : Int32))), (.int ((i1 &&& (2147483647 : Int32)) % (6 : Int32))), (.ref b122)])
        refine own_stepW (fun _ => XS.i2c X132.here hx rfl (hb hby at_249) rfl) ?_
        show own_EndsW p e below s _ _ _ T132 (mkF m 250 #[.val (.int i0), .val (.int i1), .val (.int i2), .val (.int i3), .val (.int i4), .val (.ref b122), .val (.int (i0 &&& (3 : Int32))), .val (.int (1 : Int32)), .val (.int (4 : Int32)), .unset, .unset] [(.int ((i2 &&& (255 : Int32)).toUInt32.toUInt16.toUInt32.toInt32)), (.int ((i1 &&& (2147483647 : Int32)) % (6 : Int32))), (.ref b122)])
        obtain ⟨cl133, Ar133, q133, S133, N133_, H133, G133⟩ := id V132
        have hin133 : ¬ (((i1 &&& (2147483647 : Int32)) % (6 : Int32)) < 0 ∨ cl133.slots.size ≤ (((i1 &&& (2147483647 : Int32)) % (6 : Int32))).toNatClampNeg) := inb_of S133 (own_at6 _)
        obtain ⟨T133, h133, X133, e133, W133, st133⟩ := stC X132 hx hZ e132 Ar133 (j := ((i1 &&& (2147483647 : Int32)) % (6 : Int32))) hin133 (g := (mkF m 250 #[.val (.int i0), .val (.int i1), .val (.int i2), .val (.int i3), .val (.int i4), .val (.ref b122), .val (.int (i0 &&& (3 : Int32))), .val (.int (1 : Int32)), .val (.int (4 : Int32)), .unset, .unset] [(.int ((i2 &&& (255 : Int32)).toUInt32.toUInt16.toUInt32.toInt32)), (.int ((i1 &&& (2147483647 : Int32)) % (6 : Int32))), (.ref b122)])) rfl rfl (hb hby at_250)
        have V133 : Arv Z h133 b122 k122 .char (6 : Int32) ((own_set [(nar .char (110 : Int32)), (nar .char (97 : Int32)), (nar .char (109 : Int32)), (nar .char (101 : Int32)), (nar .char ((i4 &&& (255 : Int32)).toUInt32.toUInt16.toUInt32.toInt32)), (nar .char ((((i4.toUInt32 >>> ((8 : Int32) &&& 31).toUInt32).toInt32) &&& (255 : Int32)).toUInt32.toUInt16.toUInt32.toInt32))] ((i1 &&& (2147483647 : Int32)) % (6 : Int32)) ((i2 &&& (255 : Int32)).toUInt32.toUInt16.toUInt32.toInt32)).map Value.int) (.int (0 : Int32)) := own_arvset (Arv.set Ar133 q133 S133 N133_ H133 G133 (fits_nar_char _) W133 _ rfl (Nat.lt_of_lt_of_eq (own_bd6 (own_at6 _)) rfl))
        have OLD133 := OLD132.wr W133 g_b122
        have Zs133 : n0 ≤ h133.size := (by rw [W133.size]; exact Zs132)
        have hk := Nat.le_trans hk (Nat.le_of_eq W133.size.symm)
        have N133 := Fr.snoc X133 N132 g_b122
        refine own_stepW st133 ?_
        show own_EndsW p e below s _ _ _ T133 (mkF m 251 #[.val (.int i0), .val (.int i1), .val (.int i2), .val (.int i3), .val (.int i4), .val (.ref b122), .val (.int (i0 &&& (3 : Int32))), .val (.int (1 : Int32)), .val (.int (4 : Int32)), .unset, .unset] [])
        exact b0_251 C Zs133 hS hk X133 e133 N133 i0 i1 i2 i3 i4 G1 w3 w54 w83 w9 w22 w63 w92 w32 w73 w102 k_w9 k_w32 k_w73 k_w102 OLD133 O2 P5 bSNAME bSORG bSEMAIL bSALL bE0 bX0 bC0 bV0 bE1 bX1 bC1 bV1 bE2 bX2 bC2 bV2 bA0 bA1 bA2 bA3 CHZ  b122 (i0 &&& (3 : Int32)) (1 : Int32) (4 : Int32) k122 (own_set [(nar .char (110 : Int32)), (nar .char (97 : Int32)), (nar .char (109 : Int32)), (nar .char (101 : Int32)), (nar .char ((i4 &&& (255 : Int32)).toUInt32.toUInt16.toUInt32.toInt32)), (nar .char ((((i4.toUInt32 >>> ((8 : Int32) &&& 31).toUInt32).toInt32) &&& (255 : Int32)).toUInt32.toUInt16.toUInt32.toInt32))] ((i1 &&& (2147483647 : Int32)) % (6 : Int32)) ((i2 &&& (255 : Int32)).toUInt32.toUInt16.toUInt32.toInt32)) (by decide) (own_setlen _ _ _) (own_rset (own_lc (by unfold own_R; decide) (own_lc (by unfold own_R; decide) (own_lc (by unfold own_R; decide) (own_lc (by unfold own_R; decide) (own_lc (own_c255 _) (own_lc (own_c255 _) own_ln)))))) (own_c255 _)) V133 _ hv_t_t_f
    · have hv_t_f := hv_t.trans (if_neg hc112)
      refine own_stepW (fun _ => XS.ifYes X128.here hx rfl (pc0 := 112) (pc' := 150) rfl (hb hby at_112) rfl ((if0 _ _).trans (feq hc112).2) (by decide) (by decide)) ?_
      show own_EndsW p e below s _ _ _ T128 (mkF m 150 #[.val (.int i0), .val (.int i1), .val (.int i2), .val (.int i3), .val (.int i4), .val (.ref b122), .val (.int (i0 &&& (3 : Int32))), .val (.int (1 : Int32)), .val (.int ((((i0.toUInt32 >>> ((3 : Int32) &&& 31).toUInt32).toInt32) &&& (7 : Int32)) % (7 : Int32))), .unset, .unset] [])
      refine own_stepW (fun _ => XS.iload X128.here hx rfl (hb hby at_150) rfl) ?_
      show own_EndsW p e below s _ _ _ T128 (mkF m 152 #[.val (.int i0), .val (.int i1), .val (.int i2), .val (.int i3), .val (.int i4), .val (.ref b122), .val (.int (i0 &&& (3 : Int32))), .val (.int (1 : Int32)), .val (.int ((((i0.toUInt32 >>> ((3 : Int32) &&& 31).toUInt32).toInt32) &&& (7 : Int32)) % (7 : Int32))), .unset, .unset] [(.int (i0 &&& (3 : Int32)))])
      refine own_stepW (fun _ => XS.iconst X128.here hx rfl (hb hby at_152)) ?_
      show own_EndsW p e below s _ _ _ T128 (mkF m 153 #[.val (.int i0), .val (.int i1), .val (.int i2), .val (.int i3), .val (.int i4), .val (.ref b122), .val (.int (i0 &&& (3 : Int32))), .val (.int (1 : Int32)), .val (.int ((((i0.toUInt32 >>> ((3 : Int32) &&& 31).toUInt32).toInt32) &&& (7 : Int32)) % (7 : Int32))), .unset, .unset] [(.int (1 : Int32)), (.int (i0 &&& (3 : Int32)))])
      by_cases hc153 : (i0 &&& (3 : Int32)) = (1 : Int32)
      · have hv_t_f_t := hv_t_f.trans (if_pos hc153)
        refine own_stepW (fun _ => XS.icmpNo X128.here hx rfl (hb hby at_153) rfl (teq hc153).2) ?_
        show own_EndsW p e below s _ _ _ T128 (mkF m 156 #[.val (.int i0), .val (.int i1), .val (.int i2), .val (.int i3), .val (.int i4), .val (.ref b122), .val (.int (i0 &&& (3 : Int32))), .val (.int (1 : Int32)), .val (.int ((((i0.toUInt32 >>> ((3 : Int32) &&& 31).toUInt32).toInt32) &&& (7 : Int32)) % (7 : Int32))), .unset, .unset] [])
        refine own_stepW (fun _ => XS.aload X128.here hx rfl (hb hby at_156) rfl rfl) ?_
        show own_EndsW p e below s _ _ _ T128 (mkF m 158 #[.val (.int i0), .val (.int i1), .val (.int i2), .val (.int i3), .val (.int i4), .val (.ref b122), .val (.int (i0 &&& (3 : Int32))), .val (.int (1 : Int32)), .val (.int ((((i0.toUInt32 >>> ((3 : Int32) &&& 31).toUInt32).toInt32) &&& (7 : Int32)) % (7 : Int32))), .unset, .unset] [(.ref b122)])
        refine own_stepW (fun _ => XS.iconst X128.here hx rfl (hb hby at_158)) ?_
        show own_EndsW p e below s _ _ _ T128 (mkF m 159 #[.val (.int i0), .val (.int i1), .val (.int i2), .val (.int i3), .val (.int i4), .val (.ref b122), .val (.int (i0 &&& (3 : Int32))), .val (.int (1 : Int32)), .val (.int ((((i0.toUInt32 >>> ((3 : Int32) &&& 31).toUInt32).toInt32) &&& (7 : Int32)) % (7 : Int32))), .unset, .unset] [(.int (0 : Int32)), (.ref b122)])
        refine own_stepW (fun _ => XS.bipush X128.here hx rfl (hb hby at_159)) ?_
        show own_EndsW p e below s _ _ _ T128 (mkF m 161 #[.val (.int i0), .val (.int i1), .val (.int i2), .val (.int i3), .val (.int i4), .val (.ref b122), .val (.int (i0 &&& (3 : Int32))), .val (.int (1 : Int32)), .val (.int ((((i0.toUInt32 >>> ((3 : Int32) &&& 31).toUInt32).toInt32) &&& (7 : Int32)) % (7 : Int32))), .unset, .unset] [(.int (111 : Int32)), (.int (0 : Int32)), (.ref b122)])
        obtain ⟨cl134, Ar134, q134, S134, N134_, H134, G134⟩ := id V128
        have hin134 : ¬ ((0 : Int32) < 0 ∨ cl134.slots.size ≤ ((0 : Int32)).toNatClampNeg) := inb_of S134 ⟨by decide, by decide⟩
        obtain ⟨T134, h134, X134, e134, W134, st134⟩ := stC X128 hx hZ e128 Ar134 (j := (0 : Int32)) hin134 (g := (mkF m 161 #[.val (.int i0), .val (.int i1), .val (.int i2), .val (.int i3), .val (.int i4), .val (.ref b122), .val (.int (i0 &&& (3 : Int32))), .val (.int (1 : Int32)), .val (.int ((((i0.toUInt32 >>> ((3 : Int32) &&& 31).toUInt32).toInt32) &&& (7 : Int32)) % (7 : Int32))), .unset, .unset] [(.int (111 : Int32)), (.int (0 : Int32)), (.ref b122)])) rfl rfl (hb hby at_161)
        have V134 : Arv Z h134 b122 k122 .char (6 : Int32) [(.int (nar .char (111 : Int32))), (.int (nar .char ((((i3.toUInt32 >>> ((8 : Int32) &&& 31).toUInt32).toInt32) &&& (255 : Int32)).toUInt32.toUInt16.toUInt32.toInt32))), (.int (nar .char ((((i3.toUInt32 >>> ((16 : Int32) &&& 31).toUInt32).toInt32) &&& (255 : Int32)).toUInt32.toUInt16.toUInt32.toInt32))), (.int (nar .char ((((i3.toUInt32 >>> ((24 : Int32) &&& 31).toUInt32).toInt32) &&& (255 : Int32)).toUInt32.toUInt16.toUInt32.toInt32))), (.int (nar .char ((i4 &&& (255 : Int32)).toUInt32.toUInt16.toUInt32.toInt32))), (.int (nar .char ((((i4.toUInt32 >>> ((8 : Int32) &&& 31).toUInt32).toInt32) &&& (255 : Int32)).toUInt32.toUInt16.toUInt32.toInt32)))] (.int (0 : Int32)) := Arv.set Ar134 q134 S134 N134_ H134 G134 (fits_nar_char _) W134 0 rfl (Nat.le_of_ble_eq_true rfl)
        have OLD134 := OLD128.wr W134 g_b122
        have Zs134 : n0 ≤ h134.size := (by rw [W134.size]; exact Zs128)
        have hk := Nat.le_trans hk (Nat.le_of_eq W134.size.symm)
        have N134 := Fr.snoc X134 N128 g_b122
        refine own_stepW st134 ?_
        show own_EndsW p e below s _ _ _ T134 (mkF m 162 #[.val (.int i0), .val (.int i1), .val (.int i2), .val (.int i3), .val (.int i4), .val (.ref b122), .val (.int (i0 &&& (3 : Int32))), .val (.int (1 : Int32)), .val (.int ((((i0.toUInt32 >>> ((3 : Int32) &&& 31).toUInt32).toInt32) &&& (7 : Int32)) % (7 : Int32))), .unset, .unset] [])
        refine own_stepW (fun _ => XS.aload X134.here hx rfl (hb hby at_162) rfl rfl) ?_
        show own_EndsW p e below s _ _ _ T134 (mkF m 164 #[.val (.int i0), .val (.int i1), .val (.int i2), .val (.int i3), .val (.int i4), .val (.ref b122), .val (.int (i0 &&& (3 : Int32))), .val (.int (1 : Int32)), .val (.int ((((i0.toUInt32 >>> ((3 : Int32) &&& 31).toUInt32).toInt32) &&& (7 : Int32)) % (7 : Int32))), .unset, .unset] [(.ref b122)])
        refine own_stepW (fun _ => XS.iconst X134.here hx rfl (hb hby at_164)) ?_
        show own_EndsW p e below s _ _ _ T134 (mkF m 165 #[.val (.int i0), .val (.int i1), .val (.int i2), .val (.int i3), .val (.int i4), .val (.ref b122), .val (.int (i0 &&& (3 : Int32))), .val (.int (1 : Int32)), .val (.int ((((i0.toUInt32 >>> ((3 : Int32) &&& 31).toUInt32).toInt32) &&& (7 : Int32)) % (7 : Int32))), .unset, .unset] [(.int (1 : Int32)), (.ref b122)])
        refine own_stepW (fun _ => XS.bipush X134.here hx rfl (hb hby at_165)) ?_
        show own_EndsW p e below s _ _ _ T134 (mkF m 167 #[.val (.int i0), .val (.int i1), .val (.int i2), .val (.int i3), .val (.int i4), .val (.ref b122), .val (.int (i0 &&& (3 : Int32))), .val (.int (1 : Int32)), .val (.int ((((i0.toUInt32 >>> ((3 : Int32) &&& 31).toUInt32).toInt32) &&& (7 : Int32)) % (7 : Int32))), .unset, .unset] [(.int (114 : Int32)), (.int (1 : Int32)), (.ref b122)])
        obtain ⟨cl135, Ar135, q135, S135, N135_, H135, G135⟩ := id V134
        have hin135 : ¬ ((1 : Int32) < 0 ∨ cl135.slots.size ≤ ((1 : Int32)).toNatClampNeg) := inb_of S135 ⟨by decide, by decide⟩
        obtain ⟨T135, h135, X135, e135, W135, st135⟩ := stC X134 hx hZ e134 Ar135 (j := (1 : Int32)) hin135 (g := (mkF m 167 #[.val (.int i0), .val (.int i1), .val (.int i2), .val (.int i3), .val (.int i4), .val (.ref b122), .val (.int (i0 &&& (3 : Int32))), .val (.int (1 : Int32)), .val (.int ((((i0.toUInt32 >>> ((3 : Int32) &&& 31).toUInt32).toInt32) &&& (7 : Int32)) % (7 : Int32))), .unset, .unset] [(.int (114 : Int32)), (.int (1 : Int32)), (.ref b122)])) rfl rfl (hb hby at_167)
        have V135 : Arv Z h135 b122 k122 .char (6 : Int32) [(.int (nar .char (111 : Int32))), (.int (nar .char (114 : Int32))), (.int (nar .char ((((i3.toUInt32 >>> ((16 : Int32) &&& 31).toUInt32).toInt32) &&& (255 : Int32)).toUInt32.toUInt16.toUInt32.toInt32))), (.int (nar .char ((((i3.toUInt32 >>> ((24 : Int32) &&& 31).toUInt32).toInt32) &&& (255 : Int32)).toUInt32.toUInt16.toUInt32.toInt32))), (.int (nar .char ((i4 &&& (255 : Int32)).toUInt32.toUInt16.toUInt32.toInt32))), (.int (nar .char ((((i4.toUInt32 >>> ((8 : Int32) &&& 31).toUInt32).toInt32) &&& (255 : Int32)).toUInt32.toUInt16.toUInt32.toInt32)))] (.int (0 : Int32)) := Arv.set Ar135 q135 S135 N135_ H135 G135 (fits_nar_char _) W135 1 rfl (Nat.le_of_ble_eq_true rfl)
        have OLD135 := OLD134.wr W135 g_b122
        have Zs135 : n0 ≤ h135.size := (by rw [W135.size]; exact Zs134)
        have hk := Nat.le_trans hk (Nat.le_of_eq W135.size.symm)
        have N135 := Fr.snoc X135 N134 g_b122
        refine own_stepW st135 ?_
        show own_EndsW p e below s _ _ _ T135 (mkF m 168 #[.val (.int i0), .val (.int i1), .val (.int i2), .val (.int i3), .val (.int i4), .val (.ref b122), .val (.int (i0 &&& (3 : Int32))), .val (.int (1 : Int32)), .val (.int ((((i0.toUInt32 >>> ((3 : Int32) &&& 31).toUInt32).toInt32) &&& (7 : Int32)) % (7 : Int32))), .unset, .unset] [])
        refine own_stepW (fun _ => XS.aload X135.here hx rfl (hb hby at_168) rfl rfl) ?_
        show own_EndsW p e below s _ _ _ T135 (mkF m 170 #[.val (.int i0), .val (.int i1), .val (.int i2), .val (.int i3), .val (.int i4), .val (.ref b122), .val (.int (i0 &&& (3 : Int32))), .val (.int (1 : Int32)), .val (.int ((((i0.toUInt32 >>> ((3 : Int32) &&& 31).toUInt32).toInt32) &&& (7 : Int32)) % (7 : Int32))), .unset, .unset] [(.ref b122)])
        refine own_stepW (fun _ => XS.iconst X135.here hx rfl (hb hby at_170)) ?_
        show own_EndsW p e below s _ _ _ T135 (mkF m 171 #[.val (.int i0), .val (.int i1), .val (.int i2), .val (.int i3), .val (.int i4), .val (.ref b122), .val (.int (i0 &&& (3 : Int32))), .val (.int (1 : Int32)), .val (.int ((((i0.toUInt32 >>> ((3 : Int32) &&& 31).toUInt32).toInt32) &&& (7 : Int32)) % (7 : Int32))), .unset, .unset] [(.int (2 : Int32)), (.ref b122)])
        refine own_stepW (fun _ => XS.bipush X135.here hx rfl (hb hby at_171)) ?_
        show own_EndsW p e below s _ _ _ T135 (mkF m 173 #[.val (.int i0), .val (.int i1), .val (.int i2), .val (.int i3), .val (.int i4), .val (.ref b122), .val (.int (i0 &&& (3 : Int32))), .val (.int (1 : Int32)), .val (.int ((((i0.toUInt32 >>> ((3 : Int32) &&& 31).toUInt32).toInt32) &&& (7 : Int32)) % (7 : Int32))), .unset, .unset] [(.int (103 : Int32)), (.int (2 : Int32)), (.ref b122)])
        obtain ⟨cl136, Ar136, q136, S136, N136_, H136, G136⟩ := id V135
        have hin136 : ¬ ((2 : Int32) < 0 ∨ cl136.slots.size ≤ ((2 : Int32)).toNatClampNeg) := inb_of S136 ⟨by decide, by decide⟩
        obtain ⟨T136, h136, X136, e136, W136, st136⟩ := stC X135 hx hZ e135 Ar136 (j := (2 : Int32)) hin136 (g := (mkF m 173 #[.val (.int i0), .val (.int i1), .val (.int i2), .val (.int i3), .val (.int i4), .val (.ref b122), .val (.int (i0 &&& (3 : Int32))), .val (.int (1 : Int32)), .val (.int ((((i0.toUInt32 >>> ((3 : Int32) &&& 31).toUInt32).toInt32) &&& (7 : Int32)) % (7 : Int32))), .unset, .unset] [(.int (103 : Int32)), (.int (2 : Int32)), (.ref b122)])) rfl rfl (hb hby at_173)
        have V136 : Arv Z h136 b122 k122 .char (6 : Int32) [(.int (nar .char (111 : Int32))), (.int (nar .char (114 : Int32))), (.int (nar .char (103 : Int32))), (.int (nar .char ((((i3.toUInt32 >>> ((24 : Int32) &&& 31).toUInt32).toInt32) &&& (255 : Int32)).toUInt32.toUInt16.toUInt32.toInt32))), (.int (nar .char ((i4 &&& (255 : Int32)).toUInt32.toUInt16.toUInt32.toInt32))), (.int (nar .char ((((i4.toUInt32 >>> ((8 : Int32) &&& 31).toUInt32).toInt32) &&& (255 : Int32)).toUInt32.toUInt16.toUInt32.toInt32)))] (.int (0 : Int32)) := Arv.set Ar136 q136 S136 N136_ H136 G136 (fits_nar_char _) W136 2 rfl (Nat.le_of_ble_eq_true rfl)
        have OLD136 := OLD135.wr W136 g_b122
        have Zs136 : n0 ≤ h136.size := (by rw [W136.size]; exact Zs135)
        have hk := Nat.le_trans hk (Nat.le_of_eq W136.size.symm)
        have N136 := Fr.snoc X136 N135 g_b122
        refine own_stepW st136 ?_
        show own_EndsW p e below s _ _ _ T136 (mkF m 174 #[.val (.int i0), .val (.int i1), .val (.int i2), .val (.int i3), .val (.int i4), .val (.ref b122), .val (.int (i0 &&& (3 : Int32))), .val (.int (1 : Int32)), .val (.int ((((i0.toUInt32 >>> ((3 : Int32) &&& 31).toUInt32).toInt32) &&& (7 : Int32)) % (7 : Int32))), .unset, .unset] [])
        refine own_stepW (fun _ => XS.iload X136.here hx rfl (hb hby at_174) rfl) ?_
        show own_EndsW p e below s _ _ _ T136 (mkF m 176 #[.val (.int i0), .val (.int i1), .val (.int i2), .val (.int i3), .val (.int i4), .val (.ref b122), .val (.int (i0 &&& (3 : Int32))), .val (.int (1 : Int32)), .val (.int ((((i0.toUInt32 >>> ((3 : Int32) &&& 31).toUInt32).toInt32) &&& (7 : Int32)) % (7 : Int32))), .unset, .unset] [(.int (1 : Int32))])
        refine own_stepW (fun _ => XS.ifNo X136.here hx rfl (hb hby at_176) rfl ((if0 _ _).trans (feq (show ¬ ((1 : Int32) = (0 : Int32)) from (by decide))).1)) ?_
        show own_EndsW p e below s _ _ _ T136 (mkF m 179 #[.val (.int i0), .val (.int i1), .val (.int i2), .val (.int i3), .val (.int i4), .val (.ref b122), .val (.int (i0 &&& (3 : Int32))), .val (.int (1 : Int32)), .val (.int ((((i0.toUInt32 >>> ((3 : Int32) &&& 31).toUInt32).toInt32) &&& (7 : Int32)) % (7 : Int32))), .unset, .unset] [])
        refine own_stepW (fun _ => XS.iconst X136.here hx rfl (hb hby at_179)) ?_
        show own_EndsW p e below s _ _ _ T136 (mkF m 180 #[.val (.int i0), .val (.int i1), .val (.int i2), .val (.int i3), .val (.int i4), .val (.ref b122), .val (.int (i0 &&& (3 : Int32))), .val (.int (1 : Int32)), .val (.int ((((i0.toUInt32 >>> ((3 : Int32) &&& 31).toUInt32).toInt32) &&& (7 : Int32)) % (7 : Int32))), .unset, .unset] [(.int (3 : Int32))])
        refine own_stepW (fun _ => XS.istore X136.here hx rfl (hb hby at_180) rfl (l' := #[.val (.int i0), .val (.int i1), .val (.int i2), .val (.int i3), .val (.int i4), .val (.ref b122), .val (.int (i0 &&& (3 : Int32))), .val (.int (1 : Int32)), .val (.int (3 : Int32)), .unset, .unset]) rfl) ?_
        show own_EndsW p e below s _ _ _ T136 (mkF m 182 #[.val (.int i0), .val (.int i1), .val (.int i2), .val (.int i3), .val (.int i4), .val (.ref b122), .val (.int (i0 &&& (3 : Int32))), .val (.int (1 : Int32)), .val (.int (3 : Int32)), .unset, .unset] [])
        refine own_stepW (fun _ => XS.goto X136.here hx rfl (pc0 := 182) (pc' := 229) rfl (hb hby at_182) (by decide) (by decide)) ?_
        show own_EndsW p e below s _ _ _ T136 (mkF m 229 #[.val (.int i0), .val (.int i1), .val (.int i2), .val (.int i3), .val (.int i4), .val (.ref b122), .val (.int (i0 &&& (3 : Int32))), .val (.int (1 : Int32)), .val (.int (3 : Int32)), .unset, .unset] [])
        refine own_stepW (fun _ => XS.iloadN X136.here hx rfl (hb hby at_229) rfl) ?_
        show own_EndsW p e below s _ _ _ T136 (mkF m 230 #[.val (.int i0), .val (.int i1), .val (.int i2), .val (.int i3), .val (.int i4), .val (.ref b122), .val (.int (i0 &&& (3 : Int32))), .val (.int (1 : Int32)), .val (.int (3 : Int32)), .unset, .unset] [(.int i0)])
        refine own_stepW (fun _ => XS.iconst X136.here hx rfl (hb hby at_230)) ?_
        show own_EndsW p e below s _ _ _ T136 (mkF m 231 #[.val (.int i0), .val (.int i1), .val (.int i2), .val (.int i3), .val (.int i4), .val (.ref b122), .val (.int (i0 &&& (3 : Int32))), .val (.int (1 : Int32)), .val (.int (3 : Int32)), .unset, .unset] [(.int (4 : Int32)), (.int i0)])
        refine own_stepW (fun _ => XS.iand X136.here hx rfl (hb hby at_231) rfl) ?_
        show own_EndsW p e below s _ _ _ T136 (mkF m 232 #[.val (.int i0), .val (.int i1), .val (.int i2), .val (.int i3), .val (.int i4), .val (.ref b122), .val (.int (i0 &&& (3 : Int32))), .val (.int (1 : Int32)), .val (.int (3 : Int32)), .unset, .unset] [(.int (i0 &&& (4 : Int32)))])
        by_cases hc232 : (i0 &&& (4 : Int32)) = (0 : Int32)
        · have hv_t_f_t_t := hv_t_f_t.trans (if_pos hc232)
          refine own_stepW (fun _ => XS.ifYes X136.here hx rfl (pc0 := 232) (pc' := 251) rfl (hb hby at_232) rfl ((if0 _ _).trans (teq hc232).1) (by decide) (by decide)) ?_
          show own_EndsW p e below s _ _ _ T136 (mkF m 251 #[.val (.int i0), .val (.int i1), .val (.int i2), .val (.int i3), .val (.int i4), .val (.ref b122), .val (.int (i0 &&& (3 : Int32))), .val (.int (1 : Int32)), .val (.int (3 : Int32)), .unset, .unset] [])
          exact b0_251 C Zs136 hS hk X136 e136 N136 i0 i1 i2 i3 i4 G1 w3 w54 w83 w9 w22 w63 w92 w32 w73 w102 k_w9 k_w32 k_w73 k_w102 OLD136 O2 P5 bSNAME bSORG bSEMAIL bSALL bE0 bX0 bC0 bV0 bE1 bX1 bC1 bV1 bE2 bX2 bC2 bV2 bA0 bA1 bA2 bA3 CHZ  b122 (i0 &&& (3 : Int32)) (1 : Int32) (3 : Int32) k122 [(nar .char (111 : Int32)), (nar .char (114 : Int32)), (nar .char (103 : Int32)), (nar .char ((((i3.toUInt32 >>> ((24 : Int32) &&& 31).toUInt32).toInt32) &&& (255 : Int32)).toUInt32.toUInt16.toUInt32.toInt32)), (nar .char ((i4 &&& (255 : Int32)).toUInt32.toUInt16.toUInt32.toInt32)), (nar .char ((((i4.toUInt32 >>> ((8 : Int32) &&& 31).toUInt32).toInt32) &&& (255 : Int32)).toUInt32.toUInt16.toUInt32.toInt32))] (by decide) rfl (own_lc (by unfold own_R; decide) (own_lc (by unfold own_R; decide) (own_lc (by unfold own_R; decide) (own_lc (own_c255 _) (own_lc (own_c255 _) (own_lc (own_c255 _) own_ln)))))) V136 _ hv_t_f_t_t
        · have hv_t_f_t_f := hv_t_f_t.trans (if_neg hc232)
          refine own_stepW (fun _ => XS.ifNo X136.here hx rfl (hb hby at_232) rfl ((if0 _ _).trans (feq hc232).1)) ?_
          show own_EndsW p e below s _ _ _ T136 (mkF m 235 #[.val (.int i0), .val (.int i1), .val (.int i2), .val (.int i3), .val (.int i4), .val (.ref b122), .val (.int (i0 &&& (3 : Int32))), .val (.int (1 : Int32)), .val (.int (3 : Int32)), .unset, .unset] [])
          refine own_stepW (fun _ => XS.aload X136.here hx rfl (hb hby at_235) rfl rfl) ?_
          show own_EndsW p e below s _ _ _ T136 (mkF m 237 #[.val (.int i0), .val (.int i1), .val (.int i2), .val (.int i3), .val (.int i4), .val (.ref b122), .val (.int (i0 &&& (3 : Int32))), .val (.int (1 : Int32)), .val (.int (3 : Int32)), .unset, .unset] [(.ref b122)])
          refine own_stepW (fun _ => XS.iloadN X136.here hx rfl (hb hby at_237) rfl) ?_
          show own_EndsW p e below s _ _ _ T136 (mkF m 238 #[.val (.int i0), .val (.int i1), .val (.int i2), .val (.int i3), .val (.int i4), .val (.ref b122), .val (.int (i0 &&& (3 : Int32))), .val (.int (1 : Int32)), .val (.int (3 : Int32)), .unset, .unset] [(.int i1), (.ref b122)])
          refine own_stepW (fun _ => X136.ldcInt hx hown (mvT hZ (hw _ (List.mem_of_getElem? (i := 59) rfl))) (g := (mkF m 238 #[.val (.int i0), .val (.int i1), .val (.int i2), .val (.int i3), .val (.int i4), .val (.ref b122), .val (.int (i0 &&& (3 : Int32))), .val (.int (1 : Int32)), .val (.int (3 : Int32)), .unset, .unset] [(.int i1), (.ref b122)])) rfl (hb hby at_238) _) ?_
          show own_EndsW p e below s _ _ _ T136 (mkF m 240 #[.val (.int i0), .val (.int i1), .val (.int i2), .val (.int i3), .val (.int i4), .val (.ref b122), .val (.int (i0 &&& (3 : Int32))), .val (.int (1 : Int32)), .val (.int (3 : Int32)), .unset, .unset] [(.int (2147483647 : Int32)), (.int i1), (.ref b122)])
          refine own_stepW (fun _ => XS.iand X136.here hx rfl (hb hby at_240) rfl) ?_
          show own_EndsW p e below s _ _ _ T136 (mkF m 241 #[.val (.int i0), .val (.int i1), .val (.int i2), .val (.int i3), .val (.int i4), .val (.ref b122), .val (.int (i0 &&& (3 : Int32))), .val (.int (1 : Int32)), .val (.int (3 : Int32)), .unset, .unset] [(.int (i1 &&& (2147483647 : Int32))), (.ref b122)])
          refine own_stepW (fun _ => XS.bipush X136.here hx rfl (hb hby at_241)) ?_
          show own_EndsW p e below s _ _ _ T136 (mkF m 243 #[.val (.int i0), .val (.int i1), .val (.int i2), .val (.int i3), .val (.int i4), .val (.ref b122), .val (.int (i0 &&& (3 : Int32))), .val (.int (1 : Int32)), .val (.int (3 : Int32)), .unset, .unset] [(.int (6 : Int32)), (.int (i1 &&& (2147483647 : Int32))), (.ref b122)])
          refine own_stepW (fun _ => iremM X136 hx rfl (hb hby at_243) rfl (by decide)) ?_
          show own_EndsW p e below s _ _ _ T136 (mkF m 244 #[.val (.int i0), .val (.int i1), .val (.int i2), .val (.int i3), .val (.int i4), .val (.ref b122), .val (.int (i0 &&& (3 : Int32))), .val (.int (1 : Int32)), .val (.int (3 : Int32)), .unset, .unset] [(.int ((i1 &&& (2147483647 : Int32)) % (6 : Int32))), (.ref b122)])
          refine own_stepW (fun _ => XS.iloadN X136.here hx rfl (hb hby at_244) rfl) ?_
          show own_EndsW p e below s _ _ _ T136 (mkF m 245 #[.val (.int i0), .val (.int i1), .val (.int i2), .val (.int i3), .val (.int i4), .val (.ref b122), .val (.int (i0 &&& (3 : Int32))), .val (.int (1 : Int32)), .val (.int (3 : Int32)), .unset, .unset] [(.int i2), (.int ((i1 &&& (2147483647 : Int32)) % (6 : Int32))), (.ref b122)])
          refine own_stepW (fun _ => XS.sipush X136.here hx rfl (hb hby at_245)) ?_
          show own_EndsW p e below s _ _ _ T136 (mkF m 248 #[.val (.int i0), .val (.int i1), .val (.int i2), .val (.int i3), .val (.int i4), .val (.ref b122), .val (.int (i0 &&& (3 : Int32))), .val (.int (1 : Int32)), .val (.int (3 : Int32)), .unset, .unset] [(.int (255 : Int32)), (.int i2), (.int ((i1 &&& (2147483647 : Int32)) % (6 : Int32))), (.ref b122)])
          refine own_stepW (fun _ => XS.iand X136.here hx rfl (hb hby at_248) rfl) ?_
          show own_EndsW p e below s _ _ _ T136 (mkF m 249 #[.val (.int i0), .val (.int i1), .val (.int i2), .val (.int i3), .val (.int i4), .val (.ref b122), .val (.int (i0 &&& (3 : Int32))), .val (.int (1 : Int32)), .val (.int (3 : Int32)), .unset, .unset] [(.int (i2 &&& (255 : Int32))), (.int ((i1 &&& (2147483647 : Int32)) % (6 : Int32))), (.ref b122)])
          refine own_stepW (fun _ => XS.i2c X136.here hx rfl (hb hby at_249) rfl) ?_
          show own_EndsW p e below s _ _ _ T136 (mkF m 250 #[.val (.int i0), .val (.int i1), .val (.int i2), .val (.int i3), .val (.int i4), .val (.ref b122), .val (.int (i0 &&& (3 : Int32))), .val (.int (1 : Int32)), .val (.int (3 : Int32)), .unset, .unset] [(.int ((i2 &&& (255 : Int32)).toUInt32.toUInt16.toUInt32.toInt32)), (.int ((i1 &&& (2147483647 : Int32)) % (6 : Int32))), (.ref b122)])
          obtain ⟨cl137, Ar137, q137, S137, N137_, H137, G137⟩ := id V136
          have hin137 : ¬ (((i1 &&& (2147483647 : Int32)) % (6 : Int32)) < 0 ∨ cl137.slots.size ≤ (((i1 &&& (2147483647 : Int32)) % (6 : Int32))).toNatClampNeg) := inb_of S137 (own_at6 _)
          obtain ⟨T137, h137, X137, e137, W137, st137⟩ := stC X136 hx hZ e136 Ar137 (j := ((i1 &&& (2147483647 : Int32)) % (6 : Int32))) hin137 (g := (mkF m 250 #[.val (.int i0), .val (.int i1), .val (.int i2), .val (.int i3), .val (.int i4), .val (.ref b122), .val (.int (i0 &&& (3 : Int32))), .val (.int (1 : Int32)), .val (.int (3 : Int32)), .unset, .unset] [(.int ((i2 &&& (255 : Int32)).toUInt32.toUInt16.toUInt32.toInt32)), (.int ((i1 &&& (2147483647 : Int32)) % (6 : Int32))), (.ref b122)])) rfl rfl (hb hby at_250)
          have V137 : Arv Z h137 b122 k122 .char (6 : Int32) ((own_set [(nar .char (111 : Int32)), (nar .char (114 : Int32)), (nar .char (103 : Int32)), (nar .char ((((i3.toUInt32 >>> ((24 : Int32) &&& 31).toUInt32).toInt32) &&& (255 : Int32)).toUInt32.toUInt16.toUInt32.toInt32)), (nar .char ((i4 &&& (255 : Int32)).toUInt32.toUInt16.toUInt32.toInt32)), (nar .char ((((i4.toUInt32 >>> ((8 : Int32) &&& 31).toUInt32).toInt32) &&& (255 : Int32)).toUInt32.toUInt16.toUInt32.toInt32))] ((i1 &&& (2147483647 : Int32)) % (6 : Int32)) ((i2 &&& (255 : Int32)).toUInt32.toUInt16.toUInt32.toInt32)).map Value.int) (.int (0 : Int32)) := own_arvset (Arv.set Ar137 q137 S137 N137_ H137 G137 (fits_nar_char _) W137 _ rfl (Nat.lt_of_lt_of_eq (own_bd6 (own_at6 _)) rfl))
          have OLD137 := OLD136.wr W137 g_b122
          have Zs137 : n0 ≤ h137.size := (by rw [W137.size]; exact Zs136)
          have hk := Nat.le_trans hk (Nat.le_of_eq W137.size.symm)
          have N137 := Fr.snoc X137 N136 g_b122
          refine own_stepW st137 ?_
          show own_EndsW p e below s _ _ _ T137 (mkF m 251 #[.val (.int i0), .val (.int i1), .val (.int i2), .val (.int i3), .val (.int i4), .val (.ref b122), .val (.int (i0 &&& (3 : Int32))), .val (.int (1 : Int32)), .val (.int (3 : Int32)), .unset, .unset] [])
          exact b0_251 C Zs137 hS hk X137 e137 N137 i0 i1 i2 i3 i4 G1 w3 w54 w83 w9 w22 w63 w92 w32 w73 w102 k_w9 k_w32 k_w73 k_w102 OLD137 O2 P5 bSNAME bSORG bSEMAIL bSALL bE0 bX0 bC0 bV0 bE1 bX1 bC1 bV1 bE2 bX2 bC2 bV2 bA0 bA1 bA2 bA3 CHZ  b122 (i0 &&& (3 : Int32)) (1 : Int32) (3 : Int32) k122 (own_set [(nar .char (111 : Int32)), (nar .char (114 : Int32)), (nar .char (103 : Int32)), (nar .char ((((i3.toUInt32 >>> ((24 : Int32) &&& 31).toUInt32).toInt32) &&& (255 : Int32)).toUInt32.toUInt16.toUInt32.toInt32)), (nar .char ((i4 &&& (255 : Int32)).toUInt32.toUInt16.toUInt32.toInt32)), (nar .char ((((i4.toUInt32 >>> ((8 : Int32) &&& 31).toUInt32).toInt32) &&& (255 : Int32)).toUInt32.toUInt16.toUInt32.toInt32))] ((i1 &&& (2147483647 : Int32)) % (6 : Int32)) ((i2 &&& (255 : Int32)).toUInt32.toUInt16.toUInt32.toInt32)) (by decide) (own_setlen _ _ _) (own_rset (own_lc (by unfold own_R; decide) (own_lc (by unfold own_R; decide) (own_lc (by unfold own_R; decide) (own_lc (own_c255 _) (own_lc (own_c255 _) (own_lc (own_c255 _) own_ln)))))) (own_c255 _)) V137 _ hv_t_f_t_f
      · have hv_t_f_f := hv_t_f.trans (if_neg hc153)
        refine own_stepW (fun _ => XS.icmpYes X128.here hx rfl (pc0 := 153) (pc' := 185) rfl (hb hby at_153) rfl (feq hc153).2 (by decide) (by decide)) ?_
        show own_EndsW p e below s _ _ _ T128 (mkF m 185 #[.val (.int i0), .val (.int i1), .val (.int i2), .val (.int i3), .val (.int i4), .val (.ref b122), .val (.int (i0 &&& (3 : Int32))), .val (.int (1 : Int32)), .val (.int ((((i0.toUInt32 >>> ((3 : Int32) &&& 31).toUInt32).toInt32) &&& (7 : Int32)) % (7 : Int32))), .unset, .unset] [])
        refine own_stepW (fun _ => XS.iload X128.here hx rfl (hb hby at_185) rfl) ?_
        show own_EndsW p e below s _ _ _ T128 (mkF m 187 #[.val (.int i0), .val (.int i1), .val (.int i2), .val (.int i3), .val (.int i4), .val (.ref b122), .val (.int (i0 &&& (3 : Int32))), .val (.int (1 : Int32)), .val (.int ((((i0.toUInt32 >>> ((3 : Int32) &&& 31).toUInt32).toInt32) &&& (7 : Int32)) % (7 : Int32))), .unset, .unset] [(.int (i0 &&& (3 : Int32)))])
        refine own_stepW (fun _ => XS.iconst X128.here hx rfl (hb hby at_187)) ?_
        show own_EndsW p e below s _ _ _ T128 (mkF m 188 #[.val (.int i0), .val (.int i1), .val (.int i2), .val (.int i3), .val (.int i4), .val (.ref b122), .val (.int (i0 &&& (3 : Int32))), .val (.int (1 : Int32)), .val (.int ((((i0.toUInt32 >>> ((3 : Int32) &&& 31).toUInt32).toInt32) &&& (7 : Int32)) % (7 : Int32))), .unset, .unset] [(.int (2 : Int32)), (.int (i0 &&& (3 : Int32)))])
        by_cases hc188 : (i0 &&& (3 : Int32)) = (2 : Int32)
        · have hv_t_f_f_t := hv_t_f_f.trans (if_pos hc188)
          refine own_stepW (fun _ => XS.icmpNo X128.here hx rfl (hb hby at_188) rfl (teq hc188).2) ?_
          show own_EndsW p e below s _ _ _ T128 (mkF m 191 #[.val (.int i0), .val (.int i1), .val (.int i2), .val (.int i3), .val (.int i4), .val (.ref b122), .val (.int (i0 &&& (3 : Int32))), .val (.int (1 : Int32)), .val (.int ((((i0.toUInt32 >>> ((3 : Int32) &&& 31).toUInt32).toInt32) &&& (7 : Int32)) % (7 : Int32))), .unset, .unset] [])
          refine own_stepW (fun _ => XS.aload X128.here hx rfl (hb hby at_191) rfl rfl) ?_
          show own_EndsW p e below s _ _ _ T128 (mkF m 193 #[.val (.int i0), .val (.int i1), .val (.int i2), .val (.int i3), .val (.int i4), .val (.ref b122), .val (.int (i0 &&& (3 : Int32))), .val (.int (1 : Int32)), .val (.int ((((i0.toUInt32 >>> ((3 : Int32) &&& 31).toUInt32).toInt32) &&& (7 : Int32)) % (7 : Int32))), .unset, .unset] [(.ref b122)])
          refine own_stepW (fun _ => XS.iconst X128.here hx rfl (hb hby at_193)) ?_
          show own_EndsW p e below s _ _ _ T128 (mkF m 194 #[.val (.int i0), .val (.int i1), .val (.int i2), .val (.int i3), .val (.int i4), .val (.ref b122), .val (.int (i0 &&& (3 : Int32))), .val (.int (1 : Int32)), .val (.int ((((i0.toUInt32 >>> ((3 : Int32) &&& 31).toUInt32).toInt32) &&& (7 : Int32)) % (7 : Int32))), .unset, .unset] [(.int (0 : Int32)), (.ref b122)])
          refine own_stepW (fun _ => XS.bipush X128.here hx rfl (hb hby at_194)) ?_
          show own_EndsW p e below s _ _ _ T128 (mkF m 196 #[.val (.int i0), .val (.int i1), .val (.int i2), .val (.int i3), .val (.int i4), .val (.ref b122), .val (.int (i0 &&& (3 : Int32))), .val (.int (1 : Int32)), .val (.int ((((i0.toUInt32 >>> ((3 : Int32) &&& 31).toUInt32).toInt32) &&& (7 : Int32)) % (7 : Int32))), .unset, .unset] [(.int (101 : Int32)), (.int (0 : Int32)), (.ref b122)])
          obtain ⟨cl138, Ar138, q138, S138, N138_, H138, G138⟩ := id V128
          have hin138 : ¬ ((0 : Int32) < 0 ∨ cl138.slots.size ≤ ((0 : Int32)).toNatClampNeg) := inb_of S138 ⟨by decide, by decide⟩
          obtain ⟨T138, h138, X138, e138, W138, st138⟩ := stC X128 hx hZ e128 Ar138 (j := (0 : Int32)) hin138 (g := (mkF m 196 #[.val (.int i0), .val (.int i1), .val (.int i2), .val (.int i3), .val (.int i4), .val (.ref b122), .val (.int (i0 &&& (3 : Int32))), .val (.int (1 : Int32)), .val (.int ((((i0.toUInt32 >>> ((3 : Int32) &&& 31).toUInt32).toInt32) &&& (7 : Int32)) % (7 : Int32))), .unset, .unset] [(.int (101 : Int32)), (.int (0 : Int32)), (.ref b122)])) rfl rfl (hb hby at_196)
          have V138 : Arv Z h138 b122 k122 .char (6 : Int32) [(.int (nar .char (101 : Int32))), (.int (nar .char ((((i3.toUInt32 >>> ((8 : Int32) &&& 31).toUInt32).toInt32) &&& (255 : Int32)).toUInt32.toUInt16.toUInt32.toInt32))), (.int (nar .char ((((i3.toUInt32 >>> ((16 : Int32) &&& 31).toUInt32).toInt32) &&& (255 : Int32)).toUInt32.toUInt16.toUInt32.toInt32))), (.int (nar .char ((((i3.toUInt32 >>> ((24 : Int32) &&& 31).toUInt32).toInt32) &&& (255 : Int32)).toUInt32.toUInt16.toUInt32.toInt32))), (.int (nar .char ((i4 &&& (255 : Int32)).toUInt32.toUInt16.toUInt32.toInt32))), (.int (nar .char ((((i4.toUInt32 >>> ((8 : Int32) &&& 31).toUInt32).toInt32) &&& (255 : Int32)).toUInt32.toUInt16.toUInt32.toInt32)))] (.int (0 : Int32)) := Arv.set Ar138 q138 S138 N138_ H138 G138 (fits_nar_char _) W138 0 rfl (Nat.le_of_ble_eq_true rfl)
          have OLD138 := OLD128.wr W138 g_b122
          have Zs138 : n0 ≤ h138.size := (by rw [W138.size]; exact Zs128)
          have hk := Nat.le_trans hk (Nat.le_of_eq W138.size.symm)
          have N138 := Fr.snoc X138 N128 g_b122
          refine own_stepW st138 ?_
          show own_EndsW p e below s _ _ _ T138 (mkF m 197 #[.val (.int i0), .val (.int i1), .val (.int i2), .val (.int i3), .val (.int i4), .val (.ref b122), .val (.int (i0 &&& (3 : Int32))), .val (.int (1 : Int32)), .val (.int ((((i0.toUInt32 >>> ((3 : Int32) &&& 31).toUInt32).toInt32) &&& (7 : Int32)) % (7 : Int32))), .unset, .unset] [])
          refine own_stepW (fun _ => XS.aload X138.here hx rfl (hb hby at_197) rfl rfl) ?_
          show own_EndsW p e below s _ _ _ T138 (mkF m 199 #[.val (.int i0), .val (.int i1), .val (.int i2), .val (.int i3), .val (.int i4), .val (.ref b122), .val (.int (i0 &&& (3 : Int32))), .val (.int (1 : Int32)), .val (.int ((((i0.toUInt32 >>> ((3 : Int32) &&& 31).toUInt32).toInt32) &&& (7 : Int32)) % (7 : Int32))), .unset, .unset] [(.ref b122)])
          refine own_stepW (fun _ => XS.iconst X138.here hx rfl (hb hby at_199)) ?_
          show own_EndsW p e below s _ _ _ T138 (mkF m 200 #[.val (.int i0), .val (.int i1), .val (.int i2), .val (.int i3), .val (.int i4), .val (.ref b122), .val (.int (i0 &&& (3 : Int32))), .val (.int (1 : Int32)), .val (.int ((((i0.toUInt32 >>> ((3 : Int32) &&& 31).toUInt32).toInt32) &&& (7 : Int32)) % (7 : Int32))), .unset, .unset] [(.int (1 : Int32)), (.ref b122)])
          refine own_stepW (fun _ => XS.bipush X138.here hx rfl (hb hby at_200)) ?_
          show own_EndsW p e below s _ _ _ T138 (mkF m 202 #[.val (.int i0), .val (.int i1), .val (.int i2), .val (.int i3), .val (.int i4), .val (.ref b122), .val (.int (i0 &&& (3 : Int32))), .val (.int (1 : Int32)), .val (.int ((((i0.toUInt32 >>> ((3 : Int32) &&& 31).toUInt32).toInt32) &&& (7 : Int32)) % (7 : Int32))), .unset, .unset] [(.int (109 : Int32)), (.int (1 : Int32)), (.ref b122)])
          obtain ⟨cl139, Ar139, q139, S139, N139_, H139, G139⟩ := id V138
          have hin139 : ¬ ((1 : Int32) < 0 ∨ cl139.slots.size ≤ ((1 : Int32)).toNatClampNeg) := inb_of S139 ⟨by decide, by decide⟩
          obtain ⟨T139, h139, X139, e139, W139, st139⟩ := stC X138 hx hZ e138 Ar139 (j := (1 : Int32)) hin139 (g := (mkF m 202 #[.val (.int i0), .val (.int i1), .val (.int i2), .val (.int i3), .val (.int i4), .val (.ref b122), .val (.int (i0 &&& (3 : Int32))), .val (.int (1 : Int32)), .val (.int ((((i0.toUInt32 >>> ((3 : Int32) &&& 31).toUInt32).toInt32) &&& (7 : Int32)) % (7 : Int32))), .unset, .unset] [(.int (109 : Int32)), (.int (1 : Int32)), (.ref b122)])) rfl rfl (hb hby at_202)
          have V139 : Arv Z h139 b122 k122 .char (6 : Int32) [(.int (nar .char (101 : Int32))), (.int (nar .char (109 : Int32))), (.int (nar .char ((((i3.toUInt32 >>> ((16 : Int32) &&& 31).toUInt32).toInt32) &&& (255 : Int32)).toUInt32.toUInt16.toUInt32.toInt32))), (.int (nar .char ((((i3.toUInt32 >>> ((24 : Int32) &&& 31).toUInt32).toInt32) &&& (255 : Int32)).toUInt32.toUInt16.toUInt32.toInt32))), (.int (nar .char ((i4 &&& (255 : Int32)).toUInt32.toUInt16.toUInt32.toInt32))), (.int (nar .char ((((i4.toUInt32 >>> ((8 : Int32) &&& 31).toUInt32).toInt32) &&& (255 : Int32)).toUInt32.toUInt16.toUInt32.toInt32)))] (.int (0 : Int32)) := Arv.set Ar139 q139 S139 N139_ H139 G139 (fits_nar_char _) W139 1 rfl (Nat.le_of_ble_eq_true rfl)
          have OLD139 := OLD138.wr W139 g_b122
          have Zs139 : n0 ≤ h139.size := (by rw [W139.size]; exact Zs138)
          have hk := Nat.le_trans hk (Nat.le_of_eq W139.size.symm)
          have N139 := Fr.snoc X139 N138 g_b122
          refine own_stepW st139 ?_
          show own_EndsW p e below s _ _ _ T139 (mkF m 203 #[.val (.int i0), .val (.int i1), .val (.int i2), .val (.int i3), .val (.int i4), .val (.ref b122), .val (.int (i0 &&& (3 : Int32))), .val (.int (1 : Int32)), .val (.int ((((i0.toUInt32 >>> ((3 : Int32) &&& 31).toUInt32).toInt32) &&& (7 : Int32)) % (7 : Int32))), .unset, .unset] [])
          refine own_stepW (fun _ => XS.aload X139.here hx rfl (hb hby at_203) rfl rfl) ?_
          show own_EndsW p e below s _ _ _ T139 (mkF m 205 #[.val (.int i0), .val (.int i1), .val (.int i2), .val (.int i3), .val (.int i4), .val (.ref b122), .val (.int (i0 &&& (3 : Int32))), .val (.int (1 : Int32)), .val (.int ((((i0.toUInt32 >>> ((3 : Int32) &&& 31).toUInt32).toInt32) &&& (7 : Int32)) % (7 : Int32))), .unset, .unset] [(.ref b122)])
          refine own_stepW (fun _ => XS.iconst X139.here hx rfl (hb hby at_205)) ?_
          show own_EndsW p e below s _ _ _ T139 (mkF m 206 #[.val (.int i0), .val (.int i1), .val (.int i2), .val (.int i3), .val (.int i4), .val (.ref b122), .val (.int (i0 &&& (3 : Int32))), .val (.int (1 : Int32)), .val (.int ((((i0.toUInt32 >>> ((3 : Int32) &&& 31).toUInt32).toInt32) &&& (7 : Int32)) % (7 : Int32))), .unset, .unset] [(.int (2 : Int32)), (.ref b122)])
          refine own_stepW (fun _ => XS.bipush X139.here hx rfl (hb hby at_206)) ?_
          show own_EndsW p e below s _ _ _ T139 (mkF m 208 #[.val (.int i0), .val (.int i1), .val (.int i2), .val (.int i3), .val (.int i4), .val (.ref b122), .val (.int (i0 &&& (3 : Int32))), .val (.int (1 : Int32)), .val (.int ((((i0.toUInt32 >>> ((3 : Int32) &&& 31).toUInt32).toInt32) &&& (7 : Int32)) % (7 : Int32))), .unset, .unset] [(.int (97 : Int32)), (.int (2 : Int32)), (.ref b122)])
          obtain ⟨cl140, Ar140, q140, S140, N140_, H140, G140⟩ := id V139
          have hin140 : ¬ ((2 : Int32) < 0 ∨ cl140.slots.size ≤ ((2 : Int32)).toNatClampNeg) := inb_of S140 ⟨by decide, by decide⟩
          obtain ⟨T140, h140, X140, e140, W140, st140⟩ := stC X139 hx hZ e139 Ar140 (j := (2 : Int32)) hin140 (g := (mkF m 208 #[.val (.int i0), .val (.int i1), .val (.int i2), .val (.int i3), .val (.int i4), .val (.ref b122), .val (.int (i0 &&& (3 : Int32))), .val (.int (1 : Int32)), .val (.int ((((i0.toUInt32 >>> ((3 : Int32) &&& 31).toUInt32).toInt32) &&& (7 : Int32)) % (7 : Int32))), .unset, .unset] [(.int (97 : Int32)), (.int (2 : Int32)), (.ref b122)])) rfl rfl (hb hby at_208)
          have V140 : Arv Z h140 b122 k122 .char (6 : Int32) [(.int (nar .char (101 : Int32))), (.int (nar .char (109 : Int32))), (.int (nar .char (97 : Int32))), (.int (nar .char ((((i3.toUInt32 >>> ((24 : Int32) &&& 31).toUInt32).toInt32) &&& (255 : Int32)).toUInt32.toUInt16.toUInt32.toInt32))), (.int (nar .char ((i4 &&& (255 : Int32)).toUInt32.toUInt16.toUInt32.toInt32))), (.int (nar .char ((((i4.toUInt32 >>> ((8 : Int32) &&& 31).toUInt32).toInt32) &&& (255 : Int32)).toUInt32.toUInt16.toUInt32.toInt32)))] (.int (0 : Int32)) := Arv.set Ar140 q140 S140 N140_ H140 G140 (fits_nar_char _) W140 2 rfl (Nat.le_of_ble_eq_true rfl)
          have OLD140 := OLD139.wr W140 g_b122
          have Zs140 : n0 ≤ h140.size := (by rw [W140.size]; exact Zs139)
          have hk := Nat.le_trans hk (Nat.le_of_eq W140.size.symm)
          have N140 := Fr.snoc X140 N139 g_b122
          refine own_stepW st140 ?_
          show own_EndsW p e below s _ _ _ T140 (mkF m 209 #[.val (.int i0), .val (.int i1), .val (.int i2), .val (.int i3), .val (.int i4), .val (.ref b122), .val (.int (i0 &&& (3 : Int32))), .val (.int (1 : Int32)), .val (.int ((((i0.toUInt32 >>> ((3 : Int32) &&& 31).toUInt32).toInt32) &&& (7 : Int32)) % (7 : Int32))), .unset, .unset] [])
          refine own_stepW (fun _ => XS.aload X140.here hx rfl (hb hby at_209) rfl rfl) ?_
          show own_EndsW p e below s _ _ _ T140 (mkF m 211 #[.val (.int i0), .val (.int i1), .val (.int i2), .val (.int i3), .val (.int i4), .val (.ref b122), .val (.int (i0 &&& (3 : Int32))), .val (.int (1 : Int32)), .val (.int ((((i0.toUInt32 >>> ((3 : Int32) &&& 31).toUInt32).toInt32) &&& (7 : Int32)) % (7 : Int32))), .unset, .unset] [(.ref b122)])
          refine own_stepW (fun _ => XS.iconst X140.here hx rfl (hb hby at_211)) ?_
          show own_EndsW p e below s _ _ _ T140 (mkF m 212 #[.val (.int i0), .val (.int i1), .val (.int i2), .val (.int i3), .val (.int i4), .val (.ref b122), .val (.int (i0 &&& (3 : Int32))), .val (.int (1 : Int32)), .val (.int ((((i0.toUInt32 >>> ((3 : Int32) &&& 31).toUInt32).toInt32) &&& (7 : Int32)) % (7 : Int32))), .unset, .unset] [(.int (3 : Int32)), (.ref b122)])
          refine own_stepW (fun _ => XS.bipush X140.here hx rfl (hb hby at_212)) ?_
          show own_EndsW p e below s _ _ _ T140 (mkF m 214 #[.val (.int i0), .val (.int i1), .val (.int i2), .val (.int i3), .val (.int i4), .val (.ref b122), .val (.int (i0 &&& (3 : Int32))), .val (.int (1 : Int32)), .val (.int ((((i0.toUInt32 >>> ((3 : Int32) &&& 31).toUInt32).toInt32) &&& (7 : Int32)) % (7 : Int32))), .unset, .unset] [(.int (105 : Int32)), (.int (3 : Int32)), (.ref b122)])
          obtain ⟨cl141, Ar141, q141, S141, N141_, H141, G141⟩ := id V140
          have hin141 : ¬ ((3 : Int32) < 0 ∨ cl141.slots.size ≤ ((3 : Int32)).toNatClampNeg) := inb_of S141 ⟨by decide, by decide⟩
          obtain ⟨T141, h141, X141, e141, W141, st141⟩ := stC X140 hx hZ e140 Ar141 (j := (3 : Int32)) hin141 (g := (mkF m 214 #[.val (.int i0), .val (.int i1), .val (.int i2), .val (.int i3), .val (.int i4), .val (.ref b122), .val (.int (i0 &&& (3 : Int32))), .val (.int (1 : Int32)), .val (.int ((((i0.toUInt32 >>> ((3 : Int32) &&& 31).toUInt32).toInt32) &&& (7 : Int32)) % (7 : Int32))), .unset, .unset] [(.int (105 : Int32)), (.int (3 : Int32)), (.ref b122)])) rfl rfl (hb hby at_214)
          have V141 : Arv Z h141 b122 k122 .char (6 : Int32) [(.int (nar .char (101 : Int32))), (.int (nar .char (109 : Int32))), (.int (nar .char (97 : Int32))), (.int (nar .char (105 : Int32))), (.int (nar .char ((i4 &&& (255 : Int32)).toUInt32.toUInt16.toUInt32.toInt32))), (.int (nar .char ((((i4.toUInt32 >>> ((8 : Int32) &&& 31).toUInt32).toInt32) &&& (255 : Int32)).toUInt32.toUInt16.toUInt32.toInt32)))] (.int (0 : Int32)) := Arv.set Ar141 q141 S141 N141_ H141 G141 (fits_nar_char _) W141 3 rfl (Nat.le_of_ble_eq_true rfl)
          have OLD141 := OLD140.wr W141 g_b122
          have Zs141 : n0 ≤ h141.size := (by rw [W141.size]; exact Zs140)
          have hk := Nat.le_trans hk (Nat.le_of_eq W141.size.symm)
          have N141 := Fr.snoc X141 N140 g_b122
          refine own_stepW st141 ?_
          show own_EndsW p e below s _ _ _ T141 (mkF m 215 #[.val (.int i0), .val (.int i1), .val (.int i2), .val (.int i3), .val (.int i4), .val (.ref b122), .val (.int (i0 &&& (3 : Int32))), .val (.int (1 : Int32)), .val (.int ((((i0.toUInt32 >>> ((3 : Int32) &&& 31).toUInt32).toInt32) &&& (7 : Int32)) % (7 : Int32))), .unset, .unset] [])
          refine own_stepW (fun _ => XS.aload X141.here hx rfl (hb hby at_215) rfl rfl) ?_
          show own_EndsW p e below s _ _ _ T141 (mkF m 217 #[.val (.int i0), .val (.int i1), .val (.int i2), .val (.int i3), .val (.int i4), .val (.ref b122), .val (.int (i0 &&& (3 : Int32))), .val (.int (1 : Int32)), .val (.int ((((i0.toUInt32 >>> ((3 : Int32) &&& 31).toUInt32).toInt32) &&& (7 : Int32)) % (7 : Int32))), .unset, .unset] [(.ref b122)])
          refine own_stepW (fun _ => XS.iconst X141.here hx rfl (hb hby at_217)) ?_
          show own_EndsW p e below s _ _ _ T141 (mkF m 218 #[.val (.int i0), .val (.int i1), .val (.int i2), .val (.int i3), .val (.int i4), .val (.ref b122), .val (.int (i0 &&& (3 : Int32))), .val (.int (1 : Int32)), .val (.int ((((i0.toUInt32 >>> ((3 : Int32) &&& 31).toUInt32).toInt32) &&& (7 : Int32)) % (7 : Int32))), .unset, .unset] [(.int (4 : Int32)), (.ref b122)])
          refine own_stepW (fun _ => XS.bipush X141.here hx rfl (hb hby at_218)) ?_
          show own_EndsW p e below s _ _ _ T141 (mkF m 220 #[.val (.int i0), .val (.int i1), .val (.int i2), .val (.int i3), .val (.int i4), .val (.ref b122), .val (.int (i0 &&& (3 : Int32))), .val (.int (1 : Int32)), .val (.int ((((i0.toUInt32 >>> ((3 : Int32) &&& 31).toUInt32).toInt32) &&& (7 : Int32)) % (7 : Int32))), .unset, .unset] [(.int (108 : Int32)), (.int (4 : Int32)), (.ref b122)])
          obtain ⟨cl142, Ar142, q142, S142, N142_, H142, G142⟩ := id V141
          have hin142 : ¬ ((4 : Int32) < 0 ∨ cl142.slots.size ≤ ((4 : Int32)).toNatClampNeg) := inb_of S142 ⟨by decide, by decide⟩
          obtain ⟨T142, h142, X142, e142, W142, st142⟩ := stC X141 hx hZ e141 Ar142 (j := (4 : Int32)) hin142 (g := (mkF m 220 #[.val (.int i0), .val (.int i1), .val (.int i2), .val (.int i3), .val (.int i4), .val (.ref b122), .val (.int (i0 &&& (3 : Int32))), .val (.int (1 : Int32)), .val (.int ((((i0.toUInt32 >>> ((3 : Int32) &&& 31).toUInt32).toInt32) &&& (7 : Int32)) % (7 : Int32))), .unset, .unset] [(.int (108 : Int32)), (.int (4 : Int32)), (.ref b122)])) rfl rfl (hb hby at_220)
          have V142 : Arv Z h142 b122 k122 .char (6 : Int32) [(.int (nar .char (101 : Int32))), (.int (nar .char (109 : Int32))), (.int (nar .char (97 : Int32))), (.int (nar .char (105 : Int32))), (.int (nar .char (108 : Int32))), (.int (nar .char ((((i4.toUInt32 >>> ((8 : Int32) &&& 31).toUInt32).toInt32) &&& (255 : Int32)).toUInt32.toUInt16.toUInt32.toInt32)))] (.int (0 : Int32)) := Arv.set Ar142 q142 S142 N142_ H142 G142 (fits_nar_char _) W142 4 rfl (Nat.le_of_ble_eq_true rfl)
          have OLD142 := OLD141.wr W142 g_b122
          have Zs142 : n0 ≤ h142.size := (by rw [W142.size]; exact Zs141)
          have hk := Nat.le_trans hk (Nat.le_of_eq W142.size.symm)
          have N142 := Fr.snoc X142 N141 g_b122
          refine own_stepW st142 ?_
          show own_EndsW p e below s _ _ _ T142 (mkF m 221 #[.val (.int i0), .val (.int i1), .val (.int i2), .val (.int i3), .val (.int i4), .val (.ref b122), .val (.int (i0 &&& (3 : Int32))), .val (.int (1 : Int32)), .val (.int ((((i0.toUInt32 >>> ((3 : Int32) &&& 31).toUInt32).toInt32) &&& (7 : Int32)) % (7 : Int32))), .unset, .unset] [])
          refine own_stepW (fun _ => XS.iload X142.here hx rfl (hb hby at_221) rfl) ?_
          show own_EndsW p e below s _ _ _ T142 (mkF m 223 #[.val (.int i0), .val (.int i1), .val (.int i2), .val (.int i3), .val (.int i4), .val (.ref b122), .val (.int (i0 &&& (3 : Int32))), .val (.int (1 : Int32)), .val (.int ((((i0.toUInt32 >>> ((3 : Int32) &&& 31).toUInt32).toInt32) &&& (7 : Int32)) % (7 : Int32))), .unset, .unset] [(.int (1 : Int32))])
          refine own_stepW (fun _ => XS.ifNo X142.here hx rfl (hb hby at_223) rfl ((if0 _ _).trans (feq (show ¬ ((1 : Int32) = (0 : Int32)) from (by decide))).1)) ?_
          show own_EndsW p e below s _ _ _ T142 (mkF m 226 #[.val (.int i0), .val (.int i1), .val (.int i2), .val (.int i3), .val (.int i4), .val (.ref b122), .val (.int (i0 &&& (3 : Int32))), .val (.int (1 : Int32)), .val (.int ((((i0.toUInt32 >>> ((3 : Int32) &&& 31).toUInt32).toInt32) &&& (7 : Int32)) % (7 : Int32))), .unset, .unset] [])
          refine own_stepW (fun _ => XS.iconst X142.here hx rfl (hb hby at_226)) ?_
          show own_EndsW p e below s _ _ _ T142 (mkF m 227 #[.val (.int i0), .val (.int i1), .val (.int i2), .val (.int i3), .val (.int i4), .val (.ref b122), .val (.int (i0 &&& (3 : Int32))), .val (.int (1 : Int32)), .val (.int ((((i0.toUInt32 >>> ((3 : Int32) &&& 31).toUInt32).toInt32) &&& (7 : Int32)) % (7 : Int32))), .unset, .unset] [(.int (5 : Int32))])
          refine own_stepW (fun _ => XS.istore X142.here hx rfl (hb hby at_227) rfl (l' := #[.val (.int i0), .val (.int i1), .val (.int i2), .val (.int i3), .val (.int i4), .val (.ref b122), .val (.int (i0 &&& (3 : Int32))), .val (.int (1 : Int32)), .val (.int (5 : Int32)), .unset, .unset]) rfl) ?_
          show own_EndsW p e below s _ _ _ T142 (mkF m 229 #[.val (.int i0), .val (.int i1), .val (.int i2), .val (.int i3), .val (.int i4), .val (.ref b122), .val (.int (i0 &&& (3 : Int32))), .val (.int (1 : Int32)), .val (.int (5 : Int32)), .unset, .unset] [])
          refine own_stepW (fun _ => XS.iloadN X142.here hx rfl (hb hby at_229) rfl) ?_
          show own_EndsW p e below s _ _ _ T142 (mkF m 230 #[.val (.int i0), .val (.int i1), .val (.int i2), .val (.int i3), .val (.int i4), .val (.ref b122), .val (.int (i0 &&& (3 : Int32))), .val (.int (1 : Int32)), .val (.int (5 : Int32)), .unset, .unset] [(.int i0)])
          refine own_stepW (fun _ => XS.iconst X142.here hx rfl (hb hby at_230)) ?_
          show own_EndsW p e below s _ _ _ T142 (mkF m 231 #[.val (.int i0), .val (.int i1), .val (.int i2), .val (.int i3), .val (.int i4), .val (.ref b122), .val (.int (i0 &&& (3 : Int32))), .val (.int (1 : Int32)), .val (.int (5 : Int32)), .unset, .unset] [(.int (4 : Int32)), (.int i0)])
          refine own_stepW (fun _ => XS.iand X142.here hx rfl (hb hby at_231) rfl) ?_
          show own_EndsW p e below s _ _ _ T142 (mkF m 232 #[.val (.int i0), .val (.int i1), .val (.int i2), .val (.int i3), .val (.int i4), .val (.ref b122), .val (.int (i0 &&& (3 : Int32))), .val (.int (1 : Int32)), .val (.int (5 : Int32)), .unset, .unset] [(.int (i0 &&& (4 : Int32)))])
          by_cases hc232 : (i0 &&& (4 : Int32)) = (0 : Int32)
          · have hv_t_f_f_t_t := hv_t_f_f_t.trans (if_pos hc232)
            refine own_stepW (fun _ => XS.ifYes X142.here hx rfl (pc0 := 232) (pc' := 251) rfl (hb hby at_232) rfl ((if0 _ _).trans (teq hc232).1) (by decide) (by decide)) ?_
            show own_EndsW p e below s _ _ _ T142 (mkF m 251 #[.val (.int i0), .val (.int i1), .val (.int i2), .val (.int i3), .val (.int i4), .val (.ref b122), .val (.int (i0 &&& (3 : Int32))), .val (.int (1 : Int32)), .val (.int (5 : Int32)), .unset, .unset] [])
            exact b0_251 C Zs142 hS hk X142 e142 N142 i0 i1 i2 i3 i4 G1 w3 w54 w83 w9 w22 w63 w92 w32 w73 w102 k_w9 k_w32 k_w73 k_w102 OLD142 O2 P5 bSNAME bSORG bSEMAIL bSALL bE0 bX0 bC0 bV0 bE1 bX1 bC1 bV1 bE2 bX2 bC2 bV2 bA0 bA1 bA2 bA3 CHZ  b122 (i0 &&& (3 : Int32)) (1 : Int32) (5 : Int32) k122 [(nar .char (101 : Int32)), (nar .char (109 : Int32)), (nar .char (97 : Int32)), (nar .char (105 : Int32)), (nar .char (108 : Int32)), (nar .char ((((i4.toUInt32 >>> ((8 : Int32) &&& 31).toUInt32).toInt32) &&& (255 : Int32)).toUInt32.toUInt16.toUInt32.toInt32))] (by decide) rfl (own_lc (by unfold own_R; decide) (own_lc (by unfold own_R; decide) (own_lc (by unfold own_R; decide) (own_lc (by unfold own_R; decide) (own_lc (by unfold own_R; decide) (own_lc (own_c255 _) own_ln)))))) V142 _ hv_t_f_f_t_t
          · have hv_t_f_f_t_f := hv_t_f_f_t.trans (if_neg hc232)
            refine own_stepW (fun _ => XS.ifNo X142.here hx rfl (hb hby at_232) rfl ((if0 _ _).trans (feq hc232).1)) ?_
            show own_EndsW p e below s _ _ _ T142 (mkF m 235 #[.val (.int i0), .val (.int i1), .val (.int i2), .val (.int i3), .val (.int i4), .val (.ref b122), .val (.int (i0 &&& (3 : Int32))), .val (.int (1 : Int32)), .val (.int (5 : Int32)), .unset, .unset] [])
            refine own_stepW (fun _ => XS.aload X142.here hx rfl (hb hby at_235) rfl rfl) ?_
            show own_EndsW p e below s _ _ _ T142 (mkF m 237 #[.val (.int i0), .val (.int i1), .val (.int i2), .val (.int i3), .val (.int i4), .val (.ref b122), .val (.int (i0 &&& (3 : Int32))), .val (.int (1 : Int32)), .val (.int (5 : Int32)), .unset, .unset] [(.ref b122)])
            refine own_stepW (fun _ => XS.iloadN X142.here hx rfl (hb hby at_237) rfl) ?_
            show own_EndsW p e below s _ _ _ T142 (mkF m 238 #[.val (.int i0), .val (.int i1), .val (.int i2), .val (.int i3), .val (.int i4), .val (.ref b122), .val (.int (i0 &&& (3 : Int32))), .val (.int (1 : Int32)), .val (.int (5 : Int32)), .unset, .unset] [(.int i1), (.ref b122)])
            refine own_stepW (fun _ => X142.ldcInt hx hown (mvT hZ (hw _ (List.mem_of_getElem? (i := 59) rfl))) (g := (mkF m 238 #[.val (.int i0), .val (.int i1), .val (.int i2), .val (.int i3), .val (.int i4), .val (.ref b122), .val (.int (i0 &&& (3 : Int32))), .val (.int (1 : Int32)), .val (.int (5 : Int32)), .unset, .unset] [(.int i1), (.ref b122)])) rfl (hb hby at_238) _) ?_
            show own_EndsW p e below s _ _ _ T142 (mkF m 240 #[.val (.int i0), .val (.int i1), .val (.int i2), .val (.int i3), .val (.int i4), .val (.ref b122), .val (.int (i0 &&& (3 : Int32))), .val (.int (1 : Int32)), .val (.int (5 : Int32)), .unset, .unset] [(.int (2147483647 : Int32)), (.int i1), (.ref b122)])
            refine own_stepW (fun _ => XS.iand X142.here hx rfl (hb hby at_240) rfl) ?_
            show own_EndsW p e below s _ _ _ T142 (mkF m 241 #[.val (.int i0), .val (.int i1), .val (.int i2), .val (.int i3), .val (.int i4), .val (.ref b122), .val (.int (i0 &&& (3 : Int32))), .val (.int (1 : Int32)), .val (.int (5 : Int32)), .unset, .unset] [(.int (i1 &&& (2147483647 : Int32))), (.ref b122)])
            refine own_stepW (fun _ => XS.bipush X142.here hx rfl (hb hby at_241)) ?_
            show own_EndsW p e below s _ _ _ T142 (mkF m 243 #[.val (.int i0), .val (.int i1), .val (.int i2), .val (.int i3), .val (.int i4), .val (.ref b122), .val (.int (i0 &&& (3 : Int32))), .val (.int (1 : Int32)), .val (.int (5 : Int32)), .unset, .unset] [(.int (6 : Int32)), (.int (i1 &&& (2147483647 : Int32))), (.ref b122)])
            refine own_stepW (fun _ => iremM X142 hx rfl (hb hby at_243) rfl (by decide)) ?_
            show own_EndsW p e below s _ _ _ T142 (mkF m 244 #[.val (.int i0), .val (.int i1), .val (.int i2), .val (.int i3), .val (.int i4), .val (.ref b122), .val (.int (i0 &&& (3 : Int32))), .val (.int (1 : Int32)), .val (.int (5 : Int32)), .unset, .unset] [(.int ((i1 &&& (2147483647 : Int32)) % (6 : Int32))), (.ref b122)])
            refine own_stepW (fun _ => XS.iloadN X142.here hx rfl (hb hby at_244) rfl) ?_
            show own_EndsW p e below s _ _ _ T142 (mkF m 245 #[.val (.int i0), .val (.int i1), .val (.int i2), .val (.int i3), .val (.int i4), .val (.ref b122), .val (.int (i0 &&& (3 : Int32))), .val (.int (1 : Int32)), .val (.int (5 : Int32)), .unset, .unset] [(.int i2), (.int ((i1 &&& (2147483647 : Int32)) % (6 : Int32))), (.ref b122)])
            refine own_stepW (fun _ => XS.sipush X142.here hx rfl (hb hby at_245)) ?_
            show own_EndsW p e below s _ _ _ T142 (mkF m 248 #[.val (.int i0), .val (.int i1), .val (.int i2), .val (.int i3), .val (.int i4), .val (.ref b122), .val (.int (i0 &&& (3 : Int32))), .val (.int (1 : Int32)), .val (.int (5 : Int32)), .unset, .unset] [(.int (255 : Int32)), (.int i2), (.int ((i1 &&& (2147483647 : Int32)) % (6 : Int32))), (.ref b122)])
            refine own_stepW (fun _ => XS.iand X142.here hx rfl (hb hby at_248) rfl) ?_
            show own_EndsW p e below s _ _ _ T142 (mkF m 249 #[.val (.int i0), .val (.int i1), .val (.int i2), .val (.int i3), .val (.int i4), .val (.ref b122), .val (.int (i0 &&& (3 : Int32))), .val (.int (1 : Int32)), .val (.int (5 : Int32)), .unset, .unset] [(.int (i2 &&& (255 : Int32))), (.int ((i1 &&& (2147483647 : Int32)) % (6 : Int32))), (.ref b122)])
            refine own_stepW (fun _ => XS.i2c X142.here hx rfl (hb hby at_249) rfl) ?_
            show own_EndsW p e below s _ _ _ T142 (mkF m 250 #[.val (.int i0), .val (.int i1), .val (.int i2), .val (.int i3), .val (.int i4), .val (.ref b122), .val (.int (i0 &&& (3 : Int32))), .val (.int (1 : Int32)), .val (.int (5 : Int32)), .unset, .unset] [(.int ((i2 &&& (255 : Int32)).toUInt32.toUInt16.toUInt32.toInt32)), (.int ((i1 &&& (2147483647 : Int32)) % (6 : Int32))), (.ref b122)])
            obtain ⟨cl143, Ar143, q143, S143, N143_, H143, G143⟩ := id V142
            have hin143 : ¬ (((i1 &&& (2147483647 : Int32)) % (6 : Int32)) < 0 ∨ cl143.slots.size ≤ (((i1 &&& (2147483647 : Int32)) % (6 : Int32))).toNatClampNeg) := inb_of S143 (own_at6 _)
            obtain ⟨T143, h143, X143, e143, W143, st143⟩ := stC X142 hx hZ e142 Ar143 (j := ((i1 &&& (2147483647 : Int32)) % (6 : Int32))) hin143 (g := (mkF m 250 #[.val (.int i0), .val (.int i1), .val (.int i2), .val (.int i3), .val (.int i4), .val (.ref b122), .val (.int (i0 &&& (3 : Int32))), .val (.int (1 : Int32)), .val (.int (5 : Int32)), .unset, .unset] [(.int ((i2 &&& (255 : Int32)).toUInt32.toUInt16.toUInt32.toInt32)), (.int ((i1 &&& (2147483647 : Int32)) % (6 : Int32))), (.ref b122)])) rfl rfl (hb hby at_250)
            have V143 : Arv Z h143 b122 k122 .char (6 : Int32) ((own_set [(nar .char (101 : Int32)), (nar .char (109 : Int32)), (nar .char (97 : Int32)), (nar .char (105 : Int32)), (nar .char (108 : Int32)), (nar .char ((((i4.toUInt32 >>> ((8 : Int32) &&& 31).toUInt32).toInt32) &&& (255 : Int32)).toUInt32.toUInt16.toUInt32.toInt32))] ((i1 &&& (2147483647 : Int32)) % (6 : Int32)) ((i2 &&& (255 : Int32)).toUInt32.toUInt16.toUInt32.toInt32)).map Value.int) (.int (0 : Int32)) := own_arvset (Arv.set Ar143 q143 S143 N143_ H143 G143 (fits_nar_char _) W143 _ rfl (Nat.lt_of_lt_of_eq (own_bd6 (own_at6 _)) rfl))
            have OLD143 := OLD142.wr W143 g_b122
            have Zs143 : n0 ≤ h143.size := (by rw [W143.size]; exact Zs142)
            have hk := Nat.le_trans hk (Nat.le_of_eq W143.size.symm)
            have N143 := Fr.snoc X143 N142 g_b122
            refine own_stepW st143 ?_
            show own_EndsW p e below s _ _ _ T143 (mkF m 251 #[.val (.int i0), .val (.int i1), .val (.int i2), .val (.int i3), .val (.int i4), .val (.ref b122), .val (.int (i0 &&& (3 : Int32))), .val (.int (1 : Int32)), .val (.int (5 : Int32)), .unset, .unset] [])
            exact b0_251 C Zs143 hS hk X143 e143 N143 i0 i1 i2 i3 i4 G1 w3 w54 w83 w9 w22 w63 w92 w32 w73 w102 k_w9 k_w32 k_w73 k_w102 OLD143 O2 P5 bSNAME bSORG bSEMAIL bSALL bE0 bX0 bC0 bV0 bE1 bX1 bC1 bV1 bE2 bX2 bC2 bV2 bA0 bA1 bA2 bA3 CHZ  b122 (i0 &&& (3 : Int32)) (1 : Int32) (5 : Int32) k122 (own_set [(nar .char (101 : Int32)), (nar .char (109 : Int32)), (nar .char (97 : Int32)), (nar .char (105 : Int32)), (nar .char (108 : Int32)), (nar .char ((((i4.toUInt32 >>> ((8 : Int32) &&& 31).toUInt32).toInt32) &&& (255 : Int32)).toUInt32.toUInt16.toUInt32.toInt32))] ((i1 &&& (2147483647 : Int32)) % (6 : Int32)) ((i2 &&& (255 : Int32)).toUInt32.toUInt16.toUInt32.toInt32)) (by decide) (own_setlen _ _ _) (own_rset (own_lc (by unfold own_R; decide) (own_lc (by unfold own_R; decide) (own_lc (by unfold own_R; decide) (own_lc (by unfold own_R; decide) (own_lc (by unfold own_R; decide) (own_lc (own_c255 _) own_ln)))))) (own_c255 _)) V143 _ hv_t_f_f_t_f
        · have hv_t_f_f_f := hv_t_f_f.trans (if_neg hc188)
          refine own_stepW (fun _ => XS.icmpYes X128.here hx rfl (pc0 := 188) (pc' := 229) rfl (hb hby at_188) rfl (feq hc188).2 (by decide) (by decide)) ?_
          show own_EndsW p e below s _ _ _ T128 (mkF m 229 #[.val (.int i0), .val (.int i1), .val (.int i2), .val (.int i3), .val (.int i4), .val (.ref b122), .val (.int (i0 &&& (3 : Int32))), .val (.int (1 : Int32)), .val (.int ((((i0.toUInt32 >>> ((3 : Int32) &&& 31).toUInt32).toInt32) &&& (7 : Int32)) % (7 : Int32))), .unset, .unset] [])
          refine own_stepW (fun _ => XS.iloadN X128.here hx rfl (hb hby at_229) rfl) ?_
          show own_EndsW p e below s _ _ _ T128 (mkF m 230 #[.val (.int i0), .val (.int i1), .val (.int i2), .val (.int i3), .val (.int i4), .val (.ref b122), .val (.int (i0 &&& (3 : Int32))), .val (.int (1 : Int32)), .val (.int ((((i0.toUInt32 >>> ((3 : Int32) &&& 31).toUInt32).toInt32) &&& (7 : Int32)) % (7 : Int32))), .unset, .unset] [(.int i0)])
          refine own_stepW (fun _ => XS.iconst X128.here hx rfl (hb hby at_230)) ?_
          show own_EndsW p e below s _ _ _ T128 (mkF m 231 #[.val (.int i0), .val (.int i1), .val (.int i2), .val (.int i3), .val (.int i4), .val (.ref b122), .val (.int (i0 &&& (3 : Int32))), .val (.int (1 : Int32)), .val (.int ((((i0.toUInt32 >>> ((3 : Int32) &&& 31).toUInt32).toInt32) &&& (7 : Int32)) % (7 : Int32))), .unset, .unset] [(.int (4 : Int32)), (.int i0)])
          refine own_stepW (fun _ => XS.iand X128.here hx rfl (hb hby at_231) rfl) ?_
          show own_EndsW p e below s _ _ _ T128 (mkF m 232 #[.val (.int i0), .val (.int i1), .val (.int i2), .val (.int i3), .val (.int i4), .val (.ref b122), .val (.int (i0 &&& (3 : Int32))), .val (.int (1 : Int32)), .val (.int ((((i0.toUInt32 >>> ((3 : Int32) &&& 31).toUInt32).toInt32) &&& (7 : Int32)) % (7 : Int32))), .unset, .unset] [(.int (i0 &&& (4 : Int32)))])
          by_cases hc232 : (i0 &&& (4 : Int32)) = (0 : Int32)
          · have hv_t_f_f_f_t := hv_t_f_f_f.trans (if_pos hc232)
            refine own_stepW (fun _ => XS.ifYes X128.here hx rfl (pc0 := 232) (pc' := 251) rfl (hb hby at_232) rfl ((if0 _ _).trans (teq hc232).1) (by decide) (by decide)) ?_
            show own_EndsW p e below s _ _ _ T128 (mkF m 251 #[.val (.int i0), .val (.int i1), .val (.int i2), .val (.int i3), .val (.int i4), .val (.ref b122), .val (.int (i0 &&& (3 : Int32))), .val (.int (1 : Int32)), .val (.int ((((i0.toUInt32 >>> ((3 : Int32) &&& 31).toUInt32).toInt32) &&& (7 : Int32)) % (7 : Int32))), .unset, .unset] [])
            exact b0_251 C Zs128 hS hk X128 e128 N128 i0 i1 i2 i3 i4 G1 w3 w54 w83 w9 w22 w63 w92 w32 w73 w102 k_w9 k_w32 k_w73 k_w102 OLD128 O2 P5 bSNAME bSORG bSEMAIL bSALL bE0 bX0 bC0 bV0 bE1 bX1 bC1 bV1 bE2 bX2 bC2 bV2 bA0 bA1 bA2 bA3 CHZ  b122 (i0 &&& (3 : Int32)) (1 : Int32) ((((i0.toUInt32 >>> ((3 : Int32) &&& 31).toUInt32).toInt32) &&& (7 : Int32)) % (7 : Int32)) k122 [(nar .char ((i3 &&& (255 : Int32)).toUInt32.toUInt16.toUInt32.toInt32)), (nar .char ((((i3.toUInt32 >>> ((8 : Int32) &&& 31).toUInt32).toInt32) &&& (255 : Int32)).toUInt32.toUInt16.toUInt32.toInt32)), (nar .char ((((i3.toUInt32 >>> ((16 : Int32) &&& 31).toUInt32).toInt32) &&& (255 : Int32)).toUInt32.toUInt16.toUInt32.toInt32)), (nar .char ((((i3.toUInt32 >>> ((24 : Int32) &&& 31).toUInt32).toInt32) &&& (255 : Int32)).toUInt32.toUInt16.toUInt32.toInt32)), (nar .char ((i4 &&& (255 : Int32)).toUInt32.toUInt16.toUInt32.toInt32)), (nar .char ((((i4.toUInt32 >>> ((8 : Int32) &&& 31).toUInt32).toInt32) &&& (255 : Int32)).toUInt32.toUInt16.toUInt32.toInt32))] (own_n7 _) rfl (own_lc (own_c255 _) (own_lc (own_c255 _) (own_lc (own_c255 _) (own_lc (own_c255 _) (own_lc (own_c255 _) (own_lc (own_c255 _) own_ln)))))) V128 _ hv_t_f_f_f_t
          · have hv_t_f_f_f_f := hv_t_f_f_f.trans (if_neg hc232)
            refine own_stepW (fun _ => XS.ifNo X128.here hx rfl (hb hby at_232) rfl ((if0 _ _).trans (feq hc232).1)) ?_
            show own_EndsW p e below s _ _ _ T128 (mkF m 235 #[.val (.int i0), .val (.int i1), .val (.int i2), .val (.int i3), .val (.int i4), .val (.ref b122), .val (.int (i0 &&& (3 : Int32))), .val (.int (1 : Int32)), .val (.int ((((i0.toUInt32 >>> ((3 : Int32) &&& 31).toUInt32).toInt32) &&& (7 : Int32)) % (7 : Int32))), .unset, .unset] [])
            refine own_stepW (fun _ => XS.aload X128.here hx rfl (hb hby at_235) rfl rfl) ?_
            show own_EndsW p e below s _ _ _ T128 (mkF m 237 #[.val (.int i0), .val (.int i1), .val (.int i2), .val (.int i3), .val (.int i4), .val (.ref b122), .val (.int (i0 &&& (3 : Int32))), .val (.int (1 : Int32)), .val (.int ((((i0.toUInt32 >>> ((3 : Int32) &&& 31).toUInt32).toInt32) &&& (7 : Int32)) % (7 : Int32))), .unset, .unset] [(.ref b122)])
            refine own_stepW (fun _ => XS.iloadN X128.here hx rfl (hb hby at_237) rfl) ?_
            show own_EndsW p e below s _ _ _ T128 (mkF m 238 #[.val (.int i0), .val (.int i1), .val (.int i2), .val (.int i3), .val (.int i4), .val (.ref b122), .val (.int (i0 &&& (3 : Int32))), .val (.int (1 : Int32)), .val (.int ((((i0.toUInt32 >>> ((3 : Int32) &&& 31).toUInt32).toInt32) &&& (7 : Int32)) % (7 : Int32))), .unset, .unset] [(.int i1), (.ref b122)])
            refine own_stepW (fun _ => X128.ldcInt hx hown (mvT hZ (hw _ (List.mem_of_getElem? (i := 59) rfl))) (g := (mkF m 238 #[.val (.int i0), .val (.int i1), .val (.int i2), .val (.int i3), .val (.int i4), .val (.ref b122), .val (.int (i0 &&& (3 : Int32))), .val (.int (1 : Int32)), .val (.int ((((i0.toUInt32 >>> ((3 : Int32) &&& 31).toUInt32).toInt32) &&& (7 : Int32)) % (7 : Int32))), .unset, .unset] [(.int i1), (.ref b122)])) rfl (hb hby at_238) _) ?_
            show own_EndsW p e below s _ _ _ T128 (mkF m 240 #[.val (.int i0), .val (.int i1), .val (.int i2), .val (.int i3), .val (.int i4), .val (.ref b122), .val (.int (i0 &&& (3 : Int32))), .val (.int (1 : Int32)), .val (.int ((((i0.toUInt32 >>> ((3 : Int32) &&& 31).toUInt32).toInt32) &&& (7 : Int32)) % (7 : Int32))), .unset, .unset] [(.int (2147483647 : Int32)), (.int i1), (.ref b122)])
            refine own_stepW (fun _ => XS.iand X128.here hx rfl (hb hby at_240) rfl) ?_
            show own_EndsW p e below s _ _ _ T128 (mkF m 241 #[.val (.int i0), .val (.int i1), .val (.int i2), .val (.int i3), .val (.int i4), .val (.ref b122), .val (.int (i0 &&& (3 : Int32))), .val (.int (1 : Int32)), .val (.int ((((i0.toUInt32 >>> ((3 : Int32) &&& 31).toUInt32).toInt32) &&& (7 : Int32)) % (7 : Int32))), .unset, .unset] [(.int (i1 &&& (2147483647 : Int32))), (.ref b122)])
            refine own_stepW (fun _ => XS.bipush X128.here hx rfl (hb hby at_241)) ?_
            show own_EndsW p e below s _ _ _ T128 (mkF m 243 #[.val (.int i0), .val (.int i1), .val (.int i2), .val (.int i3), .val (.int i4), .val (.ref b122), .val (.int (i0 &&& (3 : Int32))), .val (.int (1 : Int32)), .val (.int ((((i0.toUInt32 >>> ((3 : Int32) &&& 31).toUInt32).toInt32) &&& (7 : Int32)) % (7 : Int32))), .unset, .unset] [(.int (6 : Int32)), (.int (i1 &&& (2147483647 : Int32))), (.ref b122)])
            refine own_stepW (fun _ => iremM X128 hx rfl (hb hby at_243) rfl (by decide)) ?_
            show own_EndsW p e below s _ _ _ T128 (mkF m 244 #[.val (.int i0), .val (.int i1), .val (.int i2), .val (.int i3), .val (.int i4), .val (.ref b122), .val (.int (i0 &&& (3 : Int32))), .val (.int (1 : Int32)), .val (.int ((((i0.toUInt32 >>> ((3 : Int32) &&& 31).toUInt32).toInt32) &&& (7 : Int32)) % (7 : Int32))), .unset, .unset] [(.int ((i1 &&& (2147483647 : Int32)) % (6 : Int32))), (.ref b122)])
            refine own_stepW (fun _ => XS.iloadN X128.here hx rfl (hb hby at_244) rfl) ?_
            show own_EndsW p e below s _ _ _ T128 (mkF m 245 #[.val (.int i0), .val (.int i1), .val (.int i2), .val (.int i3), .val (.int i4), .val (.ref b122), .val (.int (i0 &&& (3 : Int32))), .val (.int (1 : Int32)), .val (.int ((((i0.toUInt32 >>> ((3 : Int32) &&& 31).toUInt32).toInt32) &&& (7 : Int32)) % (7 : Int32))), .unset, .unset] [(.int i2), (.int ((i1 &&& (2147483647 : Int32)) % (6 : Int32))), (.ref b122)])
            refine own_stepW (fun _ => XS.sipush X128.here hx rfl (hb hby at_245)) ?_
            show own_EndsW p e below s _ _ _ T128 (mkF m 248 #[.val (.int i0), .val (.int i1), .val (.int i2), .val (.int i3), .val (.int i4), .val (.ref b122), .val (.int (i0 &&& (3 : Int32))), .val (.int (1 : Int32)), .val (.int ((((i0.toUInt32 >>> ((3 : Int32) &&& 31).toUInt32).toInt32) &&& (7 : Int32)) % (7 : Int32))), .unset, .unset] [(.int (255 : Int32)), (.int i2), (.int ((i1 &&& (2147483647 : Int32)) % (6 : Int32))), (.ref b122)])
            refine own_stepW (fun _ => XS.iand X128.here hx rfl (hb hby at_248) rfl) ?_
            show own_EndsW p e below s _ _ _ T128 (mkF m 249 #[.val (.int i0), .val (.int i1), .val (.int i2), .val (.int i3), .val (.int i4), .val (.ref b122), .val (.int (i0 &&& (3 : Int32))), .val (.int (1 : Int32)), .val (.int ((((i0.toUInt32 >>> ((3 : Int32) &&& 31).toUInt32).toInt32) &&& (7 : Int32)) % (7 : Int32))), .unset, .unset] [(.int (i2 &&& (255 : Int32))), (.int ((i1 &&& (2147483647 : Int32)) % (6 : Int32))), (.ref b122)])
            refine own_stepW (fun _ => XS.i2c X128.here hx rfl (hb hby at_249) rfl) ?_
            show own_EndsW p e below s _ _ _ T128 (mkF m 250 #[.val (.int i0), .val (.int i1), .val (.int i2), .val (.int i3), .val (.int i4), .val (.ref b122), .val (.int (i0 &&& (3 : Int32))), .val (.int (1 : Int32)), .val (.int ((((i0.toUInt32 >>> ((3 : Int32) &&& 31).toUInt32).toInt32) &&& (7 : Int32)) % (7 : Int32))), .unset, .unset] [(.int ((i2 &&& (255 : Int32)).toUInt32.toUInt16.toUInt32.toInt32)), (.int ((i1 &&& (2147483647 : Int32)) % (6 : Int32))), (.ref b122)])
            obtain ⟨cl144, Ar144, q144, S144, N144_, H144, G144⟩ := id V128
            have hin144 : ¬ (((i1 &&& (2147483647 : Int32)) % (6 : Int32)) < 0 ∨ cl144.slots.size ≤ (((i1 &&& (2147483647 : Int32)) % (6 : Int32))).toNatClampNeg) := inb_of S144 (own_at6 _)
            obtain ⟨T144, h144, X144, e144, W144, st144⟩ := stC X128 hx hZ e128 Ar144 (j := ((i1 &&& (2147483647 : Int32)) % (6 : Int32))) hin144 (g := (mkF m 250 #[.val (.int i0), .val (.int i1), .val (.int i2), .val (.int i3), .val (.int i4), .val (.ref b122), .val (.int (i0 &&& (3 : Int32))), .val (.int (1 : Int32)), .val (.int ((((i0.toUInt32 >>> ((3 : Int32) &&& 31).toUInt32).toInt32) &&& (7 : Int32)) % (7 : Int32))), .unset, .unset] [(.int ((i2 &&& (255 : Int32)).toUInt32.toUInt16.toUInt32.toInt32)), (.int ((i1 &&& (2147483647 : Int32)) % (6 : Int32))), (.ref b122)])) rfl rfl (hb hby at_250)
            have V144 : Arv Z h144 b122 k122 .char (6 : Int32) ((own_set [(nar .char ((i3 &&& (255 : Int32)).toUInt32.toUInt16.toUInt32.toInt32)), (nar .char ((((i3.toUInt32 >>> ((8 : Int32) &&& 31).toUInt32).toInt32) &&& (255 : Int32)).toUInt32.toUInt16.toUInt32.toInt32)), (nar .char ((((i3.toUInt32 >>> ((16 : Int32) &&& 31).toUInt32).toInt32) &&& (255 : Int32)).toUInt32.toUInt16.toUInt32.toInt32)), (nar .char ((((i3.toUInt32 >>> ((24 : Int32) &&& 31).toUInt32).toInt32) &&& (255 : Int32)).toUInt32.toUInt16.toUInt32.toInt32)), (nar .char ((i4 &&& (255 : Int32)).toUInt32.toUInt16.toUInt32.toInt32)), (nar .char ((((i4.toUInt32 >>> ((8 : Int32) &&& 31).toUInt32).toInt32) &&& (255 : Int32)).toUInt32.toUInt16.toUInt32.toInt32))] ((i1 &&& (2147483647 : Int32)) % (6 : Int32)) ((i2 &&& (255 : Int32)).toUInt32.toUInt16.toUInt32.toInt32)).map Value.int) (.int (0 : Int32)) := own_arvset (Arv.set Ar144 q144 S144 N144_ H144 G144 (fits_nar_char _) W144 _ rfl (Nat.lt_of_lt_of_eq (own_bd6 (own_at6 _)) rfl))
            have OLD144 := OLD128.wr W144 g_b122
            have Zs144 : n0 ≤ h144.size := (by rw [W144.size]; exact Zs128)
            have hk := Nat.le_trans hk (Nat.le_of_eq W144.size.symm)
            have N144 := Fr.snoc X144 N128 g_b122
            refine own_stepW st144 ?_
            show own_EndsW p e below s _ _ _ T144 (mkF m 251 #[.val (.int i0), .val (.int i1), .val (.int i2), .val (.int i3), .val (.int i4), .val (.ref b122), .val (.int (i0 &&& (3 : Int32))), .val (.int (1 : Int32)), .val (.int ((((i0.toUInt32 >>> ((3 : Int32) &&& 31).toUInt32).toInt32) &&& (7 : Int32)) % (7 : Int32))), .unset, .unset] [])
            exact b0_251 C Zs144 hS hk X144 e144 N144 i0 i1 i2 i3 i4 G1 w3 w54 w83 w9 w22 w63 w92 w32 w73 w102 k_w9 k_w32 k_w73 k_w102 OLD144 O2 P5 bSNAME bSORG bSEMAIL bSALL bE0 bX0 bC0 bV0 bE1 bX1 bC1 bV1 bE2 bX2 bC2 bV2 bA0 bA1 bA2 bA3 CHZ  b122 (i0 &&& (3 : Int32)) (1 : Int32) ((((i0.toUInt32 >>> ((3 : Int32) &&& 31).toUInt32).toInt32) &&& (7 : Int32)) % (7 : Int32)) k122 (own_set [(nar .char ((i3 &&& (255 : Int32)).toUInt32.toUInt16.toUInt32.toInt32)), (nar .char ((((i3.toUInt32 >>> ((8 : Int32) &&& 31).toUInt32).toInt32) &&& (255 : Int32)).toUInt32.toUInt16.toUInt32.toInt32)), (nar .char ((((i3.toUInt32 >>> ((16 : Int32) &&& 31).toUInt32).toInt32) &&& (255 : Int32)).toUInt32.toUInt16.toUInt32.toInt32)), (nar .char ((((i3.toUInt32 >>> ((24 : Int32) &&& 31).toUInt32).toInt32) &&& (255 : Int32)).toUInt32.toUInt16.toUInt32.toInt32)), (nar .char ((i4 &&& (255 : Int32)).toUInt32.toUInt16.toUInt32.toInt32)), (nar .char ((((i4.toUInt32 >>> ((8 : Int32) &&& 31).toUInt32).toInt32) &&& (255 : Int32)).toUInt32.toUInt16.toUInt32.toInt32))] ((i1 &&& (2147483647 : Int32)) % (6 : Int32)) ((i2 &&& (255 : Int32)).toUInt32.toUInt16.toUInt32.toInt32)) (own_n7 _) (own_setlen _ _ _) (own_rset (own_lc (own_c255 _) (own_lc (own_c255 _) (own_lc (own_c255 _) (own_lc (own_c255 _) (own_lc (own_c255 _) (own_lc (own_c255 _) own_ln)))))) (own_c255 _)) V144 _ hv_t_f_f_f_f
  · have hv_f := hv.trans (if_neg hc89)
    refine own_stepW (fun _ => XS.ifYes X128.here hx rfl (pc0 := 89) (pc' := 96) rfl (hb hby at_89) rfl ((if0 _ _).trans (feq hc89).2) (by decide) (by decide)) ?_
    show own_EndsW p e below s _ _ _ T128 (mkF m 96 #[.val (.int i0), .val (.int i1), .val (.int i2), .val (.int i3), .val (.int i4), .val (.ref b122), .val (.int (i0 &&& (3 : Int32))), .unset, .unset, .unset, .unset] [])
    refine own_stepW (fun _ => XS.iconst X128.here hx rfl (hb hby at_96)) ?_
    show own_EndsW p e below s _ _ _ T128 (mkF m 97 #[.val (.int i0), .val (.int i1), .val (.int i2), .val (.int i3), .val (.int i4), .val (.ref b122), .val (.int (i0 &&& (3 : Int32))), .unset, .unset, .unset, .unset] [(.int (0 : Int32))])
    refine own_stepW (fun _ => XS.istore X128.here hx rfl (hb hby at_97) rfl (l' := #[.val (.int i0), .val (.int i1), .val (.int i2), .val (.int i3), .val (.int i4), .val (.ref b122), .val (.int (i0 &&& (3 : Int32))), .val (.int (0 : Int32)), .unset, .unset, .unset]) rfl) ?_
    show own_EndsW p e below s _ _ _ T128 (mkF m 99 #[.val (.int i0), .val (.int i1), .val (.int i2), .val (.int i3), .val (.int i4), .val (.ref b122), .val (.int (i0 &&& (3 : Int32))), .val (.int (0 : Int32)), .unset, .unset, .unset] [])
    refine own_stepW (fun _ => XS.iloadN X128.here hx rfl (hb hby at_99) rfl) ?_
    show own_EndsW p e below s _ _ _ T128 (mkF m 100 #[.val (.int i0), .val (.int i1), .val (.int i2), .val (.int i3), .val (.int i4), .val (.ref b122), .val (.int (i0 &&& (3 : Int32))), .val (.int (0 : Int32)), .unset, .unset, .unset] [(.int i0)])
    refine own_stepW (fun _ => XS.iconst X128.here hx rfl (hb hby at_100)) ?_
    show own_EndsW p e below s _ _ _ T128 (mkF m 101 #[.val (.int i0), .val (.int i1), .val (.int i2), .val (.int i3), .val (.int i4), .val (.ref b122), .val (.int (i0 &&& (3 : Int32))), .val (.int (0 : Int32)), .unset, .unset, .unset] [(.int (3 : Int32)), (.int i0)])
    refine own_stepW (fun _ => XS.iushr X128.here hx rfl (hb hby at_101) rfl) ?_
    show own_EndsW p e below s _ _ _ T128 (mkF m 102 #[.val (.int i0), .val (.int i1), .val (.int i2), .val (.int i3), .val (.int i4), .val (.ref b122), .val (.int (i0 &&& (3 : Int32))), .val (.int (0 : Int32)), .unset, .unset, .unset] [(.int ((i0.toUInt32 >>> ((3 : Int32) &&& 31).toUInt32).toInt32))])
    refine own_stepW (fun _ => XS.bipush X128.here hx rfl (hb hby at_102)) ?_
    show own_EndsW p e below s _ _ _ T128 (mkF m 104 #[.val (.int i0), .val (.int i1), .val (.int i2), .val (.int i3), .val (.int i4), .val (.ref b122), .val (.int (i0 &&& (3 : Int32))), .val (.int (0 : Int32)), .unset, .unset, .unset] [(.int (7 : Int32)), (.int ((i0.toUInt32 >>> ((3 : Int32) &&& 31).toUInt32).toInt32))])
    refine own_stepW (fun _ => XS.iand X128.here hx rfl (hb hby at_104) rfl) ?_
    show own_EndsW p e below s _ _ _ T128 (mkF m 105 #[.val (.int i0), .val (.int i1), .val (.int i2), .val (.int i3), .val (.int i4), .val (.ref b122), .val (.int (i0 &&& (3 : Int32))), .val (.int (0 : Int32)), .unset, .unset, .unset] [(.int (((i0.toUInt32 >>> ((3 : Int32) &&& 31).toUInt32).toInt32) &&& (7 : Int32)))])
    refine own_stepW (fun _ => XS.bipush X128.here hx rfl (hb hby at_105)) ?_
    show own_EndsW p e below s _ _ _ T128 (mkF m 107 #[.val (.int i0), .val (.int i1), .val (.int i2), .val (.int i3), .val (.int i4), .val (.ref b122), .val (.int (i0 &&& (3 : Int32))), .val (.int (0 : Int32)), .unset, .unset, .unset] [(.int (7 : Int32)), (.int (((i0.toUInt32 >>> ((3 : Int32) &&& 31).toUInt32).toInt32) &&& (7 : Int32)))])
    refine own_stepW (fun _ => iremM X128 hx rfl (hb hby at_107) rfl (by decide)) ?_
    show own_EndsW p e below s _ _ _ T128 (mkF m 108 #[.val (.int i0), .val (.int i1), .val (.int i2), .val (.int i3), .val (.int i4), .val (.ref b122), .val (.int (i0 &&& (3 : Int32))), .val (.int (0 : Int32)), .unset, .unset, .unset] [(.int ((((i0.toUInt32 >>> ((3 : Int32) &&& 31).toUInt32).toInt32) &&& (7 : Int32)) % (7 : Int32)))])
    refine own_stepW (fun _ => XS.istore X128.here hx rfl (hb hby at_108) rfl (l' := #[.val (.int i0), .val (.int i1), .val (.int i2), .val (.int i3), .val (.int i4), .val (.ref b122), .val (.int (i0 &&& (3 : Int32))), .val (.int (0 : Int32)), .val (.int ((((i0.toUInt32 >>> ((3 : Int32) &&& 31).toUInt32).toInt32) &&& (7 : Int32)) % (7 : Int32))), .unset, .unset]) rfl) ?_
    show own_EndsW p e below s _ _ _ T128 (mkF m 110 #[.val (.int i0), .val (.int i1), .val (.int i2), .val (.int i3), .val (.int i4), .val (.ref b122), .val (.int (i0 &&& (3 : Int32))), .val (.int (0 : Int32)), .val (.int ((((i0.toUInt32 >>> ((3 : Int32) &&& 31).toUInt32).toInt32) &&& (7 : Int32)) % (7 : Int32))), .unset, .unset] [])
    refine own_stepW (fun _ => XS.iload X128.here hx rfl (hb hby at_110) rfl) ?_
    show own_EndsW p e below s _ _ _ T128 (mkF m 112 #[.val (.int i0), .val (.int i1), .val (.int i2), .val (.int i3), .val (.int i4), .val (.ref b122), .val (.int (i0 &&& (3 : Int32))), .val (.int (0 : Int32)), .val (.int ((((i0.toUInt32 >>> ((3 : Int32) &&& 31).toUInt32).toInt32) &&& (7 : Int32)) % (7 : Int32))), .unset, .unset] [(.int (i0 &&& (3 : Int32)))])
    by_cases hc112 : (i0 &&& (3 : Int32)) = (0 : Int32)
    · have hv_f_t := hv_f.trans (if_pos hc112)
      refine own_stepW (fun _ => XS.ifNo X128.here hx rfl (hb hby at_112) rfl ((if0 _ _).trans (teq hc112).2)) ?_
      show own_EndsW p e below s _ _ _ T128 (mkF m 115 #[.val (.int i0), .val (.int i1), .val (.int i2), .val (.int i3), .val (.int i4), .val (.ref b122), .val (.int (i0 &&& (3 : Int32))), .val (.int (0 : Int32)), .val (.int ((((i0.toUInt32 >>> ((3 : Int32) &&& 31).toUInt32).toInt32) &&& (7 : Int32)) % (7 : Int32))), .unset, .unset] [])
      refine own_stepW (fun _ => XS.aload X128.here hx rfl (hb hby at_115) rfl rfl) ?_
      show own_EndsW p e below s _ _ _ T128 (mkF m 117 #[.val (.int i0), .val (.int i1), .val (.int i2), .val (.int i3), .val (.int i4), .val (.ref b122), .val (.int (i0 &&& (3 : Int32))), .val (.int (0 : Int32)), .val (.int ((((i0.toUInt32 >>> ((3 : Int32) &&& 31).toUInt32).toInt32) &&& (7 : Int32)) % (7 : Int32))), .unset, .unset] [(.ref b122)])
      refine own_stepW (fun _ => XS.iconst X128.here hx rfl (hb hby at_117)) ?_
      show own_EndsW p e below s _ _ _ T128 (mkF m 118 #[.val (.int i0), .val (.int i1), .val (.int i2), .val (.int i3), .val (.int i4), .val (.ref b122), .val (.int (i0 &&& (3 : Int32))), .val (.int (0 : Int32)), .val (.int ((((i0.toUInt32 >>> ((3 : Int32) &&& 31).toUInt32).toInt32) &&& (7 : Int32)) % (7 : Int32))), .unset, .unset] [(.int (0 : Int32)), (.ref b122)])
      refine own_stepW (fun _ => XS.bipush X128.here hx rfl (hb hby at_118)) ?_
      show own_EndsW p e below s _ _ _ T128 (mkF m 120 #[.val (.int i0), .val (.int i1), .val (.int i2), .val (.int i3), .val (.int i4), .val (.ref b122), .val (.int (i0 &&& (3 : Int32))), .val (.int (0 : Int32)), .val (.int ((((i0.toUInt32 >>> ((3 : Int32) &&& 31).toUInt32).toInt32) &&& (7 : Int32)) % (7 : Int32))), .unset, .unset] [(.int (110 : Int32)), (.int (0 : Int32)), (.ref b122)])
      obtain ⟨cl145, Ar145, q145, S145, N145_, H145, G145⟩ := id V128
      have hin145 : ¬ ((0 : Int32) < 0 ∨ cl145.slots.size ≤ ((0 : Int32)).toNatClampNeg) := inb_of S145 ⟨by decide, by decide⟩
      obtain ⟨T145, h145, X145, e145, W145, st145⟩ := stC X128 hx hZ e128 Ar145 (j := (0 : Int32)) hin145 (g := (mkF m 120 #[.val (.int i0), .val (.int i1), .val (.int i2), .val (.int i3), .val (.int i4), .val (.ref b122), .val (.int (i0 &&& (3 : Int32))), .val (.int (0 : Int32)), .val (.int ((((i0.toUInt32 >>> ((3 : Int32) &&& 31).toUInt32).toInt32) &&& (7 : Int32)) % (7 : Int32))), .unset, .unset] [(.int (110 : Int32)), (.int (0 : Int32)), (.ref b122)])) rfl rfl (hb hby at_120)
      have V145 : Arv Z h145 b122 k122 .char (6 : Int32) [(.int (nar .char (110 : Int32))), (.int (nar .char ((((i3.toUInt32 >>> ((8 : Int32) &&& 31).toUInt32).toInt32) &&& (255 : Int32)).toUInt32.toUInt16.toUInt32.toInt32))), (.int (nar .char ((((i3.toUInt32 >>> ((16 : Int32) &&& 31).toUInt32).toInt32) &&& (255 : Int32)).toUInt32.toUInt16.toUInt32.toInt32))), (.int (nar .char ((((i3.toUInt32 >>> ((24 : Int32) &&& 31).toUInt32).toInt32) &&& (255 : Int32)).toUInt32.toUInt16.toUInt32.toInt32))), (.int (nar .char ((i4 &&& (255 : Int32)).toUInt32.toUInt16.toUInt32.toInt32))), (.int (nar .char ((((i4.toUInt32 >>> ((8 : Int32) &&& 31).toUInt32).toInt32) &&& (255 : Int32)).toUInt32.toUInt16.toUInt32.toInt32)))] (.int (0 : Int32)) := Arv.set Ar145 q145 S145 N145_ H145 G145 (fits_nar_char _) W145 0 rfl (Nat.le_of_ble_eq_true rfl)
      have OLD145 := OLD128.wr W145 g_b122
      have Zs145 : n0 ≤ h145.size := (by rw [W145.size]; exact Zs128)
      have hk := Nat.le_trans hk (Nat.le_of_eq W145.size.symm)
      have N145 := Fr.snoc X145 N128 g_b122
      refine own_stepW st145 ?_
      show own_EndsW p e below s _ _ _ T145 (mkF m 121 #[.val (.int i0), .val (.int i1), .val (.int i2), .val (.int i3), .val (.int i4), .val (.ref b122), .val (.int (i0 &&& (3 : Int32))), .val (.int (0 : Int32)), .val (.int ((((i0.toUInt32 >>> ((3 : Int32) &&& 31).toUInt32).toInt32) &&& (7 : Int32)) % (7 : Int32))), .unset, .unset] [])
      refine own_stepW (fun _ => XS.aload X145.here hx rfl (hb hby at_121) rfl rfl) ?_
      show own_EndsW p e below s _ _ _ T145 (mkF m 123 #[.val (.int i0), .val (.int i1), .val (.int i2), .val (.int i3), .val (.int i4), .val (.ref b122), .val (.int (i0 &&& (3 : Int32))), .val (.int (0 : Int32)), .val (.int ((((i0.toUInt32 >>> ((3 : Int32) &&& 31).toUInt32).toInt32) &&& (7 : Int32)) % (7 : Int32))), .unset, .unset] [(.ref b122)])
      refine own_stepW (fun _ => XS.iconst X145.here hx rfl (hb hby at_123)) ?_
      show own_EndsW p e below s _ _ _ T145 (mkF m 124 #[.val (.int i0), .val (.int i1), .val (.int i2), .val (.int i3), .val (.int i4), .val (.ref b122), .val (.int (i0 &&& (3 : Int32))), .val (.int (0 : Int32)), .val (.int ((((i0.toUInt32 >>> ((3 : Int32) &&& 31).toUInt32).toInt32) &&& (7 : Int32)) % (7 : Int32))), .unset, .unset] [(.int (1 : Int32)), (.ref b122)])
      refine own_stepW (fun _ => XS.bipush X145.here hx rfl (hb hby at_124)) ?_
      show own_EndsW p e below s _ _ _ T145 (mkF m 126 #[.val (.int i0), .val (.int i1), .val (.int i2), .val (.int i3), .val (.int i4), .val (.ref b122), .val (.int (i0 &&& (3 : Int32))), .val (.int (0 : Int32)), .val (.int ((((i0.toUInt32 >>> ((3 : Int32) &&& 31).toUInt32).toInt32) &&& (7 : Int32)) % (7 : Int32))), .unset, .unset] [(.int (97 : Int32)), (.int (1 : Int32)), (.ref b122)])
      obtain ⟨cl146, Ar146, q146, S146, N146_, H146, G146⟩ := id V145
      have hin146 : ¬ ((1 : Int32) < 0 ∨ cl146.slots.size ≤ ((1 : Int32)).toNatClampNeg) := inb_of S146 ⟨by decide, by decide⟩
      obtain ⟨T146, h146, X146, e146, W146, st146⟩ := stC X145 hx hZ e145 Ar146 (j := (1 : Int32)) hin146 (g := (mkF m 126 #[.val (.int i0), .val (.int i1), .val (.int i2), .val (.int i3), .val (.int i4), .val (.ref b122), .val (.int (i0 &&& (3 : Int32))), .val (.int (0 : Int32)), .val (.int ((((i0.toUInt32 >>> ((3 : Int32) &&& 31).toUInt32).toInt32) &&& (7 : Int32)) % (7 : Int32))), .unset, .unset] [(.int (97 : Int32)), (.int (1 : Int32)), (.ref b122)])) rfl rfl (hb hby at_126)
      have V146 : Arv Z h146 b122 k122 .char (6 : Int32) [(.int (nar .char (110 : Int32))), (.int (nar .char (97 : Int32))), (.int (nar .char ((((i3.toUInt32 >>> ((16 : Int32) &&& 31).toUInt32).toInt32) &&& (255 : Int32)).toUInt32.toUInt16.toUInt32.toInt32))), (.int (nar .char ((((i3.toUInt32 >>> ((24 : Int32) &&& 31).toUInt32).toInt32) &&& (255 : Int32)).toUInt32.toUInt16.toUInt32.toInt32))), (.int (nar .char ((i4 &&& (255 : Int32)).toUInt32.toUInt16.toUInt32.toInt32))), (.int (nar .char ((((i4.toUInt32 >>> ((8 : Int32) &&& 31).toUInt32).toInt32) &&& (255 : Int32)).toUInt32.toUInt16.toUInt32.toInt32)))] (.int (0 : Int32)) := Arv.set Ar146 q146 S146 N146_ H146 G146 (fits_nar_char _) W146 1 rfl (Nat.le_of_ble_eq_true rfl)
      have OLD146 := OLD145.wr W146 g_b122
      have Zs146 : n0 ≤ h146.size := (by rw [W146.size]; exact Zs145)
      have hk := Nat.le_trans hk (Nat.le_of_eq W146.size.symm)
      have N146 := Fr.snoc X146 N145 g_b122
      refine own_stepW st146 ?_
      show own_EndsW p e below s _ _ _ T146 (mkF m 127 #[.val (.int i0), .val (.int i1), .val (.int i2), .val (.int i3), .val (.int i4), .val (.ref b122), .val (.int (i0 &&& (3 : Int32))), .val (.int (0 : Int32)), .val (.int ((((i0.toUInt32 >>> ((3 : Int32) &&& 31).toUInt32).toInt32) &&& (7 : Int32)) % (7 : Int32))), .unset, .unset] [])
      refine own_stepW (fun _ => XS.aload X146.here hx rfl (hb hby at_127) rfl rfl) ?_
      show own_EndsW p e below s _ _ _ T146 (mkF m 129 #[.val (.int i0), .val (.int i1), .val (.int i2), .val (.int i3), .val (.int i4), .val (.ref b122), .val (.int (i0 &&& (3 : Int32))), .val (.int (0 : Int32)), .val (.int ((((i0.toUInt32 >>> ((3 : Int32) &&& 31).toUInt32).toInt32) &&& (7 : Int32)) % (7 : Int32))), .unset, .unset] [(.ref b122)])
      refine own_stepW (fun _ => XS.iconst X146.here hx rfl (hb hby at_129)) ?_
      show own_EndsW p e below s _ _ _ T146 (mkF m 130 #[.val (.int i0), .val (.int i1), .val (.int i2), .val (.int i3), .val (.int i4), .val (.ref b122), .val (.int (i0 &&& (3 : Int32))), .val (.int (0 : Int32)), .val (.int ((((i0.toUInt32 >>> ((3 : Int32) &&& 31).toUInt32).toInt32) &&& (7 : Int32)) % (7 : Int32))), .unset, .unset] [(.int (2 : Int32)), (.ref b122)])
      refine own_stepW (fun _ => XS.bipush X146.here hx rfl (hb hby at_130)) ?_
      show own_EndsW p e below s _ _ _ T146 (mkF m 132 #[.val (.int i0), .val (.int i1), .val (.int i2), .val (.int i3), .val (.int i4), .val (.ref b122), .val (.int (i0 &&& (3 : Int32))), .val (.int (0 : Int32)), .val (.int ((((i0.toUInt32 >>> ((3 : Int32) &&& 31).toUInt32).toInt32) &&& (7 : Int32)) % (7 : Int32))), .unset, .unset] [(.int (109 : Int32)), (.int (2 : Int32)), (.ref b122)])
      obtain ⟨cl147, Ar147, q147, S147, N147_, H147, G147⟩ := id V146
      have hin147 : ¬ ((2 : Int32) < 0 ∨ cl147.slots.size ≤ ((2 : Int32)).toNatClampNeg) := inb_of S147 ⟨by decide, by decide⟩
      obtain ⟨T147, h147, X147, e147, W147, st147⟩ := stC X146 hx hZ e146 Ar147 (j := (2 : Int32)) hin147 (g := (mkF m 132 #[.val (.int i0), .val (.int i1), .val (.int i2), .val (.int i3), .val (.int i4), .val (.ref b122), .val (.int (i0 &&& (3 : Int32))), .val (.int (0 : Int32)), .val (.int ((((i0.toUInt32 >>> ((3 : Int32) &&& 31).toUInt32).toInt32) &&& (7 : Int32)) % (7 : Int32))), .unset, .unset] [(.int (109 : Int32)), (.int (2 : Int32)), (.ref b122)])) rfl rfl (hb hby at_132)
      have V147 : Arv Z h147 b122 k122 .char (6 : Int32) [(.int (nar .char (110 : Int32))), (.int (nar .char (97 : Int32))), (.int (nar .char (109 : Int32))), (.int (nar .char ((((i3.toUInt32 >>> ((24 : Int32) &&& 31).toUInt32).toInt32) &&& (255 : Int32)).toUInt32.toUInt16.toUInt32.toInt32))), (.int (nar .char ((i4 &&& (255 : Int32)).toUInt32.toUInt16.toUInt32.toInt32))), (.int (nar .char ((((i4.toUInt32 >>> ((8 : Int32) &&& 31).toUInt32).toInt32) &&& (255 : Int32)).toUInt32.toUInt16.toUInt32.toInt32)))] (.int (0 : Int32)) := Arv.set Ar147 q147 S147 N147_ H147 G147 (fits_nar_char _) W147 2 rfl (Nat.le_of_ble_eq_true rfl)
      have OLD147 := OLD146.wr W147 g_b122
      have Zs147 : n0 ≤ h147.size := (by rw [W147.size]; exact Zs146)
      have hk := Nat.le_trans hk (Nat.le_of_eq W147.size.symm)
      have N147 := Fr.snoc X147 N146 g_b122
      refine own_stepW st147 ?_
      show own_EndsW p e below s _ _ _ T147 (mkF m 133 #[.val (.int i0), .val (.int i1), .val (.int i2), .val (.int i3), .val (.int i4), .val (.ref b122), .val (.int (i0 &&& (3 : Int32))), .val (.int (0 : Int32)), .val (.int ((((i0.toUInt32 >>> ((3 : Int32) &&& 31).toUInt32).toInt32) &&& (7 : Int32)) % (7 : Int32))), .unset, .unset] [])
      refine own_stepW (fun _ => XS.aload X147.here hx rfl (hb hby at_133) rfl rfl) ?_
      show own_EndsW p e below s _ _ _ T147 (mkF m 135 #[.val (.int i0), .val (.int i1), .val (.int i2), .val (.int i3), .val (.int i4), .val (.ref b122), .val (.int (i0 &&& (3 : Int32))), .val (.int (0 : Int32)), .val (.int ((((i0.toUInt32 >>> ((3 : Int32) &&& 31).toUInt32).toInt32) &&& (7 : Int32)) % (7 : Int32))), .unset, .unset] [(.ref b122)])
      refine own_stepW (fun _ => XS.iconst X147.here hx rfl (hb hby at_135)) ?_
      show own_EndsW p e below s _ _ _ T147 (mkF m 136 #[.val (.int i0), .val (.int i1), .val (.int i2), .val (.int i3), .val (.int i4), .val (.ref b122), .val (.int (i0 &&& (3 : Int32))), .val (.int (0 : Int32)), .val (.int ((((i0.toUInt32 >>> ((3 : Int32) &&& 31).toUInt32).toInt32) &&& (7 : Int32)) % (7 : Int32))), .unset, .unset] [(.int (3 : Int32)), (.ref b122)])
      refine own_stepW (fun _ => XS.bipush X147.here hx rfl (hb hby at_136)) ?_
      show own_EndsW p e below s _ _ _ T147 (mkF m 138 #[.val (.int i0), .val (.int i1), .val (.int i2), .val (.int i3), .val (.int i4), .val (.ref b122), .val (.int (i0 &&& (3 : Int32))), .val (.int (0 : Int32)), .val (.int ((((i0.toUInt32 >>> ((3 : Int32) &&& 31).toUInt32).toInt32) &&& (7 : Int32)) % (7 : Int32))), .unset, .unset] [(.int (101 : Int32)), (.int (3 : Int32)), (.ref b122)])
      obtain ⟨cl148, Ar148, q148, S148, N148_, H148, G148⟩ := id V147
      have hin148 : ¬ ((3 : Int32) < 0 ∨ cl148.slots.size ≤ ((3 : Int32)).toNatClampNeg) := inb_of S148 ⟨by decide, by decide⟩
      obtain ⟨T148, h148, X148, e148, W148, st148⟩ := stC X147 hx hZ e147 Ar148 (j := (3 : Int32)) hin148 (g := (mkF m 138 #[.val (.int i0), .val (.int i1), .val (.int i2), .val (.int i3), .val (.int i4), .val (.ref b122), .val (.int (i0 &&& (3 : Int32))), .val (.int (0 : Int32)), .val (.int ((((i0.toUInt32 >>> ((3 : Int32) &&& 31).toUInt32).toInt32) &&& (7 : Int32)) % (7 : Int32))), .unset, .unset] [(.int (101 : Int32)), (.int (3 : Int32)), (.ref b122)])) rfl rfl (hb hby at_138)
      have V148 : Arv Z h148 b122 k122 .char (6 : Int32) [(.int (nar .char (110 : Int32))), (.int (nar .char (97 : Int32))), (.int (nar .char (109 : Int32))), (.int (nar .char (101 : Int32))), (.int (nar .char ((i4 &&& (255 : Int32)).toUInt32.toUInt16.toUInt32.toInt32))), (.int (nar .char ((((i4.toUInt32 >>> ((8 : Int32) &&& 31).toUInt32).toInt32) &&& (255 : Int32)).toUInt32.toUInt16.toUInt32.toInt32)))] (.int (0 : Int32)) := Arv.set Ar148 q148 S148 N148_ H148 G148 (fits_nar_char _) W148 3 rfl (Nat.le_of_ble_eq_true rfl)
      have OLD148 := OLD147.wr W148 g_b122
      have Zs148 : n0 ≤ h148.size := (by rw [W148.size]; exact Zs147)
      have hk := Nat.le_trans hk (Nat.le_of_eq W148.size.symm)
      have N148 := Fr.snoc X148 N147 g_b122
      refine own_stepW st148 ?_
      show own_EndsW p e below s _ _ _ T148 (mkF m 139 #[.val (.int i0), .val (.int i1), .val (.int i2), .val (.int i3), .val (.int i4), .val (.ref b122), .val (.int (i0 &&& (3 : Int32))), .val (.int (0 : Int32)), .val (.int ((((i0.toUInt32 >>> ((3 : Int32) &&& 31).toUInt32).toInt32) &&& (7 : Int32)) % (7 : Int32))), .unset, .unset] [])
      refine own_stepW (fun _ => XS.iload X148.here hx rfl (hb hby at_139) rfl) ?_
      show own_EndsW p e below s _ _ _ T148 (mkF m 141 #[.val (.int i0), .val (.int i1), .val (.int i2), .val (.int i3), .val (.int i4), .val (.ref b122), .val (.int (i0 &&& (3 : Int32))), .val (.int (0 : Int32)), .val (.int ((((i0.toUInt32 >>> ((3 : Int32) &&& 31).toUInt32).toInt32) &&& (7 : Int32)) % (7 : Int32))), .unset, .unset] [(.int (0 : Int32))])
      refine own_stepW (fun _ => XS.ifYes X148.here hx rfl (pc0 := 141) (pc' := 229) rfl (hb hby at_141) rfl ((if0 _ _).trans (teq (show (0 : Int32) = (0 : Int32) from (by decide))).1) (by decide) (by decide)) ?_
      show own_EndsW p e below s _ _ _ T148 (mkF m 229 #[.val (.int i0), .val (.int i1), .val (.int i2), .val (.int i3), .val (.int i4), .val (.ref b122), .val (.int (i0 &&& (3 : Int32))), .val (.int (0 : Int32)), .val (.int ((((i0.toUInt32 >>> ((3 : Int32) &&& 31).toUInt32).toInt32) &&& (7 : Int32)) % (7 : Int32))), .unset, .unset] [])
      refine own_stepW (fun _ => XS.iloadN X148.here hx rfl (hb hby at_229) rfl) ?_
      show own_EndsW p e below s _ _ _ T148 (mkF m 230 #[.val (.int i0), .val (.int i1), .val (.int i2), .val (.int i3), .val (.int i4), .val (.ref b122), .val (.int (i0 &&& (3 : Int32))), .val (.int (0 : Int32)), .val (.int ((((i0.toUInt32 >>> ((3 : Int32) &&& 31).toUInt32).toInt32) &&& (7 : Int32)) % (7 : Int32))), .unset, .unset] [(.int i0)])
      refine own_stepW (fun _ => XS.iconst X148.here hx rfl (hb hby at_230)) ?_
      show own_EndsW p e below s _ _ _ T148 (mkF m 231 #[.val (.int i0), .val (.int i1), .val (.int i2), .val (.int i3), .val (.int i4), .val (.ref b122), .val (.int (i0 &&& (3 : Int32))), .val (.int (0 : Int32)), .val (.int ((((i0.toUInt32 >>> ((3 : Int32) &&& 31).toUInt32).toInt32) &&& (7 : Int32)) % (7 : Int32))), .unset, .unset] [(.int (4 : Int32)), (.int i0)])
      refine own_stepW (fun _ => XS.iand X148.here hx rfl (hb hby at_231) rfl) ?_
      show own_EndsW p e below s _ _ _ T148 (mkF m 232 #[.val (.int i0), .val (.int i1), .val (.int i2), .val (.int i3), .val (.int i4), .val (.ref b122), .val (.int (i0 &&& (3 : Int32))), .val (.int (0 : Int32)), .val (.int ((((i0.toUInt32 >>> ((3 : Int32) &&& 31).toUInt32).toInt32) &&& (7 : Int32)) % (7 : Int32))), .unset, .unset] [(.int (i0 &&& (4 : Int32)))])
      by_cases hc232 : (i0 &&& (4 : Int32)) = (0 : Int32)
      · have hv_f_t_t := hv_f_t.trans (if_pos hc232)
        refine own_stepW (fun _ => XS.ifYes X148.here hx rfl (pc0 := 232) (pc' := 251) rfl (hb hby at_232) rfl ((if0 _ _).trans (teq hc232).1) (by decide) (by decide)) ?_
        show own_EndsW p e below s _ _ _ T148 (mkF m 251 #[.val (.int i0), .val (.int i1), .val (.int i2), .val (.int i3), .val (.int i4), .val (.ref b122), .val (.int (i0 &&& (3 : Int32))), .val (.int (0 : Int32)), .val (.int ((((i0.toUInt32 >>> ((3 : Int32) &&& 31).toUInt32).toInt32) &&& (7 : Int32)) % (7 : Int32))), .unset, .unset] [])
        exact b0_251 C Zs148 hS hk X148 e148 N148 i0 i1 i2 i3 i4 G1 w3 w54 w83 w9 w22 w63 w92 w32 w73 w102 k_w9 k_w32 k_w73 k_w102 OLD148 O2 P5 bSNAME bSORG bSEMAIL bSALL bE0 bX0 bC0 bV0 bE1 bX1 bC1 bV1 bE2 bX2 bC2 bV2 bA0 bA1 bA2 bA3 CHZ  b122 (i0 &&& (3 : Int32)) (0 : Int32) ((((i0.toUInt32 >>> ((3 : Int32) &&& 31).toUInt32).toInt32) &&& (7 : Int32)) % (7 : Int32)) k122 [(nar .char (110 : Int32)), (nar .char (97 : Int32)), (nar .char (109 : Int32)), (nar .char (101 : Int32)), (nar .char ((i4 &&& (255 : Int32)).toUInt32.toUInt16.toUInt32.toInt32)), (nar .char ((((i4.toUInt32 >>> ((8 : Int32) &&& 31).toUInt32).toInt32) &&& (255 : Int32)).toUInt32.toUInt16.toUInt32.toInt32))] (own_n7 _) rfl (own_lc (by unfold own_R; decide) (own_lc (by unfold own_R; decide) (own_lc (by unfold own_R; decide) (own_lc (by unfold own_R; decide) (own_lc (own_c255 _) (own_lc (own_c255 _) own_ln)))))) V148 _ hv_f_t_t
      · have hv_f_t_f := hv_f_t.trans (if_neg hc232)
        refine own_stepW (fun _ => XS.ifNo X148.here hx rfl (hb hby at_232) rfl ((if0 _ _).trans (feq hc232).1)) ?_
        show own_EndsW p e below s _ _ _ T148 (mkF m 235 #[.val (.int i0), .val (.int i1), .val (.int i2), .val (.int i3), .val (.int i4), .val (.ref b122), .val (.int (i0 &&& (3 : Int32))), .val (.int (0 : Int32)), .val (.int ((((i0.toUInt32 >>> ((3 : Int32) &&& 31).toUInt32).toInt32) &&& (7 : Int32)) % (7 : Int32))), .unset, .unset] [])
        refine own_stepW (fun _ => XS.aload X148.here hx rfl (hb hby at_235) rfl rfl) ?_
        show own_EndsW p e below s _ _ _ T148 (mkF m 237 #[.val (.int i0), .val (.int i1), .val (.int i2), .val (.int i3), .val (.int i4), .val (.ref b122), .val (.int (i0 &&& (3 : Int32))), .val (.int (0 : Int32)), .val (.int ((((i0.toUInt32 >>> ((3 : Int32) &&& 31).toUInt32).toInt32) &&& (7 : Int32)) % (7 : Int32))), .unset, .unset] [(.ref b122)])
        refine own_stepW (fun _ => XS.iloadN X148.here hx rfl (hb hby at_237) rfl) ?_
        show own_EndsW p e below s _ _ _ T148 (mkF m 238 #[.val (.int i0), .val (.int i1), .val (.int i2), .val (.int i3), .val (.int i4), .val (.ref b122), .val (.int (i0 &&& (3 : Int32))), .val (.int (0 : Int32)), .val (.int ((((i0.toUInt32 >>> ((3 : Int32) &&& 31).toUInt32).toInt32) &&& (7 : Int32)) % (7 : Int32))), .unset, .unset] [(.int i1), (.ref b122)])
        refine own_stepW (fun _ => X148.ldcInt hx hown (mvT hZ (hw _ (List.mem_of_getElem? (i := 59) rfl))) (g := (mkF m 238 #[.val (.int i0), .val (.int i1), .val (.int i2), .val (.int i3), .val (.int i4), .val (.ref b122), .val (.int (i0 &&& (3 : Int32))), .val (.int (0 : Int32)), .val (.int ((((i0.toUInt32 >>> ((3 : Int32) &&& 31).toUInt32).toInt32) &&& (7 : Int32)) % (7 : Int32))), .unset, .unset] [(.int i1), (.ref b122)])) rfl (hb hby at_238) _) ?_
        show own_EndsW p e below s _ _ _ T148 (mkF m 240 #[.val (.int i0), .val (.int i1), .val (.int i2), .val (.int i3), .val (.int i4), .val (.ref b122), .val (.int (i0 &&& (3 : Int32))), .val (.int (0 : Int32)), .val (.int ((((i0.toUInt32 >>> ((3 : Int32) &&& 31).toUInt32).toInt32) &&& (7 : Int32)) % (7 : Int32))), .unset, .unset] [(.int (2147483647 : Int32)), (.int i1), (.ref b122)])
        refine own_stepW (fun _ => XS.iand X148.here hx rfl (hb hby at_240) rfl) ?_
        show own_EndsW p e below s _ _ _ T148 (mkF m 241 #[.val (.int i0), .val (.int i1), .val (.int i2), .val (.int i3), .val (.int i4), .val (.ref b122), .val (.int (i0 &&& (3 : Int32))), .val (.int (0 : Int32)), .val (.int ((((i0.toUInt32 >>> ((3 : Int32) &&& 31).toUInt32).toInt32) &&& (7 : Int32)) % (7 : Int32))), .unset, .unset] [(.int (i1 &&& (2147483647 : Int32))), (.ref b122)])
        refine own_stepW (fun _ => XS.bipush X148.here hx rfl (hb hby at_241)) ?_
        show own_EndsW p e below s _ _ _ T148 (mkF m 243 #[.val (.int i0), .val (.int i1), .val (.int i2), .val (.int i3), .val (.int i4), .val (.ref b122), .val (.int (i0 &&& (3 : Int32))), .val (.int (0 : Int32)), .val (.int ((((i0.toUInt32 >>> ((3 : Int32) &&& 31).toUInt32).toInt32) &&& (7 : Int32)) % (7 : Int32))), .unset, .unset] [(.int (6 : Int32)), (.int (i1 &&& (2147483647 : Int32))), (.ref b122)])
        refine own_stepW (fun _ => iremM X148 hx rfl (hb hby at_243) rfl (by decide)) ?_
        show own_EndsW p e below s _ _ _ T148 (mkF m 244 #[.val (.int i0), .val (.int i1), .val (.int i2), .val (.int i3), .val (.int i4), .val (.ref b122), .val (.int (i0 &&& (3 : Int32))), .val (.int (0 : Int32)), .val (.int ((((i0.toUInt32 >>> ((3 : Int32) &&& 31).toUInt32).toInt32) &&& (7 : Int32)) % (7 : Int32))), .unset, .unset] [(.int ((i1 &&& (2147483647 : Int32)) % (6 : Int32))), (.ref b122)])
        refine own_stepW (fun _ => XS.iloadN X148.here hx rfl (hb hby at_244) rfl) ?_
        show own_EndsW p e below s _ _ _ T148 (mkF m 245 #[.val (.int i0), .val (.int i1), .val (.int i2), .val (.int i3), .val (.int i4), .val (.ref b122), .val (.int (i0 &&& (3 : Int32))), .val (.int (0 : Int32)), .val (.int ((((i0.toUInt32 >>> ((3 : Int32) &&& 31).toUInt32).toInt32) &&& (7 : Int32)) % (7 : Int32))), .unset, .unset] [(.int i2), (.int ((i1 &&& (2147483647 : Int32)) % (6 : Int32))), (.ref b122)])
        refine own_stepW (fun _ => XS.sipush X148.here hx rfl (hb hby at_245)) ?_
        show own_EndsW p e below s _ _ _ T148 (mkF m 248 #[.val (.int i0), .val (.int i1), .val (.int i2), .val (.int i3), .val (.int i4), .val (.ref b122), .val (.int (i0 &&& (3 : Int32))), .val (.int (0 : Int32)), .val (.int ((((i0.toUInt32 >>> ((3 : Int32) &&& 31).toUInt32).toInt32) &&& (7 : Int32)) % (7 : Int32))), .unset, .unset] [(.int (255 : Int32)), (.int i2), (.int ((i1 &&& (2147483647 : Int32)) % (6 : Int32))), (.ref b122)])
        refine own_stepW (fun _ => XS.iand X148.here hx rfl (hb hby at_248) rfl) ?_
        show own_EndsW p e below s _ _ _ T148 (mkF m 249 #[.val (.int i0), .val (.int i1), .val (.int i2), .val (.int i3), .val (.int i4), .val (.ref b122), .val (.int (i0 &&& (3 : Int32))), .val (.int (0 : Int32)), .val (.int ((((i0.toUInt32 >>> ((3 : Int32) &&& 31).toUInt32).toInt32) &&& (7 : Int32)) % (7 : Int32))), .unset, .unset] [(.int (i2 &&& (255 : Int32))), (.int ((i1 &&& (2147483647 : Int32)) % (6 : Int32))), (.ref b122)])
        refine own_stepW (fun _ => XS.i2c X148.here hx rfl (hb hby at_249) rfl) ?_
        show own_EndsW p e below s _ _ _ T148 (mkF m 250 #[.val (.int i0), .val (.int i1), .val (.int i2), .val (.int i3), .val (.int i4), .val (.ref b122), .val (.int (i0 &&& (3 : Int32))), .val (.int (0 : Int32)), .val (.int ((((i0.toUInt32 >>> ((3 : Int32) &&& 31).toUInt32).toInt32) &&& (7 : Int32)) % (7 : Int32))), .unset, .unset] [(.int ((i2 &&& (255 : Int32)).toUInt32.toUInt16.toUInt32.toInt32)), (.int ((i1 &&& (2147483647 : Int32)) % (6 : Int32))), (.ref b122)])
        obtain ⟨cl149, Ar149, q149, S149, N149_, H149, G149⟩ := id V148
        have hin149 : ¬ (((i1 &&& (2147483647 : Int32)) % (6 : Int32)) < 0 ∨ cl149.slots.size ≤ (((i1 &&& (2147483647 : Int32)) % (6 : Int32))).toNatClampNeg) := inb_of S149 (own_at6 _)
        obtain ⟨T149, h149, X149, e149, W149, st149⟩ := stC X148 hx hZ e148 Ar149 (j := ((i1 &&& (2147483647 : Int32)) % (6 : Int32))) hin149 (g := (mkF m 250 #[.val (.int i0), .val (.int i1), .val (.int i2), .val (.int i3), .val (.int i4), .val (.ref b122), .val (.int (i0 &&& (3 : Int32))), .val (.int (0 : Int32)), .val (.int ((((i0.toUInt32 >>> ((3 : Int32) &&& 31).toUInt32).toInt32) &&& (7 : Int32)) % (7 : Int32))), .unset, .unset] [(.int ((i2 &&& (255 : Int32)).toUInt32.toUInt16.toUInt32.toInt32)), (.int ((i1 &&& (2147483647 : Int32)) % (6 : Int32))), (.ref b122)])) rfl rfl (hb hby at_250)
        have V149 : Arv Z h149 b122 k122 .char (6 : Int32) ((own_set [(nar .char (110 : Int32)), (nar .char (97 : Int32)), (nar .char (109 : Int32)), (nar .char (101 : Int32)), (nar .char ((i4 &&& (255 : Int32)).toUInt32.toUInt16.toUInt32.toInt32)), (nar .char ((((i4.toUInt32 >>> ((8 : Int32) &&& 31).toUInt32).toInt32) &&& (255 : Int32)).toUInt32.toUInt16.toUInt32.toInt32))] ((i1 &&& (2147483647 : Int32)) % (6 : Int32)) ((i2 &&& (255 : Int32)).toUInt32.toUInt16.toUInt32.toInt32)).map Value.int) (.int (0 : Int32)) := own_arvset (Arv.set Ar149 q149 S149 N149_ H149 G149 (fits_nar_char _) W149 _ rfl (Nat.lt_of_lt_of_eq (own_bd6 (own_at6 _)) rfl))
        have OLD149 := OLD148.wr W149 g_b122
        have Zs149 : n0 ≤ h149.size := (by rw [W149.size]; exact Zs148)
        have hk := Nat.le_trans hk (Nat.le_of_eq W149.size.symm)
        have N149 := Fr.snoc X149 N148 g_b122
        refine own_stepW st149 ?_
        show own_EndsW p e below s _ _ _ T149 (mkF m 251 #[.val (.int i0), .val (.int i1), .val (.int i2), .val (.int i3), .val (.int i4), .val (.ref b122), .val (.int (i0 &&& (3 : Int32))), .val (.int (0 : Int32)), .val (.int ((((i0.toUInt32 >>> ((3 : Int32) &&& 31).toUInt32).toInt32) &&& (7 : Int32)) % (7 : Int32))), .unset, .unset] [])
        exact b0_251 C Zs149 hS hk X149 e149 N149 i0 i1 i2 i3 i4 G1 w3 w54 w83 w9 w22 w63 w92 w32 w73 w102 k_w9 k_w32 k_w73 k_w102 OLD149 O2 P5 bSNAME bSORG bSEMAIL bSALL bE0 bX0 bC0 bV0 bE1 bX1 bC1 bV1 bE2 bX2 bC2 bV2 bA0 bA1 bA2 bA3 CHZ  b122 (i0 &&& (3 : Int32)) (0 : Int32) ((((i0.toUInt32 >>> ((3 : Int32) &&& 31).toUInt32).toInt32) &&& (7 : Int32)) % (7 : Int32)) k122 (own_set [(nar .char (110 : Int32)), (nar .char (97 : Int32)), (nar .char (109 : Int32)), (nar .char (101 : Int32)), (nar .char ((i4 &&& (255 : Int32)).toUInt32.toUInt16.toUInt32.toInt32)), (nar .char ((((i4.toUInt32 >>> ((8 : Int32) &&& 31).toUInt32).toInt32) &&& (255 : Int32)).toUInt32.toUInt16.toUInt32.toInt32))] ((i1 &&& (2147483647 : Int32)) % (6 : Int32)) ((i2 &&& (255 : Int32)).toUInt32.toUInt16.toUInt32.toInt32)) (own_n7 _) (own_setlen _ _ _) (own_rset (own_lc (by unfold own_R; decide) (own_lc (by unfold own_R; decide) (own_lc (by unfold own_R; decide) (own_lc (by unfold own_R; decide) (own_lc (own_c255 _) (own_lc (own_c255 _) own_ln)))))) (own_c255 _)) V149 _ hv_f_t_f
    · have hv_f_f := hv_f.trans (if_neg hc112)
      refine own_stepW (fun _ => XS.ifYes X128.here hx rfl (pc0 := 112) (pc' := 150) rfl (hb hby at_112) rfl ((if0 _ _).trans (feq hc112).2) (by decide) (by decide)) ?_
      show own_EndsW p e below s _ _ _ T128 (mkF m 150 #[.val (.int i0), .val (.int i1), .val (.int i2), .val (.int i3), .val (.int i4), .val (.ref b122), .val (.int (i0 &&& (3 : Int32))), .val (.int (0 : Int32)), .val (.int ((((i0.toUInt32 >>> ((3 : Int32) &&& 31).toUInt32).toInt32) &&& (7 : Int32)) % (7 : Int32))), .unset, .unset] [])
      refine own_stepW (fun _ => XS.iload X128.here hx rfl (hb hby at_150) rfl) ?_
      show own_EndsW p e below s _ _ _ T128 (mkF m 152 #[.val (.int i0), .val (.int i1), .val (.int i2), .val (.int i3), .val (.int i4), .val (.ref b122), .val (.int (i0 &&& (3 : Int32))), .val (.int (0 : Int32)), .val (.int ((((i0.toUInt32 >>> ((3 : Int32) &&& 31).toUInt32).toInt32) &&& (7 : Int32)) % (7 : Int32))), .unset, .unset] [(.int (i0 &&& (3 : Int32)))])
      refine own_stepW (fun _ => XS.iconst X128.here hx rfl (hb hby at_152)) ?_
      show own_EndsW p e below s _ _ _ T128 (mkF m 153 #[.val (.int i0), .val (.int i1), .val (.int i2), .val (.int i3), .val (.int i4), .val (.ref b122), .val (.int (i0 &&& (3 : Int32))), .val (.int (0 : Int32)), .val (.int ((((i0.toUInt32 >>> ((3 : Int32) &&& 31).toUInt32).toInt32) &&& (7 : Int32)) % (7 : Int32))), .unset, .unset] [(.int (1 : Int32)), (.int (i0 &&& (3 : Int32)))])
      by_cases hc153 : (i0 &&& (3 : Int32)) = (1 : Int32)
      · have hv_f_f_t := hv_f_f.trans (if_pos hc153)
        refine own_stepW (fun _ => XS.icmpNo X128.here hx rfl (hb hby at_153) rfl (teq hc153).2) ?_
        show own_EndsW p e below s _ _ _ T128 (mkF m 156 #[.val (.int i0), .val (.int i1), .val (.int i2), .val (.int i3), .val (.int i4), .val (.ref b122), .val (.int (i0 &&& (3 : Int32))), .val (.int (0 : Int32)), .val (.int ((((i0.toUInt32 >>> ((3 : Int32) &&& 31).toUInt32).toInt32) &&& (7 : Int32)) % (7 : Int32))), .unset, .unset] [])
        refine own_stepW (fun _ => XS.aload X128.here hx rfl (hb hby at_156) rfl rfl) ?_
        show own_EndsW p e below s _ _ _ T128 (mkF m 158 #[.val (.int i0), .val (.int i1), .val (.int i2), .val (.int i3), .val (.int i4), .val (.ref b122), .val (.int (i0 &&& (3 : Int32))), .val (.int (0 : Int32)), .val (.int ((((i0.toUInt32 >>> ((3 : Int32) &&& 31).toUInt32).toInt32) &&& (7 : Int32)) % (7 : Int32))), .unset, .unset] [(.ref b122)])
        refine own_stepW (fun _ => XS.iconst X128.here hx rfl (hb hby at_158)) ?_
        show own_EndsW p e below s _ _ _ T128 (mkF m 159 #[.val (.int i0), .val (.int i1), .val (.int i2), .val (.int i3), .val (.int i4), .val (.ref b122), .val (.int (i0 &&& (3 : Int32))), .val (.int (0 : Int32)), .val (.int ((((i0.toUInt32 >>> ((3 : Int32) &&& 31).toUInt32).toInt32) &&& (7 : Int32)) % (7 : Int32))), .unset, .unset] [(.int (0 : Int32)), (.ref b122)])
        refine own_stepW (fun _ => XS.bipush X128.here hx rfl (hb hby at_159)) ?_
        show own_EndsW p e below s _ _ _ T128 (mkF m 161 #[.val (.int i0), .val (.int i1), .val (.int i2), .val (.int i3), .val (.int i4), .val (.ref b122), .val (.int (i0 &&& (3 : Int32))), .val (.int (0 : Int32)), .val (.int ((((i0.toUInt32 >>> ((3 : Int32) &&& 31).toUInt32).toInt32) &&& (7 : Int32)) % (7 : Int32))), .unset, .unset] [(.int (111 : Int32)), (.int (0 : Int32)), (.ref b122)])
        obtain ⟨cl150, Ar150, q150, S150, N150_, H150, G150⟩ := id V128
        have hin150 : ¬ ((0 : Int32) < 0 ∨ cl150.slots.size ≤ ((0 : Int32)).toNatClampNeg) := inb_of S150 ⟨by decide, by decide⟩
        obtain ⟨T150, h150, X150, e150, W150, st150⟩ := stC X128 hx hZ e128 Ar150 (j := (0 : Int32)) hin150 (g := (mkF m 161 #[.val (.int i0), .val (.int i1), .val (.int i2), .val (.int i3), .val (.int i4), .val (.ref b122), .val (.int (i0 &&& (3 : Int32))), .val (.int (0 : Int32)), .val (.int ((((i0.toUInt32 >>> ((3 : Int32) &&& 31).toUInt32).toInt32) &&& (7 : Int32)) % (7 : Int32))), .unset, .unset] [(.int (111 : Int32)), (.int (0 : Int32)), (.ref b122)])) rfl rfl (hb hby at_161)
        have V150 : Arv Z h150 b122 k122 .char (6 : Int32) [(.int (nar .char (111 : Int32))), (.int (nar .char ((((i3.toUInt32 >>> ((8 : Int32) &&& 31).toUInt32).toInt32) &&& (255 : Int32)).toUInt32.toUInt16.toUInt32.toInt32))), (.int (nar .char ((((i3.toUInt32 >>> ((16 : Int32) &&& 31).toUInt32).toInt32) &&& (255 : Int32)).toUInt32.toUInt16.toUInt32.toInt32))), (.int (nar .char ((((i3.toUInt32 >>> ((24 : Int32) &&& 31).toUInt32).toInt32) &&& (255 : Int32)).toUInt32.toUInt16.toUInt32.toInt32))), (.int (nar .char ((i4 &&& (255 : Int32)).toUInt32.toUInt16.toUInt32.toInt32))), (.int (nar .char ((((i4.toUInt32 >>> ((8 : Int32) &&& 31).toUInt32).toInt32) &&& (255 : Int32)).toUInt32.toUInt16.toUInt32.toInt32)))] (.int (0 : Int32)) := Arv.set Ar150 q150 S150 N150_ H150 G150 (fits_nar_char _) W150 0 rfl (Nat.le_of_ble_eq_true rfl)
        have OLD150 := OLD128.wr W150 g_b122
        have Zs150 : n0 ≤ h150.size := (by rw [W150.size]; exact Zs128)
        have hk := Nat.le_trans hk (Nat.le_of_eq W150.size.symm)
        have N150 := Fr.snoc X150 N128 g_b122
        refine own_stepW st150 ?_
        show own_EndsW p e below s _ _ _ T150 (mkF m 162 #[.val (.int i0), .val (.int i1), .val (.int i2), .val (.int i3), .val (.int i4), .val (.ref b122), .val (.int (i0 &&& (3 : Int32))), .val (.int (0 : Int32)), .val (.int ((((i0.toUInt32 >>> ((3 : Int32) &&& 31).toUInt32).toInt32) &&& (7 : Int32)) % (7 : Int32))), .unset, .unset] [])
        refine own_stepW (fun _ => XS.aload X150.here hx rfl (hb hby at_162) rfl rfl) ?_
        show own_EndsW p e below s _ _ _ T150 (mkF m 164 #[.val (.int i0), .val (.int i1), .val (.int i2), .val (.int i3), .val (.int i4), .val (.ref b122), .val (.int (i0 &&& (3 : Int32))), .val (.int (0 : Int32)), .val (.int ((((i0.toUInt32 >>> ((3 : Int32) &&& 31).toUInt32).toInt32) &&& (7 : Int32)) % (7 : Int32))), .unset, .unset] [(.ref b122)])
        refine own_stepW (fun _ => XS.iconst X150.here hx rfl (hb hby at_164)) ?_
        show own_EndsW p e below s _ _ _ T150 (mkF m 165 #[.val (.int i0), .val (.int i1), .val (.int i2), .val (.int i3), .val (.int i4), .val (.ref b122), .val (.int (i0 &&& (3 : Int32))), .val (.int (0 : Int32)), .val (.int ((((i0.toUInt32 >>> ((3 : Int32) &&& 31).toUInt32).toInt32) &&& (7 : Int32)) % (7 : Int32))), .unset, .unset] [(.int (1 : Int32)), (.ref b122)])
        refine own_stepW (fun _ => XS.bipush X150.here hx rfl (hb hby at_165)) ?_
        show own_EndsW p e below s _ _ _ T150 (mkF m 167 #[.val (.int i0), .val (.int i1), .val (.int i2), .val (.int i3), .val (.int i4), .val (.ref b122), .val (.int (i0 &&& (3 : Int32))), .val (.int (0 : Int32)), .val (.int ((((i0.toUInt32 >>> ((3 : Int32) &&& 31).toUInt32).toInt32) &&& (7 : Int32)) % (7 : Int32))), .unset, .unset] [(.int (114 : Int32)), (.int (1 : Int32)), (.ref b122)])
        obtain ⟨cl151, Ar151, q151, S151, N151_, H151, G151⟩ := id V150
        have hin151 : ¬ ((1 : Int32) < 0 ∨ cl151.slots.size ≤ ((1 : Int32)).toNatClampNeg) := inb_of S151 ⟨by decide, by decide⟩
        obtain ⟨T151, h151, X151, e151, W151, st151⟩ := stC X150 hx hZ e150 Ar151 (j := (1 : Int32)) hin151 (g := (mkF m 167 #[.val (.int i0), .val (.int i1), .val (.int i2), .val (.int i3), .val (.int i4), .val (.ref b122), .val (.int (i0 &&& (3 : Int32))), .val (.int (0 : Int32)), .val (.int ((((i0.toUInt32 >>> ((3 : Int32) &&& 31).toUInt32).toInt32) &&& (7 : Int32)) % (7 : Int32))), .unset, .unset] [(.int (114 : Int32)), (.int (1 : Int32)), (.ref b122)])) rfl rfl (hb hby at_167)
        have V151 : Arv Z h151 b122 k122 .char (6 : Int32) [(.int (nar .char (111 : Int32))), (.int (nar .char (114 : Int32))), (.int (nar .char ((((i3.toUInt32 >>> ((16 : Int32) &&& 31).toUInt32).toInt32) &&& (255 : Int32)).toUInt32.toUInt16.toUInt32.toInt32))), (.int (nar .char ((((i3.toUInt32 >>> ((24 : Int32) &&& 31).toUInt32).toInt32) &&& (255 : Int32)).toUInt32.toUInt16.toUInt32.toInt32))), (.int (nar .char ((i4 &&& (255 : Int32)).toUInt32.toUInt16.toUInt32.toInt32))), (.int (nar .char ((((i4.toUInt32 >>> ((8 : Int32) &&& 31).toUInt32).toInt32) &&& (255 : Int32)).toUInt32.toUInt16.toUInt32.toInt32)))] (.int (0 : Int32)) := Arv.set Ar151 q151 S151 N151_ H151 G151 (fits_nar_char _) W151 1 rfl (Nat.le_of_ble_eq_true rfl)
        have OLD151 := OLD150.wr W151 g_b122
        have Zs151 : n0 ≤ h151.size := (by rw [W151.size]; exact Zs150)
        have hk := Nat.le_trans hk (Nat.le_of_eq W151.size.symm)
        have N151 := Fr.snoc X151 N150 g_b122
        refine own_stepW st151 ?_
        show own_EndsW p e below s _ _ _ T151 (mkF m 168 #[.val (.int i0), .val (.int i1), .val (.int i2), .val (.int i3), .val (.int i4), .val (.ref b122), .val (.int (i0 &&& (3 : Int32))), .val (.int (0 : Int32)), .val (.int ((((i0.toUInt32 >>> ((3 : Int32) &&& 31).toUInt32).toInt32) &&& (7 : Int32)) % (7 : Int32))), .unset, .unset] [])
        refine own_stepW (fun _ => XS.aload X151.here hx rfl (hb hby at_168) rfl rfl) ?_
        show own_EndsW p e below s _ _ _ T151 (mkF m 170 #[.val (.int i0), .val (.int i1), .val (.int i2), .val (.int i3), .val (.int i4), .val (.ref b122), .val (.int (i0 &&& (3 : Int32))), .val (.int (0 : Int32)), .val (.int ((((i0.toUInt32 >>> ((3 : Int32) &&& 31).toUInt32).toInt32) &&& (7 : Int32)) % (7 : Int32))), .unset, .unset] [(.ref b122)])
        refine own_stepW (fun _ => XS.iconst X151.here hx rfl (hb hby at_170)) ?_
        show own_EndsW p e below s _ _ _ T151 (mkF m 171 #[.val (.int i0), .val (.int i1), .val (.int i2), .val (.int i3), .val (.int i4), .val (.ref b122), .val (.int (i0 &&& (3 : Int32))), .val (.int (0 : Int32)), .val (.int ((((i0.toUInt32 >>> ((3 : Int32) &&& 31).toUInt32).toInt32) &&& (7 : Int32)) % (7 : Int32))), .unset, .unset] [(.int (2 : Int32)), (.ref b122)])
        refine own_stepW (fun _ => XS.bipush X151.here hx rfl (hb hby at_171)) ?_
        show own_EndsW p e below s _ _ _ T151 (mkF m 173 #[.val (.int i0), .val (.int i1), .val (.int i2), .val (.int i3), .val (.int i4), .val (.ref b122), .val (.int (i0 &&& (3 : Int32))), .val (.int (0 : Int32)), .val (.int ((((i0.toUInt32 >>> ((3 : Int32) &&& 31).toUInt32).toInt32) &&& (7 : Int32)) % (7 : Int32))), .unset, .unset] [(.int (103 : Int32)), (.int (2 : Int32)), (.ref b122)])
        obtain ⟨cl152, Ar152, q152, S152, N152_, H152, G152⟩ := id V151
        have hin152 : ¬ ((2 : Int32) < 0 ∨ cl152.slots.size ≤ ((2 : Int32)).toNatClampNeg) := inb_of S152 ⟨by decide, by decide⟩
        obtain ⟨T152, h152, X152, e152, W152, st152⟩ := stC X151 hx hZ e151 Ar152 (j := (2 : Int32)) hin152 (g := (mkF m 173 #[.val (.int i0), .val (.int i1), .val (.int i2), .val (.int i3), .val (.int i4), .val (.ref b122), .val (.int (i0 &&& (3 : Int32))), .val (.int (0 : Int32)), .val (.int ((((i0.toUInt32 >>> ((3 : Int32) &&& 31).toUInt32).toInt32) &&& (7 : Int32)) % (7 : Int32))), .unset, .unset] [(.int (103 : Int32)), (.int (2 : Int32)), (.ref b122)])) rfl rfl (hb hby at_173)
        have V152 : Arv Z h152 b122 k122 .char (6 : Int32) [(.int (nar .char (111 : Int32))), (.int (nar .char (114 : Int32))), (.int (nar .char (103 : Int32))), (.int (nar .char ((((i3.toUInt32 >>> ((24 : Int32) &&& 31).toUInt32).toInt32) &&& (255 : Int32)).toUInt32.toUInt16.toUInt32.toInt32))), (.int (nar .char ((i4 &&& (255 : Int32)).toUInt32.toUInt16.toUInt32.toInt32))), (.int (nar .char ((((i4.toUInt32 >>> ((8 : Int32) &&& 31).toUInt32).toInt32) &&& (255 : Int32)).toUInt32.toUInt16.toUInt32.toInt32)))] (.int (0 : Int32)) := Arv.set Ar152 q152 S152 N152_ H152 G152 (fits_nar_char _) W152 2 rfl (Nat.le_of_ble_eq_true rfl)
        have OLD152 := OLD151.wr W152 g_b122
        have Zs152 : n0 ≤ h152.size := (by rw [W152.size]; exact Zs151)
        have hk := Nat.le_trans hk (Nat.le_of_eq W152.size.symm)
        have N152 := Fr.snoc X152 N151 g_b122
        refine own_stepW st152 ?_
        show own_EndsW p e below s _ _ _ T152 (mkF m 174 #[.val (.int i0), .val (.int i1), .val (.int i2), .val (.int i3), .val (.int i4), .val (.ref b122), .val (.int (i0 &&& (3 : Int32))), .val (.int (0 : Int32)), .val (.int ((((i0.toUInt32 >>> ((3 : Int32) &&& 31).toUInt32).toInt32) &&& (7 : Int32)) % (7 : Int32))), .unset, .unset] [])
        refine own_stepW (fun _ => XS.iload X152.here hx rfl (hb hby at_174) rfl) ?_
        show own_EndsW p e below s _ _ _ T152 (mkF m 176 #[.val (.int i0), .val (.int i1), .val (.int i2), .val (.int i3), .val (.int i4), .val (.ref b122), .val (.int (i0 &&& (3 : Int32))), .val (.int (0 : Int32)), .val (.int ((((i0.toUInt32 >>> ((3 : Int32) &&& 31).toUInt32).toInt32) &&& (7 : Int32)) % (7 : Int32))), .unset, .unset] [(.int (0 : Int32))])
        refine own_stepW (fun _ => XS.ifYes X152.here hx rfl (pc0 := 176) (pc' := 229) rfl (hb hby at_176) rfl ((if0 _ _).trans (teq (show (0 : Int32) = (0 : Int32) from (by decide))).1) (by decide) (by decide)) ?_
        show own_EndsW p e below s _ _ _ T152 (mkF m 229 #[.val (.int i0), .val (.int i1), .val (.int i2), .val (.int i3), .val (.int i4), .val (.ref b122), .val (.int (i0 &&& (3 : Int32))), .val (.int (0 : Int32)), .val (.int ((((i0.toUInt32 >>> ((3 : Int32) &&& 31).toUInt32).toInt32) &&& (7 : Int32)) % (7 : Int32))), .unset, .unset] [])
        refine own_stepW (fun _ => XS.iloadN X152.here hx rfl (hb hby at_229) rfl) ?_
        show own_EndsW p e below s _ _ _ T152 (mkF m 230 #[.val (.int i0), .val (.int i1), .val (.int i2), .val (.int i3), .val (.int i4), .val (.ref b122), .val (.int (i0 &&& (3 : Int32))), .val (.int (0 : Int32)), .val (.int ((((i0.toUInt32 >>> ((3 : Int32) &&& 31).toUInt32).toInt32) &&& (7 : Int32)) % (7 : Int32))), .unset, .unset] [(.int i0)])
        refine own_stepW (fun _ => XS.iconst X152.here hx rfl (hb hby at_230)) ?_
        show own_EndsW p e below s _ _ _ T152 (mkF m 231 #[.val (.int i0), .val (.int i1), .val (.int i2), .val (.int i3), .val (.int i4), .val (.ref b122), .val (.int (i0 &&& (3 : Int32))), .val (.int (0 : Int32)), .val (.int ((((i0.toUInt32 >>> ((3 : Int32) &&& 31).toUInt32).toInt32) &&& (7 : Int32)) % (7 : Int32))), .unset, .unset] [(.int (4 : Int32)), (.int i0)])
        refine own_stepW (fun _ => XS.iand X152.here hx rfl (hb hby at_231) rfl) ?_
        show own_EndsW p e below s _ _ _ T152 (mkF m 232 #[.val (.int i0), .val (.int i1), .val (.int i2), .val (.int i3), .val (.int i4), .val (.ref b122), .val (.int (i0 &&& (3 : Int32))), .val (.int (0 : Int32)), .val (.int ((((i0.toUInt32 >>> ((3 : Int32) &&& 31).toUInt32).toInt32) &&& (7 : Int32)) % (7 : Int32))), .unset, .unset] [(.int (i0 &&& (4 : Int32)))])
        by_cases hc232 : (i0 &&& (4 : Int32)) = (0 : Int32)
        · have hv_f_f_t_t := hv_f_f_t.trans (if_pos hc232)
          refine own_stepW (fun _ => XS.ifYes X152.here hx rfl (pc0 := 232) (pc' := 251) rfl (hb hby at_232) rfl ((if0 _ _).trans (teq hc232).1) (by decide) (by decide)) ?_
          show own_EndsW p e below s _ _ _ T152 (mkF m 251 #[.val (.int i0), .val (.int i1), .val (.int i2), .val (.int i3), .val (.int i4), .val (.ref b122), .val (.int (i0 &&& (3 : Int32))), .val (.int (0 : Int32)), .val (.int ((((i0.toUInt32 >>> ((3 : Int32) &&& 31).toUInt32).toInt32) &&& (7 : Int32)) % (7 : Int32))), .unset, .unset] [])
          exact b0_251 C Zs152 hS hk X152 e152 N152 i0 i1 i2 i3 i4 G1 w3 w54 w83 w9 w22 w63 w92 w32 w73 w102 k_w9 k_w32 k_w73 k_w102 OLD152 O2 P5 bSNAME bSORG bSEMAIL bSALL bE0 bX0 bC0 bV0 bE1 bX1 bC1 bV1 bE2 bX2 bC2 bV2 bA0 bA1 bA2 bA3 CHZ  b122 (i0 &&& (3 : Int32)) (0 : Int32) ((((i0.toUInt32 >>> ((3 : Int32) &&& 31).toUInt32).toInt32) &&& (7 : Int32)) % (7 : Int32)) k122 [(nar .char (111 : Int32)), (nar .char (114 : Int32)), (nar .char (103 : Int32)), (nar .char ((((i3.toUInt32 >>> ((24 : Int32) &&& 31).toUInt32).toInt32) &&& (255 : Int32)).toUInt32.toUInt16.toUInt32.toInt32)), (nar .char ((i4 &&& (255 : Int32)).toUInt32.toUInt16.toUInt32.toInt32)), (nar .char ((((i4.toUInt32 >>> ((8 : Int32) &&& 31).toUInt32).toInt32) &&& (255 : Int32)).toUInt32.toUInt16.toUInt32.toInt32))] (own_n7 _) rfl (own_lc (by unfold own_R; decide) (own_lc (by unfold own_R; decide) (own_lc (by unfold own_R; decide) (own_lc (own_c255 _) (own_lc (own_c255 _) (own_lc (own_c255 _) own_ln)))))) V152 _ hv_f_f_t_t
        · have hv_f_f_t_f := hv_f_f_t.trans (if_neg hc232)
          refine own_stepW (fun _ => XS.ifNo X152.here hx rfl (hb hby at_232) rfl ((if0 _ _).trans (feq hc232).1)) ?_
          show own_EndsW p e below s _ _ _ T152 (mkF m 235 #[.val (.int i0), .val (.int i1), .val (.int i2), .val (.int i3), .val (.int i4), .val (.ref b122), .val (.int (i0 &&& (3 : Int32))), .val (.int (0 : Int32)), .val (.int ((((i0.toUInt32 >>> ((3 : Int32) &&& 31).toUInt32).toInt32) &&& (7 : Int32)) % (7 : Int32))), .unset, .unset] [])
          refine own_stepW (fun _ => XS.aload X152.here hx rfl (hb hby at_235) rfl rfl) ?_
          show own_EndsW p e below s _ _ _ T152 (mkF m 237 #[.val (.int i0), .val (.int i1), .val (.int i2), .val (.int i3), .val (.int i4), .val (.ref b122), .val (.int (i0 &&& (3 : Int32))), .val (.int (0 : Int32)), .val (.int ((((i0.toUInt32 >>> ((3 : Int32) &&& 31).toUInt32).toInt32) &&& (7 : Int32)) % (7 : Int32))), .unset, .unset] [(.ref b122)])
          refine own_stepW (fun _ => XS.iloadN X152.here hx rfl (hb hby at_237) rfl) ?_
          show own_EndsW p e below s _ _ _ T152 (mkF m 238 #[.val (.int i0), .val (.int i1), .val (.int i2), .val (.int i3), .val (.int i4), .val (.ref b122), .val (.int (i0 &&& (3 : Int32))), .val (.int (0 : Int32)), .val (.int ((((i0.toUInt32 >>> ((3 : Int32) &&& 31).toUInt32).toInt32) &&& (7 : Int32)) % (7 : Int32))), .unset, .unset] [(.int i1), (.ref b122)])
          refine own_stepW (fun _ => X152.ldcInt hx hown (mvT hZ (hw _ (List.mem_of_getElem? (i := 59) rfl))) (g := (mkF m 238 #[.val (.int i0), .val (.int i1), .val (.int i2), .val (.int i3), .val (.int i4), .val (.ref b122), .val (.int (i0 &&& (3 : Int32))), .val (.int (0 : Int32)), .val (.int ((((i0.toUInt32 >>> ((3 : Int32) &&& 31).toUInt32).toInt32) &&& (7 : Int32)) % (7 : Int32))), .unset, .unset] [(.int i1), (.ref b122)])) rfl (hb hby at_238) _) ?_
          show own_EndsW p e below s _ _ _ T152 (mkF m 240 #[.val (.int i0), .val (.int i1), .val (.int i2), .val (.int i3), .val (.int i4), .val (.ref b122), .val (.int (i0 &&& (3 : Int32))), .val (.int (0 : Int32)), .val (.int ((((i0.toUInt32 >>> ((3 : Int32) &&& 31).toUInt32).toInt32) &&& (7 : Int32)) % (7 : Int32))), .unset, .unset] [(.int (2147483647 : Int32)), (.int i1), (.ref b122)])
          refine own_stepW (fun _ => XS.iand X152.here hx rfl (hb hby at_240) rfl) ?_
          show own_EndsW p e below s _ _ _ T152 (mkF m 241 #[.val (.int i0), .val (.int i1), .val (.int i2), .val (.int i3), .val (.int i4), .val (.ref b122), .val (.int (i0 &&& (3 : Int32))), .val (.int (0 : Int32)), .val (.int ((((i0.toUInt32 >>> ((3 : Int32) &&& 31).toUInt32).toInt32) &&& (7 : Int32)) % (7 : Int32))), .unset, .unset] [(.int (i1 &&& (2147483647 : Int32))), (.ref b122)])
          refine own_stepW (fun _ => XS.bipush X152.here hx rfl (hb hby at_241)) ?_
          show own_EndsW p e below s _ _ _ T152 (mkF m 243 #[.val (.int i0), .val (.int i1), .val (.int i2), .val (.int i3), .val (.int i4), .val (.ref b122), .val (.int (i0 &&& (3 : Int32))), .val (.int (0 : Int32)), .val (.int ((((i0.toUInt32 >>> ((3 : Int32) &&& 31).toUInt32).toInt32) &&& (7 : Int32)) % (7 : Int32))), .unset, .unset] [(.int (6 : Int32)), (.int (i1 &&& (2147483647 : Int32))), (.ref b122)])
          refine own_stepW (fun _ => iremM X152 hx rfl (hb hby at_243) rfl (by decide)) ?_
          show own_EndsW p e below s _ _ _ T152 (mkF m 244 #[.val (.int i0), .val (.int i1), .val (.int i2), .val (.int i3), .val (.int i4), .val (.ref b122), .val (.int (i0 &&& (3 : Int32))), .val (.int (0 : Int32)), .val (.int ((((i0.toUInt32 >>> ((3 : Int32) &&& 31).toUInt32).toInt32) &&& (7 : Int32)) % (7 : Int32))), .unset, .unset] [(.int ((i1 &&& (2147483647 : Int32)) % (6 : Int32))), (.ref b122)])
          refine own_stepW (fun _ => XS.iloadN X152.here hx rfl (hb hby at_244) rfl) ?_
          show own_EndsW p e below s _ _ _ T152 (mkF m 245 #[.val (.int i0), .val (.int i1), .val (.int i2), .val (.int i3), .val (.int i4), .val (.ref b122), .val (.int (i0 &&& (3 : Int32))), .val (.int (0 : Int32)), .val (.int ((((i0.toUInt32 >>> ((3 : Int32) &&& 31).toUInt32).toInt32) &&& (7 : Int32)) % (7 : Int32))), .unset, .unset] [(.int i2), (.int ((i1 &&& (2147483647 : Int32)) % (6 : Int32))), (.ref b122)])
          refine own_stepW (fun _ => XS.sipush X152.here hx rfl (hb hby at_245)) ?_
          show own_EndsW p e below s _ _ _ T152 (mkF m 248 #[.val (.int i0), .val (.int i1), .val (.int i2), .val (.int i3), .val (.int i4), .val (.ref b122), .val (.int (i0 &&& (3 : Int32))), .val (.int (0 : Int32)), .val (.int ((((i0.toUInt32 >>> ((3 : Int32) &&& 31).toUInt32).toInt32) &&& (7 : Int32)) % (7 : Int32))), .unset, .unset] [(.int (255 : Int32)), (.int i2), (.int ((i1 &&& (2147483647 : Int32)) % (6 : Int32))), (.ref b122)])
          refine own_stepW (fun _ => XS.iand X152.here hx rfl (hb hby at_248) rfl) ?_
          show own_EndsW p e below s _ _ _ T152 (mkF m 249 #[.val (.int i0), .val (.int i1), .val (.int i2), .val (.int i3), .val (.int i4), .val (.ref b122), .val (.int (i0 &&& (3 : Int32))), .val (.int (0 : Int32)), .val (.int ((((i0.toUInt32 >>> ((3 : Int32) &&& 31).toUInt32).toInt32) &&& (7 : Int32)) % (7 : Int32))), .unset, .unset] [(.int (i2 &&& (255 : Int32))), (.int ((i1 &&& (2147483647 : Int32)) % (6 : Int32))), (.ref b122)])
          refine own_stepW (fun _ => XS.i2c X152.here hx rfl (hb hby at_249) rfl) ?_
          show own_EndsW p e below s _ _ _ T152 (mkF m 250 #[.val (.int i0), .val (.int i1), .val (.int i2), .val (.int i3), .val (.int i4), .val (.ref b122), .val (.int (i0 &&& (3 : Int32))), .val (.int (0 : Int32)), .val (.int ((((i0.toUInt32 >>> ((3 : Int32) &&& 31).toUInt32).toInt32) &&& (7 : Int32)) % (7 : Int32))), .unset, .unset] [(.int ((i2 &&& (255 : Int32)).toUInt32.toUInt16.toUInt32.toInt32)), (.int ((i1 &&& (2147483647 : Int32)) % (6 : Int32))), (.ref b122)])
          obtain ⟨cl153, Ar153, q153, S153, N153_, H153, G153⟩ := id V152
          have hin153 : ¬ (((i1 &&& (2147483647 : Int32)) % (6 : Int32)) < 0 ∨ cl153.slots.size ≤ (((i1 &&& (2147483647 : Int32)) % (6 : Int32))).toNatClampNeg) := inb_of S153 (own_at6 _)
          obtain ⟨T153, h153, X153, e153, W153, st153⟩ := stC X152 hx hZ e152 Ar153 (j := ((i1 &&& (2147483647 : Int32)) % (6 : Int32))) hin153 (g := (mkF m 250 #[.val (.int i0), .val (.int i1), .val (.int i2), .val (.int i3), .val (.int i4), .val (.ref b122), .val (.int (i0 &&& (3 : Int32))), .val (.int (0 : Int32)), .val (.int ((((i0.toUInt32 >>> ((3 : Int32) &&& 31).toUInt32).toInt32) &&& (7 : Int32)) % (7 : Int32))), .unset, .unset] [(.int ((i2 &&& (255 : Int32)).toUInt32.toUInt16.toUInt32.toInt32)), (.int ((i1 &&& (2147483647 : Int32)) % (6 : Int32))), (.ref b122)])) rfl rfl (hb hby at_250)
          have V153 : Arv Z h153 b122 k122 .char (6 : Int32) ((own_set [(nar .char (111 : Int32)), (nar .char (114 : Int32)), (nar .char (103 : Int32)), (nar .char ((((i3.toUInt32 >>> ((24 : Int32) &&& 31).toUInt32).toInt32) &&& (255 : Int32)).toUInt32.toUInt16.toUInt32.toInt32)), (nar .char ((i4 &&& (255 : Int32)).toUInt32.toUInt16.toUInt32.toInt32)), (nar .char ((((i4.toUInt32 >>> ((8 : Int32) &&& 31).toUInt32).toInt32) &&& (255 : Int32)).toUInt32.toUInt16.toUInt32.toInt32))] ((i1 &&& (2147483647 : Int32)) % (6 : Int32)) ((i2 &&& (255 : Int32)).toUInt32.toUInt16.toUInt32.toInt32)).map Value.int) (.int (0 : Int32)) := own_arvset (Arv.set Ar153 q153 S153 N153_ H153 G153 (fits_nar_char _) W153 _ rfl (Nat.lt_of_lt_of_eq (own_bd6 (own_at6 _)) rfl))
          have OLD153 := OLD152.wr W153 g_b122
          have Zs153 : n0 ≤ h153.size := (by rw [W153.size]; exact Zs152)
          have hk := Nat.le_trans hk (Nat.le_of_eq W153.size.symm)
          have N153 := Fr.snoc X153 N152 g_b122
          refine own_stepW st153 ?_
          show own_EndsW p e below s _ _ _ T153 (mkF m 251 #[.val (.int i0), .val (.int i1), .val (.int i2), .val (.int i3), .val (.int i4), .val (.ref b122), .val (.int (i0 &&& (3 : Int32))), .val (.int (0 : Int32)), .val (.int ((((i0.toUInt32 >>> ((3 : Int32) &&& 31).toUInt32).toInt32) &&& (7 : Int32)) % (7 : Int32))), .unset, .unset] [])
          exact b0_251 C Zs153 hS hk X153 e153 N153 i0 i1 i2 i3 i4 G1 w3 w54 w83 w9 w22 w63 w92 w32 w73 w102 k_w9 k_w32 k_w73 k_w102 OLD153 O2 P5 bSNAME bSORG bSEMAIL bSALL bE0 bX0 bC0 bV0 bE1 bX1 bC1 bV1 bE2 bX2 bC2 bV2 bA0 bA1 bA2 bA3 CHZ  b122 (i0 &&& (3 : Int32)) (0 : Int32) ((((i0.toUInt32 >>> ((3 : Int32) &&& 31).toUInt32).toInt32) &&& (7 : Int32)) % (7 : Int32)) k122 (own_set [(nar .char (111 : Int32)), (nar .char (114 : Int32)), (nar .char (103 : Int32)), (nar .char ((((i3.toUInt32 >>> ((24 : Int32) &&& 31).toUInt32).toInt32) &&& (255 : Int32)).toUInt32.toUInt16.toUInt32.toInt32)), (nar .char ((i4 &&& (255 : Int32)).toUInt32.toUInt16.toUInt32.toInt32)), (nar .char ((((i4.toUInt32 >>> ((8 : Int32) &&& 31).toUInt32).toInt32) &&& (255 : Int32)).toUInt32.toUInt16.toUInt32.toInt32))] ((i1 &&& (2147483647 : Int32)) % (6 : Int32)) ((i2 &&& (255 : Int32)).toUInt32.toUInt16.toUInt32.toInt32)) (own_n7 _) (own_setlen _ _ _) (own_rset (own_lc (by unfold own_R; decide) (own_lc (by unfold own_R; decide) (own_lc (by unfold own_R; decide) (own_lc (own_c255 _) (own_lc (own_c255 _) (own_lc (own_c255 _) own_ln)))))) (own_c255 _)) V153 _ hv_f_f_t_f
      · have hv_f_f_f := hv_f_f.trans (if_neg hc153)
        refine own_stepW (fun _ => XS.icmpYes X128.here hx rfl (pc0 := 153) (pc' := 185) rfl (hb hby at_153) rfl (feq hc153).2 (by decide) (by decide)) ?_
        show own_EndsW p e below s _ _ _ T128 (mkF m 185 #[.val (.int i0), .val (.int i1), .val (.int i2), .val (.int i3), .val (.int i4), .val (.ref b122), .val (.int (i0 &&& (3 : Int32))), .val (.int (0 : Int32)), .val (.int ((((i0.toUInt32 >>> ((3 : Int32) &&& 31).toUInt32).toInt32) &&& (7 : Int32)) % (7 : Int32))), .unset, .unset] [])
        refine own_stepW (fun _ => XS.iload X128.here hx rfl (hb hby at_185) rfl) ?_
        show own_EndsW p e below s _ _ _ T128 (mkF m 187 #[.val (.int i0), .val (.int i1), .val (.int i2), .val (.int i3), .val (.int i4), .val (.ref b122), .val (.int (i0 &&& (3 : Int32))), .val (.int (0 : Int32)), .val (.int ((((i0.toUInt32 >>> ((3 : Int32) &&& 31).toUInt32).toInt32) &&& (7 : Int32)) % (7 : Int32))), .unset, .unset] [(.int (i0 &&& (3 : Int32)))])
        refine own_stepW (fun _ => XS.iconst X128.here hx rfl (hb hby at_187)) ?_
        show own_EndsW p e below s _ _ _ T128 (mkF m 188 #[.val (.int i0), .val (.int i1), .val (.int i2), .val (.int i3), .val (.int i4), .val (.ref b122), .val (.int (i0 &&& (3 : Int32))), .val (.int (0 : Int32)), .val (.int ((((i0.toUInt32 >>> ((3 : Int32) &&& 31).toUInt32).toInt32) &&& (7 : Int32)) % (7 : Int32))), .unset, .unset] [(.int (2 : Int32)), (.int (i0 &&& (3 : Int32)))])
        by_cases hc188 : (i0 &&& (3 : Int32)) = (2 : Int32)
        · have hv_f_f_f_t := hv_f_f_f.trans (if_pos hc188)
          refine own_stepW (fun _ => XS.icmpNo X128.here hx rfl (hb hby at_188) rfl (teq hc188).2) ?_
          show own_EndsW p e below s _ _ _ T128 (mkF m 191 #[.val (.int i0), .val (.int i1), .val (.int i2), .val (.int i3), .val (.int i4), .val (.ref b122), .val (.int (i0 &&& (3 : Int32))), .val (.int (0 : Int32)), .val (.int ((((i0.toUInt32 >>> ((3 : Int32) &&& 31).toUInt32).toInt32) &&& (7 : Int32)) % (7 : Int32))), .unset, .unset] [])
          refine own_stepW (fun _ => XS.aload X128.here hx rfl (hb hby at_191) rfl rfl) ?_
          show own_EndsW p e below s _ _ _ T128 (mkF m 193 #[.val (.int i0), .val (.int i1), .val (.int i2), .val (.int i3), .val (.int i4), .val (.ref b122), .val (.int (i0 &&& (3 : Int32))), .val (.int (0 : Int32)), .val (.int ((((i0.toUInt32 >>> ((3 : Int32) &&& 31).toUInt32).toInt32) &&& (7 : Int32)) % (7 : Int32))), .unset, .unset] [(.ref b122)])
          refine own_stepW (fun _ => XS.iconst X128.here hx rfl (hb hby at_193)) ?_
          show own_EndsW p e below s _ _ _ T128 (mkF m 194 #[.val (.int i0), .val (.int i1), .val (.int i2), .val (.int i3), .val (.int i4), .val (.ref b122), .val (.int (i0 &&& (3 : Int32))), .val (.int (0 : Int32)), .val (.int ((((i0.toUInt32 >>> ((3 : Int32) &&& 31).toUInt32).toInt32) &&& (7 : Int32)) % (7 : Int32))), .unset, .unset] [(.int (0 : Int32)), (.ref b122)])
          refine own_stepW (fun _ => XS.bipush X128.here hx rfl (hb hby at_194)) ?_
          show own_EndsW p e below s _ _ _ T128 (mkF m 196 #[.val (.int i0), .val (.int i1), .val (.int i2), .val (.int i3), .val (.int i4), .val (.ref b122), .val (.int (i0 &&& (3 : Int32))), .val (.int (0 : Int32)), .val (.int ((((i0.toUInt32 >>> ((3 : Int32) &&& 31).toUInt32).toInt32) &&& (7 : Int32)) % (7 : Int32))), .unset, .unset] [(.int (101 : Int32)), (.int (0 : Int32)), (.ref b122)])
          obtain ⟨cl154, Ar154, q154, S154, N154_, H154, G154⟩ := id V128
          have hin154 : ¬ ((0 : Int32) < 0 ∨ cl154.slots.size ≤ ((0 : Int32)).toNatClampNeg) := inb_of S154 ⟨by decide, by decide⟩
          obtain ⟨T154, h154, X154, e154, W154, st154⟩ := stC X128 hx hZ e128 Ar154 (j := (0 : Int32)) hin154 (g := (mkF m 196 #[.val (.int i0), .val (.int i1), .val (.int i2), .val (.int i3), .val (.int i4), .val (.ref b122), .val (.int (i0 &&& (3 : Int32))), .val (.int (0 : Int32)), .val (.int ((((i0.toUInt32 >>> ((3 : Int32) &&& 31).toUInt32).toInt32) &&& (7 : Int32)) % (7 : Int32))), .unset, .unset] [(.int (101 : Int32)), (.int (0 : Int32)), (.ref b122)])) rfl rfl (hb hby at_196)
          have V154 : Arv Z h154 b122 k122 .char (6 : Int32) [(.int (nar .char (101 : Int32))), (.int (nar .char ((((i3.toUInt32 >>> ((8 : Int32) &&& 31).toUInt32).toInt32) &&& (255 : Int32)).toUInt32.toUInt16.toUInt32.toInt32))), (.int (nar .char ((((i3.toUInt32 >>> ((16 : Int32) &&& 31).toUInt32).toInt32) &&& (255 : Int32)).toUInt32.toUInt16.toUInt32.toInt32))), (.int (nar .char ((((i3.toUInt32 >>> ((24 : Int32) &&& 31).toUInt32).toInt32) &&& (255 : Int32)).toUInt32.toUInt16.toUInt32.toInt32))), (.int (nar .char ((i4 &&& (255 : Int32)).toUInt32.toUInt16.toUInt32.toInt32))), (.int (nar .char ((((i4.toUInt32 >>> ((8 : Int32) &&& 31).toUInt32).toInt32) &&& (255 : Int32)).toUInt32.toUInt16.toUInt32.toInt32)))] (.int (0 : Int32)) := Arv.set Ar154 q154 S154 N154_ H154 G154 (fits_nar_char _) W154 0 rfl (Nat.le_of_ble_eq_true rfl)
          have OLD154 := OLD128.wr W154 g_b122
          have Zs154 : n0 ≤ h154.size := (by rw [W154.size]; exact Zs128)
          have hk := Nat.le_trans hk (Nat.le_of_eq W154.size.symm)
          have N154 := Fr.snoc X154 N128 g_b122
          refine own_stepW st154 ?_
          show own_EndsW p e below s _ _ _ T154 (mkF m 197 #[.val (.int i0), .val (.int i1), .val (.int i2), .val (.int i3), .val (.int i4), .val (.ref b122), .val (.int (i0 &&& (3 : Int32))), .val (.int (0 : Int32)), .val (.int ((((i0.toUInt32 >>> ((3 : Int32) &&& 31).toUInt32).toInt32) &&& (7 : Int32)) % (7 : Int32))), .unset, .unset] [])
          refine own_stepW (fun _ => XS.aload X154.here hx rfl (hb hby at_197) rfl rfl) ?_
          show own_EndsW p e below s _ _ _ T154 (mkF m 199 #[.val (.int i0), .val (.int i1), .val (.int i2), .val (.int i3), .val (.int i4), .val (.ref b122), .val (.int (i0 &&& (3 : Int32))), .val (.int (0 : Int32)), .val (.int ((((i0.toUInt32 >>> ((3 : Int32) &&& 31).toUInt32).toInt32) &&& (7 : Int32)) % (7 : Int32))), .unset, .unset] [(.ref b122)])
          refine own_stepW (fun _ => XS.iconst X154.here hx rfl (hb hby at_199)) ?_
          show own_EndsW p e below s _ _ _ T154 (mkF m 200 #[.val (.int i0), .val (.int i1), .val (.int i2), .val (.int i3), .val (.int i4), .val (.ref b122), .val (.int (i0 &&& (3 : Int32))), .val (.int (0 : Int32)), .val (.int ((((i0.toUInt32 >>> ((3 : Int32) &&& 31).toUInt32).toInt32) &&& (7 : Int32)) % (7 : Int32))), .unset, .unset] [(.int (1 : Int32)), (.ref b122)])
          refine own_stepW (fun _ => XS.bipush X154.here hx rfl (hb hby at_200)) ?_
          show own_EndsW p e below s _ _ _ T154 (mkF m 202 #[.val (.int i0), .val (.int i1), .val (.int i2), .val (.int i3), .val (.int i4), .val (.ref b122), .val (.int (i0 &&& (3 : Int32))), .val (.int (0 : Int32)), .val (.int ((((i0.toUInt32 >>> ((3 : Int32) &&& 31).toUInt32).toInt32) &&& (7 : Int32)) % (7 : Int32))), .unset, .unset] [(.int (109 : Int32)), (.int (1 : Int32)), (.ref b122)])
          obtain ⟨cl155, Ar155, q155, S155, N155_, H155, G155⟩ := id V154
          have hin155 : ¬ ((1 : Int32) < 0 ∨ cl155.slots.size ≤ ((1 : Int32)).toNatClampNeg) := inb_of S155 ⟨by decide, by decide⟩
          obtain ⟨T155, h155, X155, e155, W155, st155⟩ := stC X154 hx hZ e154 Ar155 (j := (1 : Int32)) hin155 (g := (mkF m 202 #[.val (.int i0), .val (.int i1), .val (.int i2), .val (.int i3), .val (.int i4), .val (.ref b122), .val (.int (i0 &&& (3 : Int32))), .val (.int (0 : Int32)), .val (.int ((((i0.toUInt32 >>> ((3 : Int32) &&& 31).toUInt32).toInt32) &&& (7 : Int32)) % (7 : Int32))), .unset, .unset] [(.int (109 : Int32)), (.int (1 : Int32)), (.ref b122)])) rfl rfl (hb hby at_202)
          have V155 : Arv Z h155 b122 k122 .char (6 : Int32) [(.int (nar .char (101 : Int32))), (.int (nar .char (109 : Int32))), (.int (nar .char ((((i3.toUInt32 >>> ((16 : Int32) &&& 31).toUInt32).toInt32) &&& (255 : Int32)).toUInt32.toUInt16.toUInt32.toInt32))), (.int (nar .char ((((i3.toUInt32 >>> ((24 : Int32) &&& 31).toUInt32).toInt32) &&& (255 : Int32)).toUInt32.toUInt16.toUInt32.toInt32))), (.int (nar .char ((i4 &&& (255 : Int32)).toUInt32.toUInt16.toUInt32.toInt32))), (.int (nar .char ((((i4.toUInt32 >>> ((8 : Int32) &&& 31).toUInt32).toInt32) &&& (255 : Int32)).toUInt32.toUInt16.toUInt32.toInt32)))] (.int (0 : Int32)) := Arv.set Ar155 q155 S155 N155_ H155 G155 (fits_nar_char _) W155 1 rfl (Nat.le_of_ble_eq_true rfl)
          have OLD155 := OLD154.wr W155 g_b122
          have Zs155 : n0 ≤ h155.size := (by rw [W155.size]; exact Zs154)
          have hk := Nat.le_trans hk (Nat.le_of_eq W155.size.symm)
          have N155 := Fr.snoc X155 N154 g_b122
          refine own_stepW st155 ?_
          show own_EndsW p e below s _ _ _ T155 (mkF m 203 #[.val (.int i0), .val (.int i1), .val (.int i2), .val (.int i3), .val (.int i4), .val (.ref b122), .val (.int (i0 &&& (3 : Int32))), .val (.int (0 : Int32)), .val (.int ((((i0.toUInt32 >>> ((3 : Int32) &&& 31).toUInt32).toInt32) &&& (7 : Int32)) % (7 : Int32))), .unset, .unset] [])
          refine own_stepW (fun _ => XS.aload X155.here hx rfl (hb hby at_203) rfl rfl) ?_
          show own_EndsW p e below s _ _ _ T155 (mkF m 205 #[.val (.int i0), .val (.int i1), .val (.int i2), .val (.int i3), .val (.int i4), .val (.ref b122), .val (.int (i0 &&& (3 : Int32))), .val (.int (0 : Int32)), .val (.int ((((i0.toUInt32 >>> ((3 : Int32) &&& 31).toUInt32).toInt32) &&& (7 : Int32)) % (7 : Int32))), .unset, .unset] [(.ref b122)])
          refine own_stepW (fun _ => XS.iconst X155.here hx rfl (hb hby at_205)) ?_
          show own_EndsW p e below s _ _ _ T155 (mkF m 206 #[.val (.int i0), .val (.int i1), .val (.int i2), .val (.int i3), .val (.int i4), .val (.ref b122), .val (.int (i0 &&& (3 : Int32))), .val (.int (0 : Int32)), .val (.int ((((i0.toUInt32 >>> ((3 : Int32) &&& 31).toUInt32).toInt32) &&& (7 : Int32)) % (7 : Int32))), .unset, .unset] [(.int (2 : Int32)), (.ref b122)])
          refine own_stepW (fun _ => XS.bipush X155.here hx rfl (hb hby at_206)) ?_
          show own_EndsW p e below s _ _ _ T155 (mkF m 208 #[.val (.int i0), .val (.int i1), .val (.int i2), .val (.int i3), .val (.int i4), .val (.ref b122), .val (.int (i0 &&& (3 : Int32))), .val (.int (0 : Int32)), .val (.int ((((i0.toUInt32 >>> ((3 : Int32) &&& 31).toUInt32).toInt32) &&& (7 : Int32)) % (7 : Int32))), .unset, .unset] [(.int (97 : Int32)), (.int (2 : Int32)), (.ref b122)])
          obtain ⟨cl156, Ar156, q156, S156, N156_, H156, G156⟩ := id V155
          have hin156 : ¬ ((2 : Int32) < 0 ∨ cl156.slots.size ≤ ((2 : Int32)).toNatClampNeg) := inb_of S156 ⟨by decide, by decide⟩
          obtain ⟨T156, h156, X156, e156, W156, st156⟩ := stC X155 hx hZ e155 Ar156 (j := (2 : Int32)) hin156 (g := (mkF m 208 #[.val (.int i0), .val (.int i1), .val (.int i2), .val (.int i3), .val (.int i4), .val (.ref b122), .val (.int (i0 &&& (3 : Int32))), .val (.int (0 : Int32)), .val (.int ((((i0.toUInt32 >>> ((3 : Int32) &&& 31).toUInt32).toInt32) &&& (7 : Int32)) % (7 : Int32))), .unset, .unset] [(.int (97 : Int32)), (.int (2 : Int32)), (.ref b122)])) rfl rfl (hb hby at_208)
          have V156 : Arv Z h156 b122 k122 .char (6 : Int32) [(.int (nar .char (101 : Int32))), (.int (nar .char (109 : Int32))), (.int (nar .char (97 : Int32))), (.int (nar .char ((((i3.toUInt32 >>> ((24 : Int32) &&& 31).toUInt32).toInt32) &&& (255 : Int32)).toUInt32.toUInt16.toUInt32.toInt32))), (.int (nar .char ((i4 &&& (255 : Int32)).toUInt32.toUInt16.toUInt32.toInt32))), (.int (nar .char ((((i4.toUInt32 >>> ((8 : Int32) &&& 31).toUInt32).toInt32) &&& (255 : Int32)).toUInt32.toUInt16.toUInt32.toInt32)))] (.int (0 : Int32)) := Arv.set Ar156 q156 S156 N156_ H156 G156 (fits_nar_char _) W156 2 rfl (Nat.le_of_ble_eq_true rfl)
          have OLD156 := OLD155.wr W156 g_b122
          have Zs156 : n0 ≤ h156.size := (by rw [W156.size]; exact Zs155)
          have hk := Nat.le_trans hk (Nat.le_of_eq W156.size.symm)
          have N156 := Fr.snoc X156 N155 g_b122
          refine own_stepW st156 ?_
          show own_EndsW p e below s _ _ _ T156 (mkF m 209 #[.val (.int i0), .val (.int i1), .val (.int i2), .val (.int i3), .val (.int i4), .val (.ref b122), .val (.int (i0 &&& (3 : Int32))), .val (.int (0 : Int32)), .val (.int ((((i0.toUInt32 >>> ((3 : Int32) &&& 31).toUInt32).toInt32) &&& (7 : Int32)) % (7 : Int32))), .unset, .unset] [])
          refine own_stepW (fun _ => XS.aload X156.here hx rfl (hb hby at_209) rfl rfl) ?_
          show own_EndsW p e below s _ _ _ T156 (mkF m 211 #[.val (.int i0), .val (.int i1), .val (.int i2), .val (.int i3), .val (.int i4), .val (.ref b122), .val (.int (i0 &&& (3 : Int32))), .val (.int (0 : Int32)), .val (.int ((((i0.toUInt32 >>> ((3 : Int32) &&& 31).toUInt32).toInt32) &&& (7 : Int32)) % (7 : Int32))), .unset, .unset] [(.ref b122)])
          refine own_stepW (fun _ => XS.iconst X156.here hx rfl (hb hby at_211)) ?_
          show own_EndsW p e below s _ _ _ T156 (mkF m 212 #[.val (.int i0), .val (.int i1), .val (.int i2), .val (.int i3), .val (.int i4), .val (.ref b122), .val (.int (i0 &&& (3 : Int32))), .val (.int (0 : Int32)), .val (.int ((((i0.toUInt32 >>> ((3 : Int32) &&& 31).toUInt32).toInt32) &&& (7 : Int32)) % (7 : Int32))), .unset, .unset] [(.int (3 : Int32)), (.ref b122)])
          refine own_stepW (fun _ => XS.bipush X156.here hx rfl (hb hby at_212)) ?_
          show own_EndsW p e below s _ _ _ T156 (mkF m 214 #[.val (.int i0), .val (.int i1), .val (.int i2), .val (.int i3), .val (.int i4), .val (.ref b122), .val (.int (i0 &&& (3 : Int32))), .val (.int (0 : Int32)), .val (.int ((((i0.toUInt32 >>> ((3 : Int32) &&& 31).toUInt32).toInt32) &&& (7 : Int32)) % (7 : Int32))), .unset, .unset] [(.int (105 : Int32)), (.int (3 : Int32)), (.ref b122)])
          obtain ⟨cl157, Ar157, q157, S157, N157_, H157, G157⟩ := id V156
          have hin157 : ¬ ((3 : Int32) < 0 ∨ cl157.slots.size ≤ ((3 : Int32)).toNatClampNeg) := inb_of S157 ⟨by decide, by decide⟩
          obtain ⟨T157, h157, X157, e157, W157, st157⟩ := stC X156 hx hZ e156 Ar157 (j := (3 : Int32)) hin157 (g := (mkF m 214 #[.val (.int i0), .val (.int i1), .val (.int i2), .val (.int i3), .val (.int i4), .val (.ref b122), .val (.int (i0 &&& (3 : Int32))), .val (.int (0 : Int32)), .val (.int ((((i0.toUInt32 >>> ((3 : Int32) &&& 31).toUInt32).toInt32) &&& (7 : Int32)) % (7 : Int32))), .unset, .unset] [(.int (105 : Int32)), (.int (3 : Int32)), (.ref b122)])) rfl rfl (hb hby at_214)
          have V157 : Arv Z h157 b122 k122 .char (6 : Int32) [(.int (nar .char (101 : Int32))), (.int (nar .char (109 : Int32))), (.int (nar .char (97 : Int32))), (.int (nar .char (105 : Int32))), (.int (nar .char ((i4 &&& (255 : Int32)).toUInt32.toUInt16.toUInt32.toInt32))), (.int (nar .char ((((i4.toUInt32 >>> ((8 : Int32) &&& 31).toUInt32).toInt32) &&& (255 : Int32)).toUInt32.toUInt16.toUInt32.toInt32)))] (.int (0 : Int32)) := Arv.set Ar157 q157 S157 N157_ H157 G157 (fits_nar_char _) W157 3 rfl (Nat.le_of_ble_eq_true rfl)
          have OLD157 := OLD156.wr W157 g_b122
          have Zs157 : n0 ≤ h157.size := (by rw [W157.size]; exact Zs156)
          have hk := Nat.le_trans hk (Nat.le_of_eq W157.size.symm)
          have N157 := Fr.snoc X157 N156 g_b122
          refine own_stepW st157 ?_
          show own_EndsW p e below s _ _ _ T157 (mkF m 215 #[.val (.int i0), .val (.int i1), .val (.int i2), .val (.int i3), .val (.int i4), .val (.ref b122), .val (.int (i0 &&& (3 : Int32))), .val (.int (0 : Int32)), .val (.int ((((i0.toUInt32 >>> ((3 : Int32) &&& 31).toUInt32).toInt32) &&& (7 : Int32)) % (7 : Int32))), .unset, .unset] [])
          refine own_stepW (fun _ => XS.aload X157.here hx rfl (hb hby at_215) rfl rfl) ?_
          show own_EndsW p e below s _ _ _ T157 (mkF m 217 #[.val (.int i0), .val (.int i1), .val (.int i2), .val (.int i3), .val (.int i4), .val (.ref b122), .val (.int (i0 &&& (3 : Int32))), .val (.int (0 : Int32)), .val (.int ((((i0.toUInt32 >>> ((3 : Int32) &&& 31).toUInt32).toInt32) &&& (7 : Int32)) % (7 : Int32))), .unset, .unset] [(.ref b122)])
          refine own_stepW (fun _ => XS.iconst X157.here hx rfl (hb hby at_217)) ?_
          show own_EndsW p e below s _ _ _ T157 (mkF m 218 #[.val (.int i0), .val (.int i1), .val (.int i2), .val (.int i3), .val (.int i4), .val (.ref b122), .val (.int (i0 &&& (3 : Int32))), .val (.int (0 : Int32)), .val (.int ((((i0.toUInt32 >>> ((3 : Int32) &&& 31).toUInt32).toInt32) &&& (7 : Int32)) % (7 : Int32))), .unset, .unset] [(.int (4 : Int32)), (.ref b122)])
          refine own_stepW (fun _ => XS.bipush X157.here hx rfl (hb hby at_218)) ?_
          show own_EndsW p e below s _ _ _ T157 (mkF m 220 #[.val (.int i0), .val (.int i1), .val (.int i2), .val (.int i3), .val (.int i4), .val (.ref b122), .val (.int (i0 &&& (3 : Int32))), .val (.int (0 : Int32)), .val (.int ((((i0.toUInt32 >>> ((3 : Int32) &&& 31).toUInt32).toInt32) &&& (7 : Int32)) % (7 : Int32))), .unset, .unset] [(.int (108 : Int32)), (.int (4 : Int32)), (.ref b122)])
          obtain ⟨cl158, Ar158, q158, S158, N158_, H158, G158⟩ := id V157
          have hin158 : ¬ ((4 : Int32) < 0 ∨ cl158.slots.size ≤ ((4 : Int32)).toNatClampNeg) := inb_of S158 ⟨by decide, by decide⟩
          obtain ⟨T158, h158, X158, e158, W158, st158⟩ := stC X157 hx hZ e157 Ar158 (j := (4 : Int32)) hin158 (g := (mkF m 220 #[.val (.int i0), .val (.int i1), .val (.int i2), .val (.int i3), .val (.int i4), .val (.ref b122), .val (.int (i0 &&& (3 : Int32))), .val (.int (0 : Int32)), .val (.int ((((i0.toUInt32 >>> ((3 : Int32) &&& 31).toUInt32).toInt32) &&& (7 : Int32)) % (7 : Int32))), .unset, .unset] [(.int (108 : Int32)), (.int (4 : Int32)), (.ref b122)])) rfl rfl (hb hby at_220)
          have V158 : Arv Z h158 b122 k122 .char (6 : Int32) [(.int (nar .char (101 : Int32))), (.int (nar .char (109 : Int32))), (.int (nar .char (97 : Int32))), (.int (nar .char (105 : Int32))), (.int (nar .char (108 : Int32))), (.int (nar .char ((((i4.toUInt32 >>> ((8 : Int32) &&& 31).toUInt32).toInt32) &&& (255 : Int32)).toUInt32.toUInt16.toUInt32.toInt32)))] (.int (0 : Int32)) := Arv.set Ar158 q158 S158 N158_ H158 G158 (fits_nar_char _) W158 4 rfl (Nat.le_of_ble_eq_true rfl)
          have OLD158 := OLD157.wr W158 g_b122
          have Zs158 : n0 ≤ h158.size := (by rw [W158.size]; exact Zs157)
          have hk := Nat.le_trans hk (Nat.le_of_eq W158.size.symm)
          have N158 := Fr.snoc X158 N157 g_b122
          refine own_stepW st158 ?_
          show own_EndsW p e below s _ _ _ T158 (mkF m 221 #[.val (.int i0), .val (.int i1), .val (.int i2), .val (.int i3), .val (.int i4), .val (.ref b122), .val (.int (i0 &&& (3 : Int32))), .val (.int (0 : Int32)), .val (.int ((((i0.toUInt32 >>> ((3 : Int32) &&& 31).toUInt32).toInt32) &&& (7 : Int32)) % (7 : Int32))), .unset, .unset] [])
          refine own_stepW (fun _ => XS.iload X158.here hx rfl (hb hby at_221) rfl) ?_
          show own_EndsW p e below s _ _ _ T158 (mkF m 223 #[.val (.int i0), .val (.int i1), .val (.int i2), .val (.int i3), .val (.int i4), .val (.ref b122), .val (.int (i0 &&& (3 : Int32))), .val (.int (0 : Int32)), .val (.int ((((i0.toUInt32 >>> ((3 : Int32) &&& 31).toUInt32).toInt32) &&& (7 : Int32)) % (7 : Int32))), .unset, .unset] [(.int (0 : Int32))])
          refine own_stepW (fun _ => XS.ifYes X158.here hx rfl (pc0 := 223) (pc' := 229) rfl (hb hby at_223) rfl ((if0 _ _).trans (teq (show (0 : Int32) = (0 : Int32) from (by decide))).1) (by decide) (by decide)) ?_
          show own_EndsW p e below s _ _ _ T158 (mkF m 229 #[.val (.int i0), .val (.int i1), .val (.int i2), .val (.int i3), .val (.int i4), .val (.ref b122), .val (.int (i0 &&& (3 : Int32))), .val (.int (0 : Int32)), .val (.int ((((i0.toUInt32 >>> ((3 : Int32) &&& 31).toUInt32).toInt32) &&& (7 : Int32)) % (7 : Int32))), .unset, .unset] [])
          refine own_stepW (fun _ => XS.iloadN X158.here hx rfl (hb hby at_229) rfl) ?_
          show own_EndsW p e below s _ _ _ T158 (mkF m 230 #[.val (.int i0), .val (.int i1), .val (.int i2), .val (.int i3), .val (.int i4), .val (.ref b122), .val (.int (i0 &&& (3 : Int32))), .val (.int (0 : Int32)), .val (.int ((((i0.toUInt32 >>> ((3 : Int32) &&& 31).toUInt32).toInt32) &&& (7 : Int32)) % (7 : Int32))), .unset, .unset] [(.int i0)])
          refine own_stepW (fun _ => XS.iconst X158.here hx rfl (hb hby at_230)) ?_
          show own_EndsW p e below s _ _ _ T158 (mkF m 231 #[.val (.int i0), .val (.int i1), .val (.int i2), .val (.int i3), .val (.int i4), .val (.ref b122), .val (.int (i0 &&& (3 : Int32))), .val (.int (0 : Int32)), .val (.int ((((i0.toUInt32 >>> ((3 : Int32) &&& 31).toUInt32).toInt32) &&& (7 : Int32)) % (7 : Int32))), .unset, .unset] [(.int (4 : Int32)), (.int i0)])
          refine own_stepW (fun _ => XS.iand X158.here hx rfl (hb hby at_231) rfl) ?_
          show own_EndsW p e below s _ _ _ T158 (mkF m 232 #[.val (.int i0), .val (.int i1), .val (.int i2), .val (.int i3), .val (.int i4), .val (.ref b122), .val (.int (i0 &&& (3 : Int32))), .val (.int (0 : Int32)), .val (.int ((((i0.toUInt32 >>> ((3 : Int32) &&& 31).toUInt32).toInt32) &&& (7 : Int32)) % (7 : Int32))), .unset, .unset] [(.int (i0 &&& (4 : Int32)))])
          by_cases hc232 : (i0 &&& (4 : Int32)) = (0 : Int32)
          · have hv_f_f_f_t_t := hv_f_f_f_t.trans (if_pos hc232)
            refine own_stepW (fun _ => XS.ifYes X158.here hx rfl (pc0 := 232) (pc' := 251) rfl (hb hby at_232) rfl ((if0 _ _).trans (teq hc232).1) (by decide) (by decide)) ?_
            show own_EndsW p e below s _ _ _ T158 (mkF m 251 #[.val (.int i0), .val (.int i1), .val (.int i2), .val (.int i3), .val (.int i4), .val (.ref b122), .val (.int (i0 &&& (3 : Int32))), .val (.int (0 : Int32)), .val (.int ((((i0.toUInt32 >>> ((3 : Int32) &&& 31).toUInt32).toInt32) &&& (7 : Int32)) % (7 : Int32))), .unset, .unset] [])
            exact b0_251 C Zs158 hS hk X158 e158 N158 i0 i1 i2 i3 i4 G1 w3 w54 w83 w9 w22 w63 w92 w32 w73 w102 k_w9 k_w32 k_w73 k_w102 OLD158 O2 P5 bSNAME bSORG bSEMAIL bSALL bE0 bX0 bC0 bV0 bE1 bX1 bC1 bV1 bE2 bX2 bC2 bV2 bA0 bA1 bA2 bA3 CHZ  b122 (i0 &&& (3 : Int32)) (0 : Int32) ((((i0.toUInt32 >>> ((3 : Int32) &&& 31).toUInt32).toInt32) &&& (7 : Int32)) % (7 : Int32)) k122 [(nar .char (101 : Int32)), (nar .char (109 : Int32)), (nar .char (97 : Int32)), (nar .char (105 : Int32)), (nar .char (108 : Int32)), (nar .char ((((i4.toUInt32 >>> ((8 : Int32) &&& 31).toUInt32).toInt32) &&& (255 : Int32)).toUInt32.toUInt16.toUInt32.toInt32))] (own_n7 _) rfl (own_lc (by unfold own_R; decide) (own_lc (by unfold own_R; decide) (own_lc (by unfold own_R; decide) (own_lc (by unfold own_R; decide) (own_lc (by unfold own_R; decide) (own_lc (own_c255 _) own_ln)))))) V158 _ hv_f_f_f_t_t
          · have hv_f_f_f_t_f := hv_f_f_f_t.trans (if_neg hc232)
            refine own_stepW (fun _ => XS.ifNo X158.here hx rfl (hb hby at_232) rfl ((if0 _ _).trans (feq hc232).1)) ?_
            show own_EndsW p e below s _ _ _ T158 (mkF m 235 #[.val (.int i0), .val (.int i1), .val (.int i2), .val (.int i3), .val (.int i4), .val (.ref b122), .val (.int (i0 &&& (3 : Int32))), .val (.int (0 : Int32)), .val (.int ((((i0.toUInt32 >>> ((3 : Int32) &&& 31).toUInt32).toInt32) &&& (7 : Int32)) % (7 : Int32))), .unset, .unset] [])
            refine own_stepW (fun _ => XS.aload X158.here hx rfl (hb hby at_235) rfl rfl) ?_
            show own_EndsW p e below s _ _ _ T158 (mkF m 237 #[.val (.int i0), .val (.int i1), .val (.int i2), .val (.int i3), .val (.int i4), .val (.ref b122), .val (.int (i0 &&& (3 : Int32))), .val (.int (0 : Int32)), .val (.int ((((i0.toUInt32 >>> ((3 : Int32) &&& 31).toUInt32).toInt32) &&& (7 : Int32)) % (7 : Int32))), .unset, .unset] [(.ref b122)])
            refine own_stepW (fun _ => XS.iloadN X158.here hx rfl (hb hby at_237) rfl) ?_
            show own_EndsW p e below s _ _ _ T158 (mkF m 238 #[.val (.int i0), .val (.int i1), .val (.int i2), .val (.int i3), .val (.int i4), .val (.ref b122), .val (.int (i0 &&& (3 : Int32))), .val (.int (0 : Int32)), .val (.int ((((i0.toUInt32 >>> ((3 : Int32) &&& 31).toUInt32).toInt32) &&& (7 : Int32)) % (7 : Int32))), .unset, .unset] [(.int i1), (.ref b122)])
            refine own_stepW (fun _ => X158.ldcInt hx hown (mvT hZ (hw _ (List.mem_of_getElem? (i := 59) rfl))) (g := (mkF m 238 #[.val (.int i0), .val (.int i1), .val (.int i2), .val (.int i3), .val (.int i4), .val (.ref b122), .val (.int (i0 &&& (3 : Int32))), .val (.int (0 : Int32)), .val (.int ((((i0.toUInt32 >>> ((3 : Int32) &&& 31).toUInt32).toInt32) &&& (7 : Int32)) % (7 : Int32))), .unset, .unset] [(.int i1), (.ref b122)])) rfl (hb hby at_238) _) ?_
            show own_EndsW p e below s _ _ _ T158 (mkF m 240 #[.val (.int i0), .val (.int i1), .val (.int i2), .val (.int i3), .val (.int i4), .val (.ref b122), .val (.int (i0 &&& (3 : Int32))), .val (.int (0 : Int32)), .val (.int ((((i0.toUInt32 >>> ((3 : Int32) &&& 31).toUInt32).toInt32) &&& (7 : Int32)) % (7 : Int32))), .unset, .unset] [(.int (2147483647 : Int32)), (.int i1), (.ref b122)])
            refine own_stepW (fun _ => XS.iand X158.here hx rfl (hb hby at_240) rfl) ?_
            show own_EndsW p e below s _ _ _ T158 (mkF m 241 #[.val (.int i0), .val (.int i1), .val (.int i2), .val (.int i3), .val (.int i4), .val (.ref b122), .val (.int (i0 &&& (3 : Int32))), .val (.int (0 : Int32)), .val (.int ((((i0.toUInt32 >>> ((3 : Int32) &&& 31).toUInt32).toInt32) &&& (7 : Int32)) % (7 : Int32))), .unset, .unset] [(.int (i1 &&& (2147483647 : Int32))), (.ref b122)])
            refine own_stepW (fun _ => XS.bipush X158.here hx rfl (hb hby at_241)) ?_
            show own_EndsW p e below s _ _ _ T158 (mkF m 243 #[.val (.int i0), .val (.int i1), .val (.int i2), .val (.int i3), .val (.int i4), .val (.ref b122), .val (.int (i0 &&& (3 : Int32))), .val (.int (0 : Int32)), .val (.int ((((i0.toUInt32 >>> ((3 : Int32) &&& 31).toUInt32).toInt32) &&& (7 : Int32)) % (7 : Int32))), .unset, .unset] [(.int (6 : Int32)), (.int (i1 &&& (2147483647 : Int32))), (.ref b122)])
            refine own_stepW (fun _ => iremM X158 hx rfl (hb hby at_243) rfl (by decide)) ?_
            show own_EndsW p e below s _ _ _ T158 (mkF m 244 #[.val (.int i0), .val (.int i1), .val (.int i2), .val (.int i3), .val (.int i4), .val (.ref b122), .val (.int (i0 &&& (3 : Int32))), .val (.int (0 : Int32)), .val (.int ((((i0.toUInt32 >>> ((3 : Int32) &&& 31).toUInt32).toInt32) &&& (7 : Int32)) % (7 : Int32))), .unset, .unset] [(.int ((i1 &&& (2147483647 : Int32)) % (6 : Int32))), (.ref b122)])
            refine own_stepW (fun _ => XS.iloadN X158.here hx rfl (hb hby at_244) rfl) ?_
            show own_EndsW p e below s _ _ _ T158 (mkF m 245 #[.val (.int i0), .val (.int i1), .val (.int i2), .val (.int i3), .val (.int i4), .val (.ref b122), .val (.int (i0 &&& (3 : Int32))), .val (.int (0 : Int32)), .val (.int ((((i0.toUInt32 >>> ((3 : Int32) &&& 31).toUInt32).toInt32) &&& (7 : Int32)) % (7 : Int32))), .unset, .unset] [(.int i2), (.int ((i1 &&& (2147483647 : Int32)) % (6 : Int32))), (.ref b122)])
            refine own_stepW (fun _ => XS.sipush X158.here hx rfl (hb hby at_245)) ?_
            show own_EndsW p e below s _ _ _ T158 (mkF m 248 #[.val (.int i0), .val (.int i1), .val (.int i2), .val (.int i3), .val (.int i4), .val (.ref b122), .val (.int (i0 &&& (3 : Int32))), .val (.int (0 : Int32)), .val (.int ((((i0.toUInt32 >>> ((3 : Int32) &&& 31).toUInt32).toInt32) &&& (7 : Int32)) % (7 : Int32))), .unset, .unset] [(.int (255 : Int32)), (.int i2), (.int ((i1 &&& (2147483647 : Int32)) % (6 : Int32))), (.ref b122)])
            refine own_stepW (fun _ => XS.iand X158.here hx rfl (hb hby at_248) rfl) ?_
            show own_EndsW p e below s _ _ _ T158 (mkF m 249 #[.val (.int i0), .val (.int i1), .val (.int i2), .val (.int i3), .val (.int i4), .val (.ref b122), .val (.int (i0 &&& (3 : Int32))), .val (.int (0 : Int32)), .val (.int ((((i0.toUInt32 >>> ((3 : Int32) &&& 31).toUInt32).toInt32) &&& (7 : Int32)) % (7 : Int32))), .unset, .unset] [(.int (i2 &&& (255 : Int32))), (.int ((i1 &&& (2147483647 : Int32)) % (6 : Int32))), (.ref b122)])
            refine own_stepW (fun _ => XS.i2c X158.here hx rfl (hb hby at_249) rfl) ?_
            show own_EndsW p e below s _ _ _ T158 (mkF m 250 #[.val (.int i0), .val (.int i1), .val (.int i2), .val (.int i3), .val (.int i4), .val (.ref b122), .val (.int (i0 &&& (3 : Int32))), .val (.int (0 : Int32)), .val (.int ((((i0.toUInt32 >>> ((3 : Int32) &&& 31).toUInt32).toInt32) &&& (7 : Int32)) % (7 : Int32))), .unset, .unset] [(.int ((i2 &&& (255 : Int32)).toUInt32.toUInt16.toUInt32.toInt32)), (.int ((i1 &&& (2147483647 : Int32)) % (6 : Int32))), (.ref b122)])
            obtain ⟨cl159, Ar159, q159, S159, N159_, H159, G159⟩ := id V158
            have hin159 : ¬ (((i1 &&& (2147483647 : Int32)) % (6 : Int32)) < 0 ∨ cl159.slots.size ≤ (((i1 &&& (2147483647 : Int32)) % (6 : Int32))).toNatClampNeg) := inb_of S159 (own_at6 _)
            obtain ⟨T159, h159, X159, e159, W159, st159⟩ := stC X158 hx hZ e158 Ar159 (j := ((i1 &&& (2147483647 : Int32)) % (6 : Int32))) hin159 (g := (mkF m 250 #[.val (.int i0), .val (.int i1), .val (.int i2), .val (.int i3), .val (.int i4), .val (.ref b122), .val (.int (i0 &&& (3 : Int32))), .val (.int (0 : Int32)), .val (.int ((((i0.toUInt32 >>> ((3 : Int32) &&& 31).toUInt32).toInt32) &&& (7 : Int32)) % (7 : Int32))), .unset, .unset] [(.int ((i2 &&& (255 : Int32)).toUInt32.toUInt16.toUInt32.toInt32)), (.int ((i1 &&& (2147483647 : Int32)) % (6 : Int32))), (.ref b122)])) rfl rfl (hb hby at_250)
            have V159 : Arv Z h159 b122 k122 .char (6 : Int32) ((own_set [(nar .char (101 : Int32)), (nar .char (109 : Int32)), (nar .char (97 : Int32)), (nar .char (105 : Int32)), (nar .char (108 : Int32)), (nar .char ((((i4.toUInt32 >>> ((8 : Int32) &&& 31).toUInt32).toInt32) &&& (255 : Int32)).toUInt32.toUInt16.toUInt32.toInt32))] ((i1 &&& (2147483647 : Int32)) % (6 : Int32)) ((i2 &&& (255 : Int32)).toUInt32.toUInt16.toUInt32.toInt32)).map Value.int) (.int (0 : Int32)) := own_arvset (Arv.set Ar159 q159 S159 N159_ H159 G159 (fits_nar_char _) W159 _ rfl (Nat.lt_of_lt_of_eq (own_bd6 (own_at6 _)) rfl))
            have OLD159 := OLD158.wr W159 g_b122
            have Zs159 : n0 ≤ h159.size := (by rw [W159.size]; exact Zs158)
            have hk := Nat.le_trans hk (Nat.le_of_eq W159.size.symm)
            have N159 := Fr.snoc X159 N158 g_b122
            refine own_stepW st159 ?_
            show own_EndsW p e below s _ _ _ T159 (mkF m 251 #[.val (.int i0), .val (.int i1), .val (.int i2), .val (.int i3), .val (.int i4), .val (.ref b122), .val (.int (i0 &&& (3 : Int32))), .val (.int (0 : Int32)), .val (.int ((((i0.toUInt32 >>> ((3 : Int32) &&& 31).toUInt32).toInt32) &&& (7 : Int32)) % (7 : Int32))), .unset, .unset] [])
            exact b0_251 C Zs159 hS hk X159 e159 N159 i0 i1 i2 i3 i4 G1 w3 w54 w83 w9 w22 w63 w92 w32 w73 w102 k_w9 k_w32 k_w73 k_w102 OLD159 O2 P5 bSNAME bSORG bSEMAIL bSALL bE0 bX0 bC0 bV0 bE1 bX1 bC1 bV1 bE2 bX2 bC2 bV2 bA0 bA1 bA2 bA3 CHZ  b122 (i0 &&& (3 : Int32)) (0 : Int32) ((((i0.toUInt32 >>> ((3 : Int32) &&& 31).toUInt32).toInt32) &&& (7 : Int32)) % (7 : Int32)) k122 (own_set [(nar .char (101 : Int32)), (nar .char (109 : Int32)), (nar .char (97 : Int32)), (nar .char (105 : Int32)), (nar .char (108 : Int32)), (nar .char ((((i4.toUInt32 >>> ((8 : Int32) &&& 31).toUInt32).toInt32) &&& (255 : Int32)).toUInt32.toUInt16.toUInt32.toInt32))] ((i1 &&& (2147483647 : Int32)) % (6 : Int32)) ((i2 &&& (255 : Int32)).toUInt32.toUInt16.toUInt32.toInt32)) (own_n7 _) (own_setlen _ _ _) (own_rset (own_lc (by unfold own_R; decide) (own_lc (by unfold own_R; decide) (own_lc (by unfold own_R; decide) (own_lc (by unfold own_R; decide) (own_lc (by unfold own_R; decide) (own_lc (own_c255 _) own_ln)))))) (own_c255 _)) V159 _ hv_f_f_f_t_f
        · have hv_f_f_f_f := hv_f_f_f.trans (if_neg hc188)
          refine own_stepW (fun _ => XS.icmpYes X128.here hx rfl (pc0 := 188) (pc' := 229) rfl (hb hby at_188) rfl (feq hc188).2 (by decide) (by decide)) ?_
          show own_EndsW p e below s _ _ _ T128 (mkF m 229 #[.val (.int i0), .val (.int i1), .val (.int i2), .val (.int i3), .val (.int i4), .val (.ref b122), .val (.int (i0 &&& (3 : Int32))), .val (.int (0 : Int32)), .val (.int ((((i0.toUInt32 >>> ((3 : Int32) &&& 31).toUInt32).toInt32) &&& (7 : Int32)) % (7 : Int32))), .unset, .unset] [])
          refine own_stepW (fun _ => XS.iloadN X128.here hx rfl (hb hby at_229) rfl) ?_
          show own_EndsW p e below s _ _ _ T128 (mkF m 230 #[.val (.int i0), .val (.int i1), .val (.int i2), .val (.int i3), .val (.int i4), .val (.ref b122), .val (.int (i0 &&& (3 : Int32))), .val (.int (0 : Int32)), .val (.int ((((i0.toUInt32 >>> ((3 : Int32) &&& 31).toUInt32).toInt32) &&& (7 : Int32)) % (7 : Int32))), .unset, .unset] [(.int i0)])
          refine own_stepW (fun _ => XS.iconst X128.here hx rfl (hb hby at_230)) ?_
          show own_EndsW p e below s _ _ _ T128 (mkF m 231 #[.val (.int i0), .val (.int i1), .val (.int i2), .val (.int i3), .val (.int i4), .val (.ref b122), .val (.int (i0 &&& (3 : Int32))), .val (.int (0 : Int32)), .val (.int ((((i0.toUInt32 >>> ((3 : Int32) &&& 31).toUInt32).toInt32) &&& (7 : Int32)) % (7 : Int32))), .unset, .unset] [(.int (4 : Int32)), (.int i0)])
          refine own_stepW (fun _ => XS.iand X128.here hx rfl (hb hby at_231) rfl) ?_
          show own_EndsW p e below s _ _ _ T128 (mkF m 232 #[.val (.int i0), .val (.int i1), .val (.int i2), .val (.int i3), .val (.int i4), .val (.ref b122), .val (.int (i0 &&& (3 : Int32))), .val (.int (0 : Int32)), .val (.int ((((i0.toUInt32 >>> ((3 : Int32) &&& 31).toUInt32).toInt32) &&& (7 : Int32)) % (7 : Int32))), .unset, .unset] [(.int (i0 &&& (4 : Int32)))])
          by_cases hc232 : (i0 &&& (4 : Int32)) = (0 : Int32)
          · have hv_f_f_f_f_t := hv_f_f_f_f.trans (if_pos hc232)
            refine own_stepW (fun _ => XS.ifYes X128.here hx rfl (pc0 := 232) (pc' := 251) rfl (hb hby at_232) rfl ((if0 _ _).trans (teq hc232).1) (by decide) (by decide)) ?_
            show own_EndsW p e below s _ _ _ T128 (mkF m 251 #[.val (.int i0), .val (.int i1), .val (.int i2), .val (.int i3), .val (.int i4), .val (.ref b122), .val (.int (i0 &&& (3 : Int32))), .val (.int (0 : Int32)), .val (.int ((((i0.toUInt32 >>> ((3 : Int32) &&& 31).toUInt32).toInt32) &&& (7 : Int32)) % (7 : Int32))), .unset, .unset] [])
            exact b0_251 C Zs128 hS hk X128 e128 N128 i0 i1 i2 i3 i4 G1 w3 w54 w83 w9 w22 w63 w92 w32 w73 w102 k_w9 k_w32 k_w73 k_w102 OLD128 O2 P5 bSNAME bSORG bSEMAIL bSALL bE0 bX0 bC0 bV0 bE1 bX1 bC1 bV1 bE2 bX2 bC2 bV2 bA0 bA1 bA2 bA3 CHZ  b122 (i0 &&& (3 : Int32)) (0 : Int32) ((((i0.toUInt32 >>> ((3 : Int32) &&& 31).toUInt32).toInt32) &&& (7 : Int32)) % (7 : Int32)) k122 [(nar .char ((i3 &&& (255 : Int32)).toUInt32.toUInt16.toUInt32.toInt32)), (nar .char ((((i3.toUInt32 >>> ((8 : Int32) &&& 31).toUInt32).toInt32) &&& (255 : Int32)).toUInt32.toUInt16.toUInt32.toInt32)), (nar .char ((((i3.toUInt32 >>> ((16 : Int32) &&& 31).toUInt32).toInt32) &&& (255 : Int32)).toUInt32.toUInt16.toUInt32.toInt32)), (nar .char ((((i3.toUInt32 >>> ((24 : Int32) &&& 31).toUInt32).toInt32) &&& (255 : Int32)).toUInt32.toUInt16.toUInt32.toInt32)), (nar .char ((i4 &&& (255 : Int32)).toUInt32.toUInt16.toUInt32.toInt32)), (nar .char ((((i4.toUInt32 >>> ((8 : Int32) &&& 31).toUInt32).toInt32) &&& (255 : Int32)).toUInt32.toUInt16.toUInt32.toInt32))] (own_n7 _) rfl (own_lc (own_c255 _) (own_lc (own_c255 _) (own_lc (own_c255 _) (own_lc (own_c255 _) (own_lc (own_c255 _) (own_lc (own_c255 _) own_ln)))))) V128 _ hv_f_f_f_f_t
          · have hv_f_f_f_f_f := hv_f_f_f_f.trans (if_neg hc232)
            refine own_stepW (fun _ => XS.ifNo X128.here hx rfl (hb hby at_232) rfl ((if0 _ _).trans (feq hc232).1)) ?_
            show own_EndsW p e below s _ _ _ T128 (mkF m 235 #[.val (.int i0), .val (.int i1), .val (.int i2), .val (.int i3), .val (.int i4), .val (.ref b122), .val (.int (i0 &&& (3 : Int32))), .val (.int (0 : Int32)), .val (.int ((((i0.toUInt32 >>> ((3 : Int32) &&& 31).toUInt32).toInt32) &&& (7 : Int32)) % (7 : Int32))), .unset, .unset] [])
            refine own_stepW (fun _ => XS.aload X128.here hx rfl (hb hby at_235) rfl rfl) ?_
            show own_EndsW p e below s _ _ _ T128 (mkF m 237 #[.val (.int i0), .val (.int i1), .val (.int i2), .val (.int i3), .val (.int i4), .val (.ref b122), .val (.int (i0 &&& (3 : Int32))), .val (.int (0 : Int32)), .val (.int ((((i0.toUInt32 >>> ((3 : Int32) &&& 31).toUInt32).toInt32) &&& (7 : Int32)) % (7 : Int32))), .unset, .unset] [(.ref b122)])
            refine own_stepW (fun _ => XS.iloadN X128.here hx rfl (hb hby at_237) rfl) ?_
            show own_EndsW p e below s _ _ _ T128 (mkF m 238 #[.val (.int i0), .val (.int i1), .val (.int i2), .val (.int i3), .val (.int i4), .val (.ref b122), .val (.int (i0 &&& (3 : Int32))), .val (.int (0 : Int32)), .val (.int ((((i0.toUInt32 >>> ((3 : Int32) &&& 31).toUInt32).toInt32) &&& (7 : Int32)) % (7 : Int32))), .unset, .unset] [(.int i1), (.ref b122)])
            refine own_stepW (fun _ => X128.ldcInt hx hown (mvT hZ (hw _ (List.mem_of_getElem? (i := 59) rfl))) (g := (mkF m 238 #[.val (.int i0), .val (.int i1), .val (.int i2), .val (.int i3), .val (.int i4), .val (.ref b122), .val (.int (i0 &&& (3 : Int32))), .val (.int (0 : Int32)), .val (.int ((((i0.toUInt32 >>> ((3 : Int32) &&& 31).toUInt32).toInt32) &&& (7 : Int32)) % (7 : Int32))), .unset, .unset] [(.int i1), (.ref b122)])) rfl (hb hby at_238) _) ?_
            show own_EndsW p e below s _ _ _ T128 (mkF m 240 #[.val (.int i0), .val (.int i1), .val (.int i2), .val (.int i3), .val (.int i4), .val (.ref b122), .val (.int (i0 &&& (3 : Int32))), .val (.int (0 : Int32)), .val (.int ((((i0.toUInt32 >>> ((3 : Int32) &&& 31).toUInt32).toInt32) &&& (7 : Int32)) % (7 : Int32))), .unset, .unset] [(.int (2147483647 : Int32)), (.int i1), (.ref b122)])
            refine own_stepW (fun _ => XS.iand X128.here hx rfl (hb hby at_240) rfl) ?_
            show own_EndsW p e below s _ _ _ T128 (mkF m 241 #[.val (.int i0), .val (.int i1), .val (.int i2), .val (.int i3), .val (.int i4), .val (.ref b122), .val (.int (i0 &&& (3 : Int32))), .val (.int (0 : Int32)), .val (.int ((((i0.toUInt32 >>> ((3 : Int32) &&& 31).toUInt32).toInt32) &&& (7 : Int32)) % (7 : Int32))), .unset, .unset] [(.int (i1 &&& (2147483647 : Int32))), (.ref b122)])
            refine own_stepW (fun _ => XS.bipush X128.here hx rfl (hb hby at_241)) ?_
            show own_EndsW p e below s _ _ _ T128 (mkF m 243 #[.val (.int i0), .val (.int i1), .val (.int i2), .val (.int i3), .val (.int i4), .val (.ref b122), .val (.int (i0 &&& (3 : Int32))), .val (.int (0 : Int32)), .val (.int ((((i0.toUInt32 >>> ((3 : Int32) &&& 31).toUInt32).toInt32) &&& (7 : Int32)) % (7 : Int32))), .unset, .unset] [(.int (6 : Int32)), (.int (i1 &&& (2147483647 : Int32))), (.ref b122)])
            refine own_stepW (fun _ => iremM X128 hx rfl (hb hby at_243) rfl (by decide)) ?_
            show own_EndsW p e below s _ _ _ T128 (mkF m 244 #[.val (.int i0), .val (.int i1), .val (.int i2), .val (.int i3), .val (.int i4), .val (.ref b122), .val (.int (i0 &&& (3 : Int32))), .val (.int (0 : Int32)), .val (.int ((((i0.toUInt32 >>> ((3 : Int32) &&& 31).toUInt32).toInt32) &&& (7 : Int32)) % (7 : Int32))), .unset, .unset] [(.int ((i1 &&& (2147483647 : Int32)) % (6 : Int32))), (.ref b122)])
            refine own_stepW (fun _ => XS.iloadN X128.here hx rfl (hb hby at_244) rfl) ?_
            show own_EndsW p e below s _ _ _ T128 (mkF m 245 #[.val (.int i0), .val (.int i1), .val (.int i2), .val (.int i3), .val (.int i4), .val (.ref b122), .val (.int (i0 &&& (3 : Int32))), .val (.int (0 : Int32)), .val (.int ((((i0.toUInt32 >>> ((3 : Int32) &&& 31).toUInt32).toInt32) &&& (7 : Int32)) % (7 : Int32))), .unset, .unset] [(.int i2), (.int ((i1 &&& (2147483647 : Int32)) % (6 : Int32))), (.ref b122)])
            refine own_stepW (fun _ => XS.sipush X128.here hx rfl (hb hby at_245)) ?_
            show own_EndsW p e below s _ _ _ T128 (mkF m 248 #[.val (.int i0), .val (.int i1), .val (.int i2), .val (.int i3), .val (.int i4), .val (.ref b122), .val (.int (i0 &&& (3 : Int32))), .val (.int (0 : Int32)), .val (.int ((((i0.toUInt32 >>> ((3 : Int32) &&& 31).toUInt32).toInt32) &&& (7 : Int32)) % (7 : Int32))), .unset, .unset] [(.int (255 : Int32)), (.int i2), (.int ((i1 &&& (2147483647 : Int32)) % (6 : Int32))), (.ref b122)])
            refine own_stepW (fun _ => XS.iand X128.here hx rfl (hb hby at_248) rfl) ?_
            show own_EndsW p e below s _ _ _ T128 (mkF m 249 #[.val (.int i0), .val (.int i1), .val (.int i2), .val (.int i3), .val (.int i4), .val (.ref b122), .val (.int (i0 &&& (3 : Int32))), .val (.int (0 : Int32)), .val (.int ((((i0.toUInt32 >>> ((3 : Int32) &&& 31).toUInt32).toInt32) &&& (7 : Int32)) % (7 : Int32))), .unset, .unset] [(.int (i2 &&& (255 : Int32))), (.int ((i1 &&& (2147483647 : Int32)) % (6 : Int32))), (.ref b122)])
            refine own_stepW (fun _ => XS.i2c X128.here hx rfl (hb hby at_249) rfl) ?_
            show own_EndsW p e below s _ _ _ T128 (mkF m 250 #[.val (.int i0), .val (.int i1), .val (.int i2), .val (.int i3), .val (.int i4), .val (.ref b122), .val (.int (i0 &&& (3 : Int32))), .val (.int (0 : Int32)), .val (.int ((((i0.toUInt32 >>> ((3 : Int32) &&& 31).toUInt32).toInt32) &&& (7 : Int32)) % (7 : Int32))), .unset, .unset] [(.int ((i2 &&& (255 : Int32)).toUInt32.toUInt16.toUInt32.toInt32)), (.int ((i1 &&& (2147483647 : Int32)) % (6 : Int32))), (.ref b122)])
            obtain ⟨cl160, Ar160, q160, S160, N160_, H160, G160⟩ := id V128
            have hin160 : ¬ (((i1 &&& (2147483647 : Int32)) % (6 : Int32)) < 0 ∨ cl160.slots.size ≤ (((i1 &&& (2147483647 : Int32)) % (6 : Int32))).toNatClampNeg) := inb_of S160 (own_at6 _)
            obtain ⟨T160, h160, X160, e160, W160, st160⟩ := stC X128 hx hZ e128 Ar160 (j := ((i1 &&& (2147483647 : Int32)) % (6 : Int32))) hin160 (g := (mkF m 250 #[.val (.int i0), .val (.int i1), .val (.int i2), .val (.int i3), .val (.int i4), .val (.ref b122), .val (.int (i0 &&& (3 : Int32))), .val (.int (0 : Int32)), .val (.int ((((i0.toUInt32 >>> ((3 : Int32) &&& 31).toUInt32).toInt32) &&& (7 : Int32)) % (7 : Int32))), .unset, .unset] [(.int ((i2 &&& (255 : Int32)).toUInt32.toUInt16.toUInt32.toInt32)), (.int ((i1 &&& (2147483647 : Int32)) % (6 : Int32))), (.ref b122)])) rfl rfl (hb hby at_250)
            have V160 : Arv Z h160 b122 k122 .char (6 : Int32) ((own_set [(nar .char ((i3 &&& (255 : Int32)).toUInt32.toUInt16.toUInt32.toInt32)), (nar .char ((((i3.toUInt32 >>> ((8 : Int32) &&& 31).toUInt32).toInt32) &&& (255 : Int32)).toUInt32.toUInt16.toUInt32.toInt32)), (nar .char ((((i3.toUInt32 >>> ((16 : Int32) &&& 31).toUInt32).toInt32) &&& (255 : Int32)).toUInt32.toUInt16.toUInt32.toInt32)), (nar .char ((((i3.toUInt32 >>> ((24 : Int32) &&& 31).toUInt32).toInt32) &&& (255 : Int32)).toUInt32.toUInt16.toUInt32.toInt32)), (nar .char ((i4 &&& (255 : Int32)).toUInt32.toUInt16.toUInt32.toInt32)), (nar .char ((((i4.toUInt32 >>> ((8 : Int32) &&& 31).toUInt32).toInt32) &&& (255 : Int32)).toUInt32.toUInt16.toUInt32.toInt32))] ((i1 &&& (2147483647 : Int32)) % (6 : Int32)) ((i2 &&& (255 : Int32)).toUInt32.toUInt16.toUInt32.toInt32)).map Value.int) (.int (0 : Int32)) := own_arvset (Arv.set Ar160 q160 S160 N160_ H160 G160 (fits_nar_char _) W160 _ rfl (Nat.lt_of_lt_of_eq (own_bd6 (own_at6 _)) rfl))
            have OLD160 := OLD128.wr W160 g_b122
            have Zs160 : n0 ≤ h160.size := (by rw [W160.size]; exact Zs128)
            have hk := Nat.le_trans hk (Nat.le_of_eq W160.size.symm)
            have N160 := Fr.snoc X160 N128 g_b122
            refine own_stepW st160 ?_
            show own_EndsW p e below s _ _ _ T160 (mkF m 251 #[.val (.int i0), .val (.int i1), .val (.int i2), .val (.int i3), .val (.int i4), .val (.ref b122), .val (.int (i0 &&& (3 : Int32))), .val (.int (0 : Int32)), .val (.int ((((i0.toUInt32 >>> ((3 : Int32) &&& 31).toUInt32).toInt32) &&& (7 : Int32)) % (7 : Int32))), .unset, .unset] [])
            exact b0_251 C Zs160 hS hk X160 e160 N160 i0 i1 i2 i3 i4 G1 w3 w54 w83 w9 w22 w63 w92 w32 w73 w102 k_w9 k_w32 k_w73 k_w102 OLD160 O2 P5 bSNAME bSORG bSEMAIL bSALL bE0 bX0 bC0 bV0 bE1 bX1 bC1 bV1 bE2 bX2 bC2 bV2 bA0 bA1 bA2 bA3 CHZ  b122 (i0 &&& (3 : Int32)) (0 : Int32) ((((i0.toUInt32 >>> ((3 : Int32) &&& 31).toUInt32).toInt32) &&& (7 : Int32)) % (7 : Int32)) k122 (own_set [(nar .char ((i3 &&& (255 : Int32)).toUInt32.toUInt16.toUInt32.toInt32)), (nar .char ((((i3.toUInt32 >>> ((8 : Int32) &&& 31).toUInt32).toInt32) &&& (255 : Int32)).toUInt32.toUInt16.toUInt32.toInt32)), (nar .char ((((i3.toUInt32 >>> ((16 : Int32) &&& 31).toUInt32).toInt32) &&& (255 : Int32)).toUInt32.toUInt16.toUInt32.toInt32)), (nar .char ((((i3.toUInt32 >>> ((24 : Int32) &&& 31).toUInt32).toInt32) &&& (255 : Int32)).toUInt32.toUInt16.toUInt32.toInt32)), (nar .char ((i4 &&& (255 : Int32)).toUInt32.toUInt16.toUInt32.toInt32)), (nar .char ((((i4.toUInt32 >>> ((8 : Int32) &&& 31).toUInt32).toInt32) &&& (255 : Int32)).toUInt32.toUInt16.toUInt32.toInt32))] ((i1 &&& (2147483647 : Int32)) % (6 : Int32)) ((i2 &&& (255 : Int32)).toUInt32.toUInt16.toUInt32.toInt32)) (own_n7 _) (own_setlen _ _ _) (own_rset (own_lc (own_c255 _) (own_lc (own_c255 _) (own_lc (own_c255 _) (own_lc (own_c255 _) (own_lc (own_c255 _) (own_lc (own_c255 _) own_ln)))))) (own_c255 _)) V160 _ hv_f_f_f_f_f
theorem ef_rm0 (m : MethodId) (i0 : Int32) (i1 : Int32) (i2 : Int32) (i3 : Int32) (i4 : Int32) : entryFrame m #[(.int i0), (.int i1), (.int i2), (.int i3), (.int i4)] maxLocals = mkF m 0 #[.val (.int i0), .val (.int i1), .val (.int i2), .val (.int i3), .val (.int i4), .unset, .unset, .unset, .unset, .unset, .unset] [] := by first | (simp [entryFrame, mkF, argsToLocals, Value.category, maxLocals]; done) | rfl
set_option maxRecDepth 65536 in
set_option maxHeartbeats 40000000 in
theorem rm0 (l : Launch) (Z : State) (a0 : Array Value) (hw : ∀ d ∈ tables_1, d.before a0 Z = true) (ws : List Jvm.Cond) (i0 : Int32) (i1 : Int32) (i2 : Int32) (i3 : Int32) (i4 : Int32) (G1 : Int32) (w3 : Addr) (w54 : Addr) (w83 : Addr) (w9 : Addr) (w22 : Addr) (w63 : Addr) (w92 : Addr) (w32 : Addr) (w73 : Addr) (w102 : Addr) (k_w9 : ClassId) (k_w32 : ClassId) (k_w73 : ClassId) (k_w102 : ClassId) (h0 : Heap) (n0 : Nat) (Z0 : n0 ≤ h0.size) (OLD : Old Z n0 h0) (O2 : Sta Z Z.heap "java/lang/String" "COMPACT_STRINGS" "Z" (.int G1)) (P5 : ¬ (G1 = (0 : Int32))) (bSNAME : Sta Z Z.heap "lomwright/lom/Entity$Part" "NAME" "Llomwright/lom/Entity$Part;" (.ref w3)) (bSORG : Sta Z Z.heap "lomwright/lom/Entity$Part" "ORG" "Llomwright/lom/Entity$Part;" (.ref w54)) (bSEMAIL : Sta Z Z.heap "lomwright/lom/Entity$Part" "EMAIL" "Llomwright/lom/Entity$Part;" (.ref w83)) (bSALL : Sta Z Z.heap "lomwright/lom/Entity$Part" "ALL" "[Llomwright/lom/Entity$Part;" (.ref w9)) (bE0 : Fld Z Z.heap w3 "lomwright/lom/Entity$Part" "element" "Ljava/lang/String;" (.ref w22)) (bX0 : Exa Z Z.heap w22 "java/lang/String") (bC0 : Fld Z Z.heap w22 "java/lang/String" "coder" "B" (.int (0 : Int32))) (bV0 : Fld Z Z.heap w22 "java/lang/String" "value" "[B" (.ref w32)) (bE1 : Fld Z Z.heap w54 "lomwright/lom/Entity$Part" "element" "Ljava/lang/String;" (.ref w63)) (bX1 : Exa Z Z.heap w63 "java/lang/String") (bC1 : Fld Z Z.heap w63 "java/lang/String" "coder" "B" (.int (0 : Int32))) (bV1 : Fld Z Z.heap w63 "java/lang/String" "value" "[B" (.ref w73)) (bE2 : Fld Z Z.heap w83 "lomwright/lom/Entity$Part" "element" "Ljava/lang/String;" (.ref w92)) (bX2 : Exa Z Z.heap w92 "java/lang/String") (bC2 : Fld Z Z.heap w92 "java/lang/String" "coder" "B" (.int (0 : Int32))) (bV2 : Fld Z Z.heap w92 "java/lang/String" "value" "[B" (.ref w102)) (bA0 : Arv Z Z.heap w9 k_w9 (.object "lomwright/lom/Entity$Part") (3 : Int32) [(.ref w3), (.ref w54), (.ref w83)] .null) (bA1 : Arv Z Z.heap w32 k_w32 .byte (4 : Int32) [(.int (110 : Int32)), (.int (97 : Int32)), (.int (109 : Int32)), (.int (101 : Int32))] (.int 0)) (bA2 : Arv Z Z.heap w73 k_w73 .byte (3 : Int32) [(.int (111 : Int32)), (.int (114 : Int32)), (.int (103 : Int32))] (.int 0)) (bA3 : Arv Z Z.heap w102 k_w102 .byte (5 : Int32) [(.int (101 : Int32)), (.int (109 : Int32)), (.int (97 : Int32)), (.int (105 : Int32)), (.int (108 : Int32))] (.int 0)) :
    MetFree l x (head1 (Jvm.Cond.code x code maxLocals ret :: ws) room_1) (fun a U => a = #[(.int i0), (.int i1), (.int i2), (.int i3), (.int i4)] ∧ Z.Warmed39 U.vm ∧ U.heap = h0 ∧ CHv Z own_EL U.vm Z.heap) (fun _ _ _ _ _ => True) (fun _ U o U' => ∃ v L, o = .returned v ∧ (own_QL n0 (some (.int (f0_0 i0 i1 i2 i3 i4 w3 w54 w83)))) v U'.heap L ∧ ReturnedEndW U o U' L room_1.cells room_1.slots) := by
  refine MetFree.of_bodySF (plainFor_of_name pn_1) hisR ?_
  intro p e s m args below meth c s₁ Bd hml0 hP hK
  obtain ⟨rfl, hZ, hh, CHZ⟩ := hP
  have X0 : Stand p l e room_1 s m #[(.int i0), (.int i1), (.int i2), (.int i3), (.int i4)] below meth c s₁ [] 0 0 := Stand.of_body Bd
  have e0 : s₁.heap = h0 := by rw [← hh, Bd.state]; rfl
  have C : own_C "lomwright/lom/PartOfPinLaw" code maxLocals ret x.name p (s.setVm s.vm) m meth c Z a0 := ⟨Bd.exec, hZ, hw, Bd.bytes, hml0, findClass_of_methodNamed Bd.named, Bd.returns, Bd.notSynchronized, (name_of_methodNamed Bd.named Bd.method).1⟩
  have r := b0_0 C Z0 ((State.WarmedH.refl s).since n0) Z0 X0 e0 (Fr.nil n0) i0 i1 i2 i3 i4 G1 w3 w54 w83 w9 w22 w63 w92 w32 w73 w102 k_w9 k_w32 k_w73 k_w102 OLD O2 P5 bSNAME bSORG bSEMAIL bSALL bE0 bX0 bC0 bV0 bE1 bX1 bC1 bV1 bE2 bX2 bC2 bV2 bA0 bA1 bA2 bA3 CHZ _ rfl
  rw [ef_rm0 m i0 i1 i2 i3 i4]
  exact r
theorem own_ne0 {s : State} {args : Array Value} {t : Term} {z : Int32} (e : t.eval args s none [] s = some (.int z)) (h : (Jvm.Cond.not (Jvm.Cond.eq t (Jvm.Term.int (0 : Int32)))).before args s = true) : ¬ z = 0 := fun q => by
  have h1 := not_v (Cond.before_iff.mp h)
  subst q
  have h2 := eq_i e (Term.int_eval (args := args) (first := s) (o := none) (idx := []) (s := s) (0 : Int32)) rfl
  rw [h2] at h1; cases h1
theorem own_f8 (cs : List Int32) (w3 w54 w83 : Addr) : f8_0 cs w3 w54 w83 = if cs = own_nm1 then .ref w3 else if cs = own_nm2 then .ref w54 else if cs = own_nm3 then .ref w83 else .null := by
  unfold f8_0
  by_cases h1 : own_nm1 = cs
  · rw [if_pos h1, if_neg (by decide), if_pos h1.symm]
  · have h1' : ¬ cs = own_nm1 := fun q => h1 q.symm
    rw [if_neg h1, if_pos rfl, if_neg h1']
    by_cases h2 : own_nm2 = cs
    · rw [if_pos h2, if_neg (by decide), if_pos h2.symm]
    · have h2' : ¬ cs = own_nm2 := fun q => h2 q.symm
      rw [if_neg h2, if_pos rfl, if_neg h2']
      by_cases h3 : own_nm3 = cs
      · rw [if_pos h3, if_neg (by decide), if_pos h3.symm]
      · have h3' : ¬ cs = own_nm3 := fun q => h3 q.symm
        rw [if_neg h3, if_pos rfl, if_neg h3']
theorem own_251 (i0 i1 i2 i3 i4 : Int32) (w3 w54 w83 : Addr) (n : Int32) (li : List Int32) (hr : ∀ c ∈ li, own_R c) : f0_251 i0 i1 i2 i3 i4 w3 w54 w83 n li = 1 := by
  unfold f0_251
  simp only [own_narR (own_gR hr _)]
  generalize li.getD (0 : Int32).toNatClampNeg 0 = x0
  generalize li.getD (1 : Int32).toNatClampNeg 0 = x1
  generalize li.getD (2 : Int32).toNatClampNeg 0 = x2
  generalize li.getD (3 : Int32).toNatClampNeg 0 = x3
  generalize li.getD (4 : Int32).toNatClampNeg 0 = x4
  generalize li.getD (5 : Int32).toNatClampNeg 0 = x5
  by_cases n0 : n = 0
  · rw [if_pos n0, own_f8]; simp [own_nm1, own_nm2, own_nm3]
  rw [if_neg n0]
  by_cases n1 : n = 1
  · rw [if_pos n1, own_f8]; simp [own_nm1, own_nm2, own_nm3]
  rw [if_neg n1]
  by_cases n2 : n = 2
  · rw [if_pos n2, own_f8]; simp [own_nm1, own_nm2, own_nm3]
  rw [if_neg n2]
  by_cases n3 : n = 3
  · rw [if_pos n3]
    have e := own_f8 [x0, x1, x2] w3 w54 w83
    simp only [own_nm1, own_nm2, own_nm3, List.cons.injEq, and_true, and_false, if_false, reduceCtorEq] at e
    rw [e]
    by_cases h0 : x0 = 111 <;> by_cases h1 : x1 = 114 <;> by_cases h2 : x2 = 103 <;> simp [h0, h1, h2]
  rw [if_neg n3]
  by_cases n4 : n = 4
  · rw [if_pos n4]
    have e := own_f8 [x0, x1, x2, x3] w3 w54 w83
    simp only [own_nm1, own_nm2, own_nm3, List.cons.injEq, and_true, and_false, if_false, reduceCtorEq] at e
    rw [e]
    by_cases h0 : x0 = 110 <;> by_cases h1 : x1 = 97 <;> by_cases h2 : x2 = 109 <;> by_cases h3 : x3 = 101 <;> simp [h0, h1, h2, h3]
  rw [if_neg n4]
  by_cases n5 : n = 5
  · rw [if_pos n5]
    have e := own_f8 [x0, x1, x2, x3, x4] w3 w54 w83
    simp only [own_nm1, own_nm2, own_nm3, List.cons.injEq, and_true, and_false, if_false, reduceCtorEq] at e
    rw [e]
    by_cases h0 : x0 = 101 <;> by_cases h1 : x1 = 109 <;> by_cases h2 : x2 = 97 <;> by_cases h3 : x3 = 105 <;> by_cases h4 : x4 = 108 <;> simp [h0, h1, h2, h3, h4]
  rw [if_neg n5, own_f8]; simp [own_nm1, own_nm2, own_nm3]
theorem own_law (i0 i1 i2 i3 i4 : Int32) (w3 w54 w83 : Addr) : f0_0 i0 i1 i2 i3 i4 w3 w54 w83 = 1 := by
  unfold f0_0
  by_cases h1 : (i0 &&& (64 : Int32)) = (0 : Int32)
  · rw [if_pos h1]
    by_cases h2 : (i0 &&& (3 : Int32)) = (0 : Int32)
    · rw [if_pos h2]
      by_cases h3 : (i0 &&& (4 : Int32)) = (0 : Int32)
      · rw [if_pos h3]
        refine own_251 _ _ _ _ _ _ _ _ _ _ ?_; repeat (first | exact own_ln | refine own_lc (by unfold own_R; decide) ?_ | refine own_lc (own_c255 _) ?_ | refine own_rset ?_ (own_c255 _))
      · rw [if_neg h3]
        refine own_251 _ _ _ _ _ _ _ _ _ _ ?_; repeat (first | exact own_ln | refine own_lc (by unfold own_R; decide) ?_ | refine own_lc (own_c255 _) ?_ | refine own_rset ?_ (own_c255 _))
    · rw [if_neg h2]
      by_cases h3 : (i0 &&& (3 : Int32)) = (1 : Int32)
      · rw [if_pos h3]
        by_cases h4 : (i0 &&& (4 : Int32)) = (0 : Int32)
        · rw [if_pos h4]
          refine own_251 _ _ _ _ _ _ _ _ _ _ ?_; repeat (first | exact own_ln | refine own_lc (by unfold own_R; decide) ?_ | refine own_lc (own_c255 _) ?_ | refine own_rset ?_ (own_c255 _))
        · rw [if_neg h4]
          refine own_251 _ _ _ _ _ _ _ _ _ _ ?_; repeat (first | exact own_ln | refine own_lc (by unfold own_R; decide) ?_ | refine own_lc (own_c255 _) ?_ | refine own_rset ?_ (own_c255 _))
      · rw [if_neg h3]
        by_cases h4 : (i0 &&& (3 : Int32)) = (2 : Int32)
        · rw [if_pos h4]
          by_cases h5 : (i0 &&& (4 : Int32)) = (0 : Int32)
          · rw [if_pos h5]
            refine own_251 _ _ _ _ _ _ _ _ _ _ ?_; repeat (first | exact own_ln | refine own_lc (by unfold own_R; decide) ?_ | refine own_lc (own_c255 _) ?_ | refine own_rset ?_ (own_c255 _))
          · rw [if_neg h5]
            refine own_251 _ _ _ _ _ _ _ _ _ _ ?_; repeat (first | exact own_ln | refine own_lc (by unfold own_R; decide) ?_ | refine own_lc (own_c255 _) ?_ | refine own_rset ?_ (own_c255 _))
        · rw [if_neg h4]
          by_cases h5 : (i0 &&& (4 : Int32)) = (0 : Int32)
          · rw [if_pos h5]
            refine own_251 _ _ _ _ _ _ _ _ _ _ ?_; repeat (first | exact own_ln | refine own_lc (by unfold own_R; decide) ?_ | refine own_lc (own_c255 _) ?_ | refine own_rset ?_ (own_c255 _))
          · rw [if_neg h5]
            refine own_251 _ _ _ _ _ _ _ _ _ _ ?_; repeat (first | exact own_ln | refine own_lc (by unfold own_R; decide) ?_ | refine own_lc (own_c255 _) ?_ | refine own_rset ?_ (own_c255 _))
  · rw [if_neg h1]
    by_cases h2 : (i0 &&& (3 : Int32)) = (0 : Int32)
    · rw [if_pos h2]
      by_cases h3 : (i0 &&& (4 : Int32)) = (0 : Int32)
      · rw [if_pos h3]
        refine own_251 _ _ _ _ _ _ _ _ _ _ ?_; repeat (first | exact own_ln | refine own_lc (by unfold own_R; decide) ?_ | refine own_lc (own_c255 _) ?_ | refine own_rset ?_ (own_c255 _))
      · rw [if_neg h3]
        refine own_251 _ _ _ _ _ _ _ _ _ _ ?_; repeat (first | exact own_ln | refine own_lc (by unfold own_R; decide) ?_ | refine own_lc (own_c255 _) ?_ | refine own_rset ?_ (own_c255 _))
    · rw [if_neg h2]
      by_cases h3 : (i0 &&& (3 : Int32)) = (1 : Int32)
      · rw [if_pos h3]
        by_cases h4 : (i0 &&& (4 : Int32)) = (0 : Int32)
        · rw [if_pos h4]
          refine own_251 _ _ _ _ _ _ _ _ _ _ ?_; repeat (first | exact own_ln | refine own_lc (by unfold own_R; decide) ?_ | refine own_lc (own_c255 _) ?_ | refine own_rset ?_ (own_c255 _))
        · rw [if_neg h4]
          refine own_251 _ _ _ _ _ _ _ _ _ _ ?_; repeat (first | exact own_ln | refine own_lc (by unfold own_R; decide) ?_ | refine own_lc (own_c255 _) ?_ | refine own_rset ?_ (own_c255 _))
      · rw [if_neg h3]
        by_cases h4 : (i0 &&& (3 : Int32)) = (2 : Int32)
        · rw [if_pos h4]
          by_cases h5 : (i0 &&& (4 : Int32)) = (0 : Int32)
          · rw [if_pos h5]
            refine own_251 _ _ _ _ _ _ _ _ _ _ ?_; repeat (first | exact own_ln | refine own_lc (by unfold own_R; decide) ?_ | refine own_lc (own_c255 _) ?_ | refine own_rset ?_ (own_c255 _))
          · rw [if_neg h5]
            refine own_251 _ _ _ _ _ _ _ _ _ _ ?_; repeat (first | exact own_ln | refine own_lc (by unfold own_R; decide) ?_ | refine own_lc (own_c255 _) ?_ | refine own_rset ?_ (own_c255 _))
        · rw [if_neg h4]
          by_cases h5 : (i0 &&& (4 : Int32)) = (0 : Int32)
          · rw [if_pos h5]
            refine own_251 _ _ _ _ _ _ _ _ _ _ ?_; repeat (first | exact own_ln | refine own_lc (by unfold own_R; decide) ?_ | refine own_lc (own_c255 _) ?_ | refine own_rset ?_ (own_c255 _))
          · rw [if_neg h5]
            refine own_251 _ _ _ _ _ _ _ _ _ _ ?_; repeat (first | exact own_ln | refine own_lc (by unfold own_R; decide) ?_ | refine own_lc (own_c255 _) ?_ | refine own_rset ?_ (own_c255 _))

set_option maxRecDepth 65536 in
set_option maxHeartbeats 40000000 in
theorem comes_1 {Post : Tables → Env → Array Value → State → Outcome → State → Prop} (hpost : ∀ tb e args s v u, (limb_1_1.after args s (.returned v) u = true ∧ limb_1_2.after args s (.returned v) u = true ∧ True) → ReturnedEndW s (.returned v) u (Jvm.fieldLocs frame_1_writes args s ++ Jvm.arrayLocs frame_1_arrays args s ++ Jvm.staticLocs frame_1_statics s) 24 1152 → Post tb e args s (.returned v) u) :
    ArmFor flags0 classFile x code maxLocals ret World_1 tables_1 room_1 Calls_1 rest_1 Pre_1 Post := by
  intro l hfl _ _ p e ha hc hk s m args below hf hA hF happ hP
  obtain ⟨hcalls, hrest, hpre⟩ := hP
  obtain ⟨-, -, -, hnamed, -, -, -, hat⟩ := (Spec.applies_iff hf).mp happ
  obtain ⟨hg, hn⟩ := and_e (Cond.before_iff.mp (show (Jvm.Cond.and given_1 narrow_1).before args s = true from hpre))
  obtain ⟨g1, g2⟩ := and_e hg
  obtain ⟨g3, g4⟩ := and_e g2
  obtain ⟨g5, g6⟩ := and_e g4
  obtain ⟨g7, g8⟩ := and_e g6
  obtain ⟨g9, g10⟩ := and_e g8
  obtain ⟨w0, w1, w2, w3, w4, rfl⟩ : ∃ w0 w1 w2 w3 w4 : Value, args = #[w0, w1, w2, w3, w4] := by
    have hs : args.size = 5 := by simpa [Cond.value, given_1] using g1
    obtain ⟨L⟩ := args
    match L, hs with
    | [w0, w1, w2, w3, w4], _ => exact ⟨w0, w1, w2, w3, w4, rfl⟩
  have hw := fun d (hd : d ∈ tables_1) => atoms_spec (ws := Jvm.Cond.code x code maxLocals ret :: tables_1) hat d (List.mem_cons_of_mem _ hd)
  have hfit : Fit s := fun {y c} hc i hi => by
    obtain ⟨ha, rfl⟩ := Array.getElem?_eq_some_iff.mp hc
    have q := List.all_eq_true.mp ((Array.all_eq_true_iff_forall_mem.mp hF) _ (Array.getElem_mem ha)) i (List.mem_range.mpr hi)
    simpa [Array.getElem?_eq_getElem hi] using q
  obtain ⟨hS, hown0⟩ := atoms_of _ (rest_1_c_eq ▸ (show rest_1_c.before _ s = true from hrest))
  obtain ⟨i0, ei0⟩ := is_v g3
  obtain rfl : w0 = (.int i0) := Option.some.inj ei0
  obtain ⟨i1, ei1⟩ := is_v g5
  obtain rfl : w1 = (.int i1) := Option.some.inj ei1
  obtain ⟨i2, ei2⟩ := is_v g7
  obtain rfl : w2 = (.int i2) := Option.some.inj ei2
  obtain ⟨i3, ei3⟩ := is_v g9
  obtain rfl : w3 = (.int i3) := Option.some.inj ei3
  obtain ⟨i4, ei4⟩ := is_v g10
  obtain rfl : w4 = (.int i4) := Option.some.inj ei4
  obtain ⟨G1, eG1⟩ := is_v (Cond.before_iff.mp (hS _ (List.mem_of_getElem? (i := 1) rfl)))
  have O2 : Sta s s.heap "java/lang/String" "COMPACT_STRINGS" "Z" (.int G1) := Sta.start eG1 (Or.inl (hS _ (List.mem_of_getElem? (i := 0) rfl)))
  have P5 : ¬ (G1 = (0 : Int32)) := own_ne0 eG1 (hS _ (List.mem_of_getElem? (i := 2) rfl))
  obtain ⟨n1, n2⟩ := and_e hn
  obtain ⟨w3, e4⟩ := exa_v n1
  have S5 : Sta s s.heap "lomwright/lom/Entity$Part" "NAME" "Llomwright/lom/Entity$Part;" (.ref w3) := Sta.start e4 (Or.inr ⟨(hw _ (List.mem_of_getElem? (i := 35) rfl)), (hw _ (List.mem_of_getElem? (i := 36) rfl))⟩)
  have E6 : Exa s s.heap w3 "lomwright/lom/Entity$Part" := Exa.start e4 n1
  obtain ⟨n7, n8⟩ := and_e n2
  obtain ⟨w9, e10⟩ := arr_v n7
  have S11 : Sta s s.heap "lomwright/lom/Entity$Part" "ALL" "[Llomwright/lom/Entity$Part;" (.ref w9) := Sta.start e10 (Or.inr ⟨(hw _ (List.mem_of_getElem? (i := 35) rfl)), (hw _ (List.mem_of_getElem? (i := 41) rfl))⟩)
  obtain ⟨c13, A12⟩ := Arr.start e10 n7
  obtain ⟨n14, n15⟩ := and_e n8
  have e16 := eqv_i (Term.int_eval (3 : Int32)) n14
  obtain ⟨n17, n18⟩ := and_e n15
  have e19 := own_eqR e4 n17
  obtain ⟨n20, n21⟩ := and_e n18
  obtain ⟨w22, e23⟩ := exa_v n20
  have F24 : Fld s s.heap w3 "lomwright/lom/Entity$Part" "element" "Ljava/lang/String;" (.ref w22) := Fld.start ((fld_at e4).symm.trans e23)
  have E25 : Exa s s.heap w22 "java/lang/String" := Exa.start e23 n20
  obtain ⟨n26, n27⟩ := and_e n21
  have e28 := eqv_i (Term.int_eval (0 : Int32)) n26
  have F29 : Fld s s.heap w22 "java/lang/String" "coder" "B" (.int (0 : Int32)) := Fld.start ((fld_at e23).symm.trans e28)
  obtain ⟨n30, n31⟩ := and_e n27
  obtain ⟨w32, e33⟩ := arr_v n30
  have F34 : Fld s s.heap w22 "java/lang/String" "value" "[B" (.ref w32) := Fld.start ((fld_at e23).symm.trans e33)
  obtain ⟨c36, A35⟩ := Arr.start e33 n30
  obtain ⟨n37, n38⟩ := and_e n31
  have e39 := eqv_i (Term.int_eval (4 : Int32)) n37
  obtain ⟨n40, n41⟩ := and_e n38
  have e42 := eqv_i (Term.int_eval (110 : Int32)) n40
  obtain ⟨n43, n44⟩ := and_e n41
  have e45 := eqv_i (Term.int_eval (97 : Int32)) n43
  obtain ⟨n46, n47⟩ := and_e n44
  have e48 := eqv_i (Term.int_eval (109 : Int32)) n46
  obtain ⟨n49, n50⟩ := and_e n47
  have e51 := eqv_i (Term.int_eval (101 : Int32)) n49
  obtain ⟨n52, n53⟩ := and_e n50
  obtain ⟨w54, e55⟩ := exa_v n52
  have S56 : Sta s s.heap "lomwright/lom/Entity$Part" "ORG" "Llomwright/lom/Entity$Part;" (.ref w54) := Sta.start e55 (Or.inr ⟨(hw _ (List.mem_of_getElem? (i := 35) rfl)), (hw _ (List.mem_of_getElem? (i := 57) rfl))⟩)
  have E57 : Exa s s.heap w54 "lomwright/lom/Entity$Part" := Exa.start e55 n52
  obtain ⟨n58, n59⟩ := and_e n53
  have e60 := own_eqR e55 n58
  obtain ⟨n61, n62⟩ := and_e n59
  obtain ⟨w63, e64⟩ := exa_v n61
  have F65 : Fld s s.heap w54 "lomwright/lom/Entity$Part" "element" "Ljava/lang/String;" (.ref w63) := Fld.start ((fld_at e55).symm.trans e64)
  have E66 : Exa s s.heap w63 "java/lang/String" := Exa.start e64 n61
  obtain ⟨n67, n68⟩ := and_e n62
  have e69 := eqv_i (Term.int_eval (0 : Int32)) n67
  have F70 : Fld s s.heap w63 "java/lang/String" "coder" "B" (.int (0 : Int32)) := Fld.start ((fld_at e64).symm.trans e69)
  obtain ⟨n71, n72⟩ := and_e n68
  obtain ⟨w73, e74⟩ := arr_v n71
  have F75 : Fld s s.heap w63 "java/lang/String" "value" "[B" (.ref w73) := Fld.start ((fld_at e64).symm.trans e74)
  obtain ⟨c77, A76⟩ := Arr.start e74 n71
  obtain ⟨n78, n79⟩ := and_e n72
  have e80 := eqv_i (Term.int_eval (3 : Int32)) n78
  obtain ⟨n81, n82⟩ := and_e n79
  obtain ⟨w83, e84⟩ := exa_v n81
  have S85 : Sta s s.heap "lomwright/lom/Entity$Part" "EMAIL" "Llomwright/lom/Entity$Part;" (.ref w83) := Sta.start e84 (Or.inr ⟨(hw _ (List.mem_of_getElem? (i := 35) rfl)), (hw _ (List.mem_of_getElem? (i := 58) rfl))⟩)
  have E86 : Exa s s.heap w83 "lomwright/lom/Entity$Part" := Exa.start e84 n81
  obtain ⟨n87, n88⟩ := and_e n82
  have e89 := own_eqR e84 n87
  obtain ⟨n90, n91⟩ := and_e n88
  obtain ⟨w92, e93⟩ := exa_v n90
  have F94 : Fld s s.heap w83 "lomwright/lom/Entity$Part" "element" "Ljava/lang/String;" (.ref w92) := Fld.start ((fld_at e84).symm.trans e93)
  have E95 : Exa s s.heap w92 "java/lang/String" := Exa.start e93 n90
  obtain ⟨n96, n97⟩ := and_e n91
  have e98 := eqv_i (Term.int_eval (0 : Int32)) n96
  have F99 : Fld s s.heap w92 "java/lang/String" "coder" "B" (.int (0 : Int32)) := Fld.start ((fld_at e93).symm.trans e98)
  obtain ⟨n100, n101⟩ := and_e n97
  obtain ⟨w102, e103⟩ := arr_v n100
  have F104 : Fld s s.heap w92 "java/lang/String" "value" "[B" (.ref w102) := Fld.start ((fld_at e93).symm.trans e103)
  obtain ⟨c106, A105⟩ := Arr.start e103 n100
  obtain ⟨n107, n108⟩ := and_e n101
  have e109 := eqv_i (Term.int_eval (5 : Int32)) n107
  obtain ⟨n110, n111⟩ := and_e n108
  have e112 := eqv_i (Term.int_eval (111 : Int32)) n110
  obtain ⟨n113, n114⟩ := and_e n111
  have e115 := eqv_i (Term.int_eval (114 : Int32)) n113
  obtain ⟨n116, n117⟩ := and_e n114
  have e118 := eqv_i (Term.int_eval (103 : Int32)) n116
  obtain ⟨n119, n120⟩ := and_e n117
  have e121 := eqv_i (Term.int_eval (101 : Int32)) n119
  obtain ⟨n122, n123⟩ := and_e n120
  have e124 := eqv_i (Term.int_eval (109 : Int32)) n122
  obtain ⟨n125, n126⟩ := and_e n123
  have e127 := eqv_i (Term.int_eval (97 : Int32)) n125
  obtain ⟨n128, n129⟩ := and_e n126
  have e130 := eqv_i (Term.int_eval (105 : Int32)) n128
  have e131 := eqv_i (Term.int_eval (108 : Int32)) n129
  have hA133 : s.arrayAt? w9 = some c13 := A12.fin (Vm.Alike.refl _)
  have ql132 := own_len2 e10 A12 e16
  have V134 : Arv s s.heap w9 c13.cls (.object "lomwright/lom/Entity$Part") (3 : Int32) [(.ref w3), (.ref w54), (.ref w83)] .null := Arv.start hfit A12 ql132.1 ql132.2 (by decide) rfl ⟨(elem_f e10 (Term.int_eval (0 : Int32)) hA133 (by decide)).symm.trans e19, (elem_f e10 (Term.int_eval (1 : Int32)) hA133 (by decide)).symm.trans e60, (elem_f e10 (Term.int_eval (2 : Int32)) hA133 (by decide)).symm.trans e89, trivial⟩
  have hA136 : s.arrayAt? w32 = some c36 := A35.fin (Vm.Alike.refl _)
  have ql135 := own_len2 e33 A35 e39
  have V137 : Arv s s.heap w32 c36.cls .byte (4 : Int32) [(.int (110 : Int32)), (.int (97 : Int32)), (.int (109 : Int32)), (.int (101 : Int32))] (.int 0) := Arv.start hfit A35 ql135.1 ql135.2 (by decide) rfl ⟨(elem_f e33 (Term.int_eval (0 : Int32)) hA136 (by decide)).symm.trans e42, (elem_f e33 (Term.int_eval (1 : Int32)) hA136 (by decide)).symm.trans e45, (elem_f e33 (Term.int_eval (2 : Int32)) hA136 (by decide)).symm.trans e48, (elem_f e33 (Term.int_eval (3 : Int32)) hA136 (by decide)).symm.trans e51, trivial⟩
  have hA139 : s.arrayAt? w73 = some c77 := A76.fin (Vm.Alike.refl _)
  have ql138 := own_len2 e74 A76 e80
  have V140 : Arv s s.heap w73 c77.cls .byte (3 : Int32) [(.int (111 : Int32)), (.int (114 : Int32)), (.int (103 : Int32))] (.int 0) := Arv.start hfit A76 ql138.1 ql138.2 (by decide) rfl ⟨(elem_f e74 (Term.int_eval (0 : Int32)) hA139 (by decide)).symm.trans e112, (elem_f e74 (Term.int_eval (1 : Int32)) hA139 (by decide)).symm.trans e115, (elem_f e74 (Term.int_eval (2 : Int32)) hA139 (by decide)).symm.trans e118, trivial⟩
  have hA142 : s.arrayAt? w102 = some c106 := A105.fin (Vm.Alike.refl _)
  have ql141 := own_len2 e103 A105 e109
  have V143 : Arv s s.heap w102 c106.cls .byte (5 : Int32) [(.int (101 : Int32)), (.int (109 : Int32)), (.int (97 : Int32)), (.int (105 : Int32)), (.int (108 : Int32))] (.int 0) := Arv.start hfit A105 ql141.1 ql141.2 (by decide) rfl ⟨(elem_f e103 (Term.int_eval (0 : Int32)) hA142 (by decide)).symm.trans e121, (elem_f e103 (Term.int_eval (1 : Int32)) hA142 (by decide)).symm.trans e124, (elem_f e103 (Term.int_eval (2 : Int32)) hA142 (by decide)).symm.trans e127, (elem_f e103 (Term.int_eval (3 : Int32)) hA142 (by decide)).symm.trans e130, (elem_f e103 (Term.int_eval (4 : Int32)) hA142 (by decide)).symm.trans e131, trivial⟩
  obtain ⟨n, o, h1, h2, h3, _, L, rfl, ⟨rfl, N, -⟩, hq⟩ := rm0 l s _ hw tables_1 i0 i1 i2 i3 i4 G1 w3 w54 w83 w9 w22 w63 w92 w32 w73 w102 c13.cls c36.cls c77.cls c106.cls s.heap s.heap.size (Nat.le_refl _) (Old.start s) O2 P5 S5 S56 S85 S11 F24 E25 F29 F34 F65 E66 F70 F75 F94 E95 F99 F104 V134 V137 V140 V143 p e ha hc hk s m _ below hf ((Spec.applies_iff_loose hf).mp happ).1 ⟨rfl, State.Warmed39.refl s, rfl, CHv.start (own_EW hw) (fun p hp => hcalls.1 p hp) (hS _ (List.mem_of_getElem? (i := 2) rfl)) (hw _ (List.mem_of_getElem? (i := 23) rfl)) (hw _ (List.mem_of_getElem? (i := 6) rfl))⟩ trivial
  refine ⟨n, _, h1, h2, h3, hpost _ _ _ _ _ _ ⟨Cond.after_iff.mpr rfl, Cond.after_iff.mpr (eq_i res_at (Term.int_eval (1)) (congrArg Value.int (own_law i0 i1 i2 i3 i4 w3 w54 w83))), trivial⟩ ⟨hq.1, hq.2.1, hq.2.2.1, (hq.2.2.2.sift fun y hy => Or.inr (N y hy)).mono (by decide) (by decide)⟩⟩
theorem main_1_1 : Claimed_1_1 := comes_1 fun _ _ _ _ _ _ h hF => ⟨h.1, hF⟩
theorem main_1_2 : Claimed_1_2 := comes_1 fun _ _ _ _ _ _ h hF => ⟨h.2.1, hF⟩
end Jvm.Pilot.@@N@@
namespace Jvm.Pilot.@@N@@
open Jvm Jvm.ClassFile Sem Op Lib Jvm.Free Jvm.Stand Jvm.Pilot.@@N@@.Jvm.D
/-! MADE BY PROGRAM (witnessworld.py) out of the Statement's table words and the real class files: 22 classes; the members and pool entries that the words name. The judged class is class 1, her method 1. -/
namespace start1
open Jvm.ClassFile
def u (s : String) : CpInfo := .utf8 (stringToUtf16 s)
/-- a pool by its gaps: so many unusable entries, then the entry; so many at the end -/
def gap : Nat → List CpInfo → List CpInfo
  | 0, r => r
  | n + 1, r => .unusable :: gap n r
def poolList (es : List (Nat × CpInfo)) (last : Nat) : List CpInfo := es.foldr (fun e r => gap e.1 (e.2 :: r)) (gap last [])
def pool (es : List (Nat × CpInfo)) (last : Nat) : Array CpInfo := ⟨poolList es last⟩
def fileOf (pool : Array CpInfo) (this : Nat) (attrs : Array Attribute := #[]) (ms : Array MethodInfo := #[]) (fl : Nat := 33) (sup : Nat := 0) (ifs : Array Nat := #[]) (fds : Array FieldInfo := #[]) : ClassFile where
  minorVersion := 0
  majorVersion := 65
  constantPool := pool
  accessFlags := fl
  thisClass := this
  superClass := sup
  interfaces := ifs
  fields := fds
  methods := ms
  attributes := attrs
def plain (name : String) (sup : Option ClassId) : Class where
  name := name
  kind := .ordinary
  loader := none
  accessFlags := 33
  super := sup
  interfaces := #[]
  cf := none
  fields := #[]
  methods := #[]
  instanceTypes := #[]
  staticTypes := #[]
  resolved := #[]
  callSites := []
  init := .initialized
  statics := none
  mirror := none

def pool0 : Array CpInfo := pool [(5, u "<init>"), (0, u "()V"), (1, .class_ 10), (1, u "java/lang/Object")] 113

def k0c0 : Code := { maxStack := 0, maxLocals := 1, code := object_method_1_code, exceptionTable := #[], attributes := #[] }
def k0m0 : Method := { name := "<init>", desc := "()V", sig := { parameters := [], returnType := none }, accessFlags := 1, code := some k0c0 }
/-- java/lang/Object -/
def k0 : Class := { plain "java/lang/Object" none with
  accessFlags := 33
  interfaces := #[]
  cf := some (fileOf pool0 8 #[] #[{ accessFlags := 1, nameIndex := 5, descriptorIndex := 6, attributes := #[] }] 33 0 #[] #[])
  fields := #[]
  methods := #[k0m0]
  instanceTypes := #[]
  staticTypes := #[]
  resolved := Array.replicate 124 none
  statics := none }

def pool1 : Array CpInfo := pool [(2, .class_ 4), (1, u "java/lang/Object"), (0, u "<init>"), (0, u "()V"), (0, .integer 2147483647), (0, .methodref 9 10), (0, .class_ 11), (0, .nameAndType 12 13), (0, u "lomwright/lom/PartOfPinLaw"), (0, u "text"), (0, u "([CI)Ljava/lang/String;"), (0, .fieldref 15 16), (0, .class_ 17), (0, .nameAndType 18 19), (0, u "lomwright/lom/Entity$Part"), (0, u "NAME"), (0, u "Llomwright/lom/Entity$Part;"), (0, .fieldref 15 21), (0, .nameAndType 22 19), (0, u "ORG"), (0, .fieldref 15 24), (0, .nameAndType 25 19), (0, u "EMAIL"), (0, .methodref 15 27), (0, .nameAndType 28 29), (0, u "of"), (0, u "(Ljava/lang/String;)Llomwright/lom/Entity$Part;"), (0, .class_ 31), (0, u "java/lang/String"), (0, .methodref 30 33), (0, .nameAndType 5 34), (0, u "([C)V"), (2, u "law"), (0, u "(IIIII)Z")] 9

def k1m0 : Method := { name := "<init>", desc := "()V", sig := { parameters := [], returnType := none }, accessFlags := 2, code := none }
def k1c1 : Code := { maxStack := 4, maxLocals := 11, code := code, exceptionTable := #[], attributes := #[] }
def k1m1 : Method := { name := "law", desc := "(IIIII)Z", sig := { parameters := [.int, .int, .int, .int, .int], returnType := some .boolean }, accessFlags := 9, code := some k1c1 }
def k1c2 : Code := { maxStack := 7, maxLocals := 2, code := method_3_code, exceptionTable := #[], attributes := #[] }
def k1m2 : Method := { name := "text", desc := "([CI)Ljava/lang/String;", sig := { parameters := [(.array .char), .int], returnType := some (.object "java/lang/String") }, accessFlags := 10, code := some k1c2 }
/-- lomwright/lom/PartOfPinLaw -/
def k1 : Class := { plain "lomwright/lom/PartOfPinLaw" (some 0) with
  accessFlags := 49
  interfaces := #[]
  cf := some (fileOf pool1 9 #[] #[{ accessFlags := 2, nameIndex := 5, descriptorIndex := 6, attributes := #[] }, { accessFlags := 9, nameIndex := 37, descriptorIndex := 38, attributes := #[] }, { accessFlags := 10, nameIndex := 12, descriptorIndex := 13, attributes := #[] }] 49 2 #[] #[])
  fields := #[]
  methods := #[k1m0, k1m1, k1m2]
  instanceTypes := #[]
  staticTypes := #[]
  resolved := Array.replicate 48 none
  statics := none }

def pool2 : Array CpInfo := pool [(1, .class_ 2), (0, u "java/io/Serializable"), (0, .class_ 4), (0, u "java/lang/Object")] 2

/-- java/io/Serializable -/
def k2 : Class := { plain "java/io/Serializable" (some 0) with
  accessFlags := 1537
  interfaces := #[]
  cf := some (fileOf pool2 1 #[] #[] 1537 3 #[] #[])
  fields := #[]
  methods := #[]
  instanceTypes := #[]
  staticTypes := #[]
  resolved := Array.replicate 7 none
  statics := none }

def pool3 : Array CpInfo := pool [(1, .class_ 2), (0, u "java/lang/Comparable"), (0, .class_ 4), (0, u "java/lang/Object")] 7

/-- java/lang/Comparable -/
def k3 : Class := { plain "java/lang/Comparable" (some 0) with
  accessFlags := 1537
  interfaces := #[]
  cf := some (fileOf pool3 1 #[] #[] 1537 3 #[] #[])
  fields := #[]
  methods := #[]
  instanceTypes := #[]
  staticTypes := #[]
  resolved := Array.replicate 12 none
  statics := none }

def pool4 : Array CpInfo := pool [(2, .class_ 4), (1, u "java/lang/CharSequence"), (42, .class_ 48), (0, u "java/lang/CharSequence$1CodePointIterator"), (10, .class_ 60), (0, u "java/lang/CharSequence$1CharIterator"), (5, .class_ 67), (0, u "java/lang/Object")] 63

/-- java/lang/CharSequence -/
def k4 : Class := { plain "java/lang/CharSequence" (some 0) with
  accessFlags := 1537
  interfaces := #[]
  cf := some (fileOf pool4 2 #[.nestMembers #[47, 59]] #[] 1537 66 #[] #[])
  fields := #[]
  methods := #[]
  instanceTypes := #[]
  staticTypes := #[]
  resolved := Array.replicate 131 none
  statics := none }

def pool5 : Array CpInfo := pool [(1, .class_ 2), (0, u "java/lang/constant/Constable"), (0, .class_ 4), (0, u "java/lang/Object")] 6

/-- java/lang/constant/Constable -/
def k5 : Class := { plain "java/lang/constant/Constable" (some 0) with
  accessFlags := 1537
  interfaces := #[]
  cf := some (fileOf pool5 1 #[] #[] 1537 3 #[] #[])
  fields := #[]
  methods := #[]
  instanceTypes := #[]
  staticTypes := #[]
  resolved := Array.replicate 11 none
  statics := none }

def pool6 : Array CpInfo := pool [(1, .class_ 2), (0, u "java/lang/constant/ConstantDesc"), (0, .class_ 4), (0, u "java/lang/Object")] 32

/-- java/lang/constant/ConstantDesc -/
def k6 : Class := { plain "java/lang/constant/ConstantDesc" (some 0) with
  accessFlags := 1537
  interfaces := #[]
  cf := some (fileOf pool6 1 #[] #[] 1537 3 #[] #[])
  fields := #[]
  methods := #[]
  instanceTypes := #[]
  staticTypes := #[]
  resolved := Array.replicate 37 none
  statics := none }

def pool7 : Array CpInfo := pool [(1, .methodref 2 3), (0, .class_ 4), (0, .nameAndType 5 6), (0, u "java/lang/Object"), (0, u "<init>"), (0, u "()V"), (0, .string 8), (0, u ""), (0, .fieldref 10 11), (0, .class_ 12), (0, .nameAndType 13 14), (0, u "java/lang/String"), (0, u "value"), (0, u "[B"), (0, .fieldref 10 16), (0, .nameAndType 17 18), (0, u "coder"), (0, u "B"), (2, u "hash"), (0, u "I"), (2, u "hashIsZero"), (0, u "Z"), (0, .methodref 10 28), (0, .nameAndType 5 29), (0, u "([CIILjava/lang/Void;)V"), (8, .fieldref 10 39), (0, .nameAndType 40 26), (0, u "COMPACT_STRINGS"), (1, .class_ 44), (1, u "java/lang/StringUTF16"), (0, u "compress"), (1, .methodref 42 48), (0, .nameAndType 49 50), (0, u "coderFromArrayLen"), (0, u "([BI)B"), (56, .class_ 109), (1, u "java/lang/StringLatin1"), (67, .methodref 42 178), (0, .nameAndType 45 179), (0, u "([CII)[B"), (361, .methodref 107 542), (0, .nameAndType 543 544), (0, u "equals"), (0, u "([B[B)Z"), (28, u "(Ljava/lang/Object;)Z"), (1, .class_ 576), (0, u "java/lang/CharSequence"), (22, u "CASE_INSENSITIVE_ORDER"), (0, u "Ljava/util/Comparator;"), (409, u "([C)V"), (90, u "serialPersistentFields"), (0, u "[Ljava/io/ObjectStreamField;"), (0, .class_ 1104), (0, u "java/lang/String$CaseInsensitiveComparator"), (1, .class_ 1107), (0, u "java/io/Serializable"), (0, .class_ 1109), (0, u "java/lang/Comparable"), (0, .class_ 1111), (0, u "java/lang/constant/Constable"), (0, .class_ 1113), (0, u "java/lang/constant/ConstantDesc"), (2, u "serialVersionUID"), (0, u "J"), (3, u "REPL"), (0, u "C"), (2, u "LATIN1"), (1, u "UTF16")] 323

def k7m0 : Method := { name := "<init>", desc := "()V", sig := { parameters := [], returnType := none }, accessFlags := 1, code := none }
def k7c1 : Code := { maxStack := 5, maxLocals := 2, code := jdk_42_method_3_code, exceptionTable := #[], attributes := #[] }
def k7m1 : Method := { name := "<init>", desc := "([C)V", sig := { parameters := [(.array .char)], returnType := none }, accessFlags := 1, code := some k7c1 }
def k7c2 : Code := { maxStack := 2, maxLocals := 3, code := jdk_42_method_66_code, exceptionTable := #[], attributes := #[] }
def k7m2 : Method := { name := "equals", desc := "(Ljava/lang/Object;)Z", sig := { parameters := [(.object "java/lang/Object")], returnType := some .boolean }, accessFlags := 1, code := some k7c2 }
def k7c3 : Code := { maxStack := 4, maxLocals := 6, code := jdk_42_method_149_code, exceptionTable := #[], attributes := #[] }
def k7m3 : Method := { name := "<init>", desc := "([CIILjava/lang/Void;)V", sig := { parameters := [(.array .char), .int, .int, (.object "java/lang/Void")], returnType := none }, accessFlags := 2, code := some k7c3 }
/-- java/lang/String -/
def k7 : Class := { plain "java/lang/String" (some 0) with
  accessFlags := 49
  interfaces := #[2, 3, 4, 5, 6]
  cf := some (fileOf pool7 10 #[.nestMembers #[1103]] #[{ accessFlags := 1, nameIndex := 5, descriptorIndex := 6, attributes := #[] }, { accessFlags := 1, nameIndex := 5, descriptorIndex := 1010, attributes := #[] }, { accessFlags := 1, nameIndex := 543, descriptorIndex := 573, attributes := #[] }, { accessFlags := 2, nameIndex := 5, descriptorIndex := 29, attributes := #[] }] 49 2 #[1106, 1108, 575, 1110, 1112] #[{ accessFlags := 18, nameIndex := 13, descriptorIndex := 14, attributes := #[] }, { accessFlags := 18, nameIndex := 17, descriptorIndex := 18, attributes := #[] }, { accessFlags := 2, nameIndex := 21, descriptorIndex := 22, attributes := #[] }, { accessFlags := 2, nameIndex := 25, descriptorIndex := 26, attributes := #[] }, { accessFlags := 26, nameIndex := 1116, descriptorIndex := 1117, attributes := #[] }, { accessFlags := 24, nameIndex := 40, descriptorIndex := 26, attributes := #[] }, { accessFlags := 26, nameIndex := 1101, descriptorIndex := 1102, attributes := #[] }, { accessFlags := 26, nameIndex := 1121, descriptorIndex := 1122, attributes := #[] }, { accessFlags := 25, nameIndex := 599, descriptorIndex := 600, attributes := #[] }, { accessFlags := 24, nameIndex := 1125, descriptorIndex := 18, attributes := #[] }, { accessFlags := 24, nameIndex := 1127, descriptorIndex := 18, attributes := #[] }])
  fields := #[{ name := "value", type := (.array .byte), accessFlags := 18, slot := 0, constantValue := 0 }, { name := "coder", type := .byte, accessFlags := 18, slot := 1, constantValue := 0 }, { name := "hash", type := .int, accessFlags := 2, slot := 2, constantValue := 0 }, { name := "hashIsZero", type := .boolean, accessFlags := 2, slot := 3, constantValue := 0 }, { name := "serialVersionUID", type := .long, accessFlags := 26, slot := 0, constantValue := 0 }, { name := "COMPACT_STRINGS", type := .boolean, accessFlags := 24, slot := 1, constantValue := 0 }, { name := "serialPersistentFields", type := (.array (.object "java/io/ObjectStreamField")), accessFlags := 26, slot := 2, constantValue := 0 }, { name := "REPL", type := .char, accessFlags := 26, slot := 3, constantValue := 0 }, { name := "CASE_INSENSITIVE_ORDER", type := (.object "java/util/Comparator"), accessFlags := 25, slot := 4, constantValue := 0 }, { name := "LATIN1", type := .byte, accessFlags := 24, slot := 5, constantValue := 0 }, { name := "UTF16", type := .byte, accessFlags := 24, slot := 6, constantValue := 0 }]
  methods := #[k7m0, k7m1, k7m2, k7m3]
  instanceTypes := #[(.array .byte), .byte, .int, .boolean]
  staticTypes := #[.long, .boolean, (.array (.object "java/io/ObjectStreamField")), .char, (.object "java/util/Comparator"), .byte, .byte]
  resolved := Array.replicate 1451 none
  statics := some 0 }

def pool8 : Array CpInfo := pool [(6, .class_ 8), (1, u "java/lang/Object"), (0, u "<init>"), (0, u "()V"), (1, .class_ 14), (1, u "java/lang/StringUTF16"), (31, u "$assertionsDisabled"), (0, u "Z"), (13, u "HI_BYTE_SHIFT"), (0, u "I"), (2, u "LO_BYTE_SHIFT"), (49, .methodref 12 116), (0, .nameAndType 117 118), (0, u "compress"), (0, u "([CI[BII)I"), (3, u "([CII)[B"), (138, u "coderFromArrayLen"), (0, u "([BI)B"), (106, .class_ 371), (1, u "java/lang/StringUTF16$LinesSpliterator"), (58, u "MAX_LENGTH"), (196, .class_ 628), (0, u "java/lang/StringUTF16$CodePointsSpliterator"), (0, .class_ 630), (0, u "java/lang/StringUTF16$CharsSpliterator")] 4

def k8m0 : Method := { name := "<init>", desc := "()V", sig := { parameters := [], returnType := none }, accessFlags := 0, code := none }
def k8c1 : Code := { maxStack := 2, maxLocals := 2, code := jdk_52_method_15_code, exceptionTable := #[], attributes := #[] }
def k8m1 : Method := { name := "coderFromArrayLen", desc := "([BI)B", sig := { parameters := [(.array .byte), .int], returnType := some .byte }, accessFlags := 8, code := some k8c1 }
def k8c2 : Code := { maxStack := 5, maxLocals := 6, code := jdk_52_method_16_code, exceptionTable := #[], attributes := #[] }
def k8m2 : Method := { name := "compress", desc := "([CII)[B", sig := { parameters := [(.array .char), .int, .int], returnType := some (.array .byte) }, accessFlags := 9, code := some k8c2 }
def k8c3 : Code := { maxStack := 3, maxLocals := 7, code := jdk_52_method_21_code, exceptionTable := #[], attributes := #[] }
def k8m3 : Method := { name := "compress", desc := "([CI[BII)I", sig := { parameters := [(.array .char), .int, (.array .byte), .int, .int], returnType := some .int }, accessFlags := 9, code := some k8c3 }
/-- java/lang/StringUTF16 -/
def k8 : Class := { plain "java/lang/StringUTF16" (some 0) with
  accessFlags := 48
  interfaces := #[]
  cf := some (fileOf pool8 12 #[.nestMembers #[627, 629, 369]] #[{ accessFlags := 0, nameIndex := 9, descriptorIndex := 10, attributes := #[] }, { accessFlags := 8, nameIndex := 261, descriptorIndex := 262, attributes := #[] }, { accessFlags := 9, nameIndex := 117, descriptorIndex := 122, attributes := #[] }, { accessFlags := 9, nameIndex := 117, descriptorIndex := 118, attributes := #[] }] 48 6 #[] #[{ accessFlags := 26, nameIndex := 61, descriptorIndex := 62, attributes := #[] }, { accessFlags := 26, nameIndex := 65, descriptorIndex := 62, attributes := #[] }, { accessFlags := 24, nameIndex := 430, descriptorIndex := 62, attributes := #[] }, { accessFlags := 4120, nameIndex := 46, descriptorIndex := 47, attributes := #[] }])
  fields := #[{ name := "HI_BYTE_SHIFT", type := .int, accessFlags := 26, slot := 0, constantValue := 0 }, { name := "LO_BYTE_SHIFT", type := .int, accessFlags := 26, slot := 1, constantValue := 0 }, { name := "MAX_LENGTH", type := .int, accessFlags := 24, slot := 2, constantValue := 0 }, { name := "$assertionsDisabled", type := .boolean, accessFlags := 4120, slot := 3, constantValue := 0 }]
  methods := #[k8m0, k8m1, k8m2, k8m3]
  instanceTypes := #[]
  staticTypes := #[.int, .int, .int, .boolean]
  resolved := Array.replicate 635 none
  statics := none }

def pool9 : Array CpInfo := pool [(2, .class_ 4), (1, u "java/lang/Enum"), (0, u "name"), (0, u "Ljava/lang/String;"), (2, u "ordinal"), (0, u "I"), (1, .class_ 14), (1, u "java/lang/Object"), (4, u "hash"), (86, .class_ 108), (1, u "java/lang/Enum$EnumDesc"), (2, .class_ 112), (0, u "java/lang/constant/Constable"), (0, .class_ 114), (0, u "java/lang/Comparable"), (0, .class_ 116), (0, u "java/io/Serializable")] 87

/-- java/lang/Enum -/
def k9 : Class := { plain "java/lang/Enum" (some 0) with
  accessFlags := 1057
  interfaces := #[5, 3, 2]
  cf := some (fileOf pool9 2 #[.nestMembers #[106]] #[] 1057 12 #[111, 113, 115] #[{ accessFlags := 18, nameIndex := 5, descriptorIndex := 6, attributes := #[] }, { accessFlags := 18, nameIndex := 9, descriptorIndex := 10, attributes := #[] }, { accessFlags := 2, nameIndex := 19, descriptorIndex := 10, attributes := #[] }])
  fields := #[{ name := "name", type := (.object "java/lang/String"), accessFlags := 18, slot := 0, constantValue := 0 }, { name := "ordinal", type := .int, accessFlags := 18, slot := 1, constantValue := 0 }, { name := "hash", type := .int, accessFlags := 2, slot := 2, constantValue := 0 }]
  methods := #[]
  instanceTypes := #[(.object "java/lang/String"), .int, .int]
  staticTypes := #[]
  resolved := Array.replicate 204 none
  statics := none }

def pool10 : Array CpInfo := pool [(1, .class_ 2), (0, u "lomwright/lom/Entity$Part"), (2, u "NAME"), (0, u "Llomwright/lom/Entity$Part;"), (2, u "ORG"), (2, u "EMAIL"), (2, u "$VALUES"), (0, u "[Llomwright/lom/Entity$Part;"), (6, .class_ 25), (1, u "java/lang/Enum"), (8, u "property"), (0, u "Ljava/lang/String;"), (11, .class_ 49), (1, u "java/lang/String"), (2, .fieldref 1 53), (0, .nameAndType 54 35), (0, u "element"), (0, .fieldref 1 56), (0, .nameAndType 57 16), (0, u "ALL"), (0, .methodref 47 59), (0, .nameAndType 60 61), (0, u "equals"), (0, u "(Ljava/lang/Object;)Z"), (17, u "(Ljava/lang/String;)Llomwright/lom/Entity$Part;"), (3, u "of"), (7, .class_ 92), (0, u "lomwright/lom/Entity")] 2

def k10c0 : Code := { maxStack := 2, maxLocals := 5, code := prog_50_method_6_code, exceptionTable := #[], attributes := #[] }
def k10m0 : Method := { name := "of", desc := "(Ljava/lang/String;)Llomwright/lom/Entity$Part;", sig := { parameters := [(.object "java/lang/String")], returnType := some (.object "lomwright/lom/Entity$Part") }, accessFlags := 8, code := some k10c0 }
/-- lomwright/lom/Entity$Part -/
def k10 : Class := { plain "lomwright/lom/Entity$Part" (some 9) with
  accessFlags := 16432
  interfaces := #[]
  cf := some (fileOf pool10 1 #[.nestHost 91] #[{ accessFlags := 8, nameIndex := 83, descriptorIndex := 79, attributes := #[] }] 16432 23 #[] #[{ accessFlags := 16409, nameIndex := 5, descriptorIndex := 6, attributes := #[] }, { accessFlags := 16409, nameIndex := 9, descriptorIndex := 6, attributes := #[] }, { accessFlags := 16409, nameIndex := 12, descriptorIndex := 6, attributes := #[] }, { accessFlags := 26, nameIndex := 57, descriptorIndex := 16, attributes := #[] }, { accessFlags := 18, nameIndex := 34, descriptorIndex := 35, attributes := #[] }, { accessFlags := 18, nameIndex := 54, descriptorIndex := 35, attributes := #[] }, { accessFlags := 4122, nameIndex := 15, descriptorIndex := 16, attributes := #[] }])
  fields := #[{ name := "NAME", type := (.object "lomwright/lom/Entity$Part"), accessFlags := 16409, slot := 0, constantValue := 0 }, { name := "ORG", type := (.object "lomwright/lom/Entity$Part"), accessFlags := 16409, slot := 1, constantValue := 0 }, { name := "EMAIL", type := (.object "lomwright/lom/Entity$Part"), accessFlags := 16409, slot := 2, constantValue := 0 }, { name := "ALL", type := (.array (.object "lomwright/lom/Entity$Part")), accessFlags := 26, slot := 3, constantValue := 0 }, { name := "property", type := (.object "java/lang/String"), accessFlags := 18, slot := 3, constantValue := 0 }, { name := "element", type := (.object "java/lang/String"), accessFlags := 18, slot := 4, constantValue := 0 }, { name := "$VALUES", type := (.array (.object "lomwright/lom/Entity$Part")), accessFlags := 4122, slot := 4, constantValue := 0 }]
  methods := #[k10m0]
  instanceTypes := #[(.object "java/lang/String"), .int, .int, (.object "java/lang/String"), (.object "java/lang/String")]
  staticTypes := #[(.object "lomwright/lom/Entity$Part"), (.object "lomwright/lom/Entity$Part"), (.object "lomwright/lom/Entity$Part"), (.array (.object "lomwright/lom/Entity$Part")), (.array (.object "lomwright/lom/Entity$Part"))]
  resolved := Array.replicate 95 none
  statics := some 1 }

def pool11 : Array CpInfo := pool [(4, .class_ 6), (1, u "java/lang/Object"), (0, u "<init>"), (0, u "()V"), (5, .class_ 16), (1, u "java/lang/StringLatin1"), (104, u "$assertionsDisabled"), (0, u "Z"), (98, .class_ 223), (1, u "java/lang/StringLatin1$LinesSpliterator"), (57, u "equals"), (0, u "([B[B)Z"), (107, .class_ 391), (0, u "java/lang/StringLatin1$CharsSpliterator")] 3

def k11m0 : Method := { name := "<init>", desc := "()V", sig := { parameters := [], returnType := none }, accessFlags := 0, code := none }
def k11c1 : Code := { maxStack := 3, maxLocals := 3, code := jdk_43_method_13_code, exceptionTable := #[], attributes := #[] }
def k11m1 : Method := { name := "equals", desc := "([B[B)Z", sig := { parameters := [(.array .byte), (.array .byte)], returnType := some .boolean }, accessFlags := 9, code := some k11c1 }
/-- java/lang/StringLatin1 -/
def k11 : Class := { plain "java/lang/StringLatin1" (some 0) with
  accessFlags := 48
  interfaces := #[]
  cf := some (fileOf pool11 14 #[.nestMembers #[390, 221]] #[{ accessFlags := 0, nameIndex := 7, descriptorIndex := 8, attributes := #[] }, { accessFlags := 9, nameIndex := 281, descriptorIndex := 282, attributes := #[] }] 48 4 #[] #[{ accessFlags := 4120, nameIndex := 121, descriptorIndex := 122, attributes := #[] }])
  fields := #[{ name := "$assertionsDisabled", type := .boolean, accessFlags := 4120, slot := 0, constantValue := 0 }]
  methods := #[k11m0, k11m1]
  instanceTypes := #[]
  staticTypes := #[.boolean]
  resolved := Array.replicate 395 none
  statics := none }

def pool12 : Array CpInfo := pool [(2, .class_ 4), (1, u "java/lang/Object"), (0, u "<init>"), (0, u "()V"), (17, .class_ 26), (1, u "jdk/internal/util/Preconditions"), (28, .class_ 56), (0, u "jdk/internal/util/Preconditions$4"), (57, .class_ 115), (0, u "jdk/internal/util/Preconditions$1"), (7, u "SIOOBE_FORMATTER"), (0, u "Ljava/util/function/BiFunction;"), (0, .class_ 126), (0, u "jdk/internal/util/Preconditions$2"), (3, u "AIOOBE_FORMATTER"), (0, .class_ 132), (0, u "jdk/internal/util/Preconditions$3"), (3, u "IOOBE_FORMATTER")] 57

def k12m0 : Method := { name := "<init>", desc := "()V", sig := { parameters := [], returnType := none }, accessFlags := 1, code := none }
/-- jdk/internal/util/Preconditions -/
def k12 : Class := { plain "jdk/internal/util/Preconditions" (some 0) with
  accessFlags := 33
  interfaces := #[]
  cf := some (fileOf pool12 24 #[.nestMembers #[55, 131, 125, 114]] #[{ accessFlags := 1, nameIndex := 5, descriptorIndex := 6, attributes := #[] }] 33 2 #[] #[{ accessFlags := 25, nameIndex := 123, descriptorIndex := 124, attributes := #[] }, { accessFlags := 25, nameIndex := 130, descriptorIndex := 124, attributes := #[] }, { accessFlags := 25, nameIndex := 136, descriptorIndex := 124, attributes := #[] }])
  fields := #[{ name := "SIOOBE_FORMATTER", type := (.object "java/util/function/BiFunction"), accessFlags := 25, slot := 0, constantValue := 0 }, { name := "AIOOBE_FORMATTER", type := (.object "java/util/function/BiFunction"), accessFlags := 25, slot := 1, constantValue := 0 }, { name := "IOOBE_FORMATTER", type := (.object "java/util/function/BiFunction"), accessFlags := 25, slot := 2, constantValue := 0 }]
  methods := #[k12m0]
  instanceTypes := #[]
  staticTypes := #[(.object "java/util/function/BiFunction"), (.object "java/util/function/BiFunction"), (.object "java/util/function/BiFunction")]
  resolved := Array.replicate 194 none
  statics := some 2 }

def pool13 : Array CpInfo := pool [(9, u "<init>"), (6, .class_ 18), (1, u "java/lang/Object"), (0, u "()V"), (1, .class_ 23), (1, u "jdk/internal/util/ArraysSupport"), (0, u "LOG2_ARRAY_LONG_INDEX_SCALE"), (0, u "I"), (2, u "U"), (0, u "Ljdk/internal/misc/Unsafe;"), (8, u "BIG_ENDIAN"), (0, u "Z"), (8, u "LOG2_BYTE_BIT_SIZE"), (4, u "LOG2_ARRAY_INT_INDEX_SCALE"), (54, u "JLA"), (0, u "Ljdk/internal/access/JavaLangAccess;"), (11, u "LOG2_ARRAY_BOOLEAN_INDEX_SCALE"), (9, u "LOG2_ARRAY_BYTE_INDEX_SCALE"), (5, u "LOG2_ARRAY_CHAR_INDEX_SCALE"), (5, u "LOG2_ARRAY_SHORT_INDEX_SCALE"), (18, u "LOG2_ARRAY_FLOAT_INDEX_SCALE"), (24, u "LOG2_ARRAY_DOUBLE_INDEX_SCALE"), (89, u "T_BOOLEAN"), (2, u "T_CHAR"), (1, u "T_FLOAT"), (1, u "T_DOUBLE"), (1, u "T_BYTE"), (1, u "T_SHORT"), (1, u "T_INT"), (1, u "T_LONG"), (1, u "SOFT_MAX_ARRAY_LENGTH")] 83

def k13m0 : Method := { name := "<init>", desc := "()V", sig := { parameters := [], returnType := none }, accessFlags := 2, code := none }
/-- jdk/internal/util/ArraysSupport -/
def k13 : Class := { plain "jdk/internal/util/ArraysSupport" (some 0) with
  accessFlags := 33
  interfaces := #[]
  cf := some (fileOf pool13 21 #[] #[{ accessFlags := 2, nameIndex := 9, descriptorIndex := 19, attributes := #[] }] 33 16 #[] #[{ accessFlags := 24, nameIndex := 28, descriptorIndex := 29, attributes := #[] }, { accessFlags := 26, nameIndex := 38, descriptorIndex := 39, attributes := #[] }, { accessFlags := 25, nameIndex := 121, descriptorIndex := 25, attributes := #[] }, { accessFlags := 25, nameIndex := 131, descriptorIndex := 25, attributes := #[] }, { accessFlags := 25, nameIndex := 137, descriptorIndex := 25, attributes := #[] }, { accessFlags := 25, nameIndex := 143, descriptorIndex := 25, attributes := #[] }, { accessFlags := 25, nameIndex := 53, descriptorIndex := 25, attributes := #[] }, { accessFlags := 25, nameIndex := 24, descriptorIndex := 25, attributes := #[] }, { accessFlags := 25, nameIndex := 162, descriptorIndex := 25, attributes := #[] }, { accessFlags := 25, nameIndex := 187, descriptorIndex := 25, attributes := #[] }, { accessFlags := 26, nameIndex := 48, descriptorIndex := 25, attributes := #[] }, { accessFlags := 25, nameIndex := 277, descriptorIndex := 25, attributes := #[] }, { accessFlags := 25, nameIndex := 280, descriptorIndex := 25, attributes := #[] }, { accessFlags := 25, nameIndex := 282, descriptorIndex := 25, attributes := #[] }, { accessFlags := 25, nameIndex := 284, descriptorIndex := 25, attributes := #[] }, { accessFlags := 25, nameIndex := 286, descriptorIndex := 25, attributes := #[] }, { accessFlags := 25, nameIndex := 288, descriptorIndex := 25, attributes := #[] }, { accessFlags := 25, nameIndex := 290, descriptorIndex := 25, attributes := #[] }, { accessFlags := 25, nameIndex := 292, descriptorIndex := 25, attributes := #[] }, { accessFlags := 26, nameIndex := 108, descriptorIndex := 109, attributes := #[] }, { accessFlags := 25, nameIndex := 294, descriptorIndex := 25, attributes := #[] }])
  fields := #[{ name := "U", type := (.object "jdk/internal/misc/Unsafe"), accessFlags := 24, slot := 0, constantValue := 0 }, { name := "BIG_ENDIAN", type := .boolean, accessFlags := 26, slot := 1, constantValue := 0 }, { name := "LOG2_ARRAY_BOOLEAN_INDEX_SCALE", type := .int, accessFlags := 25, slot := 2, constantValue := 0 }, { name := "LOG2_ARRAY_BYTE_INDEX_SCALE", type := .int, accessFlags := 25, slot := 3, constantValue := 0 }, { name := "LOG2_ARRAY_CHAR_INDEX_SCALE", type := .int, accessFlags := 25, slot := 4, constantValue := 0 }, { name := "LOG2_ARRAY_SHORT_INDEX_SCALE", type := .int, accessFlags := 25, slot := 5, constantValue := 0 }, { name := "LOG2_ARRAY_INT_INDEX_SCALE", type := .int, accessFlags := 25, slot := 6, constantValue := 0 }, { name := "LOG2_ARRAY_LONG_INDEX_SCALE", type := .int, accessFlags := 25, slot := 7, constantValue := 0 }, { name := "LOG2_ARRAY_FLOAT_INDEX_SCALE", type := .int, accessFlags := 25, slot := 8, constantValue := 0 }, { name := "LOG2_ARRAY_DOUBLE_INDEX_SCALE", type := .int, accessFlags := 25, slot := 9, constantValue := 0 }, { name := "LOG2_BYTE_BIT_SIZE", type := .int, accessFlags := 26, slot := 10, constantValue := 0 }, { name := "T_BOOLEAN", type := .int, accessFlags := 25, slot := 11, constantValue := 0 }, { name := "T_CHAR", type := .int, accessFlags := 25, slot := 12, constantValue := 0 }, { name := "T_FLOAT", type := .int, accessFlags := 25, slot := 13, constantValue := 0 }, { name := "T_DOUBLE", type := .int, accessFlags := 25, slot := 14, constantValue := 0 }, { name := "T_BYTE", type := .int, accessFlags := 25, slot := 15, constantValue := 0 }, { name := "T_SHORT", type := .int, accessFlags := 25, slot := 16, constantValue := 0 }, { name := "T_INT", type := .int, accessFlags := 25, slot := 17, constantValue := 0 }, { name := "T_LONG", type := .int, accessFlags := 25, slot := 18, constantValue := 0 }, { name := "JLA", type := (.object "jdk/internal/access/JavaLangAccess"), accessFlags := 26, slot := 19, constantValue := 0 }, { name := "SOFT_MAX_ARRAY_LENGTH", type := .int, accessFlags := 25, slot := 20, constantValue := 0 }]
  methods := #[k13m0]
  instanceTypes := #[]
  staticTypes := #[(.object "jdk/internal/misc/Unsafe"), .boolean, .int, .int, .int, .int, .int, .int, .int, .int, .int, .int, .int, .int, .int, .int, .int, .int, .int, (.object "jdk/internal/access/JavaLangAccess"), .int]
  resolved := Array.replicate 378 none
  statics := none }

def pool14 : Array CpInfo := pool [(1, u "java/lang/Cloneable"), (0, .class_ 1), (0, u "java/lang/Object"), (0, .class_ 3)] 3

/-- java/lang/Cloneable -/
def k14 : Class := { plain "java/lang/Cloneable" (some 0) with
  accessFlags := 1537
  interfaces := #[]
  cf := some (fileOf pool14 2 #[] #[] 1537 4 #[] #[])
  fields := #[]
  methods := #[]
  instanceTypes := #[]
  staticTypes := #[]
  resolved := Array.replicate 8 none
  statics := none }

/-- the primitive byte -/
def k15 : Class := { plain "byte" none with kind := .primitive 'B', accessFlags := 0x411 }
/-- [B -/
def k16 : Class := { plain "[B" (some 0) with kind := .array 15 .byte, interfaces := #[14, 2], accessFlags := 1041 }

/-- the primitive char -/
def k17 : Class := { plain "char" none with kind := .primitive 'C', accessFlags := 0x411 }
/-- [C -/
def k18 : Class := { plain "[C" (some 0) with kind := .array 17 .char, interfaces := #[14, 2], accessFlags := 1041 }

/-- the primitive int -/
def k19 : Class := { plain "int" none with kind := .primitive 'I', accessFlags := 0x411 }
/-- [I -/
def k20 : Class := { plain "[I" (some 0) with kind := .array 19 .int, interfaces := #[14, 2], accessFlags := 1041 }

/-- [Llomwright/lom/Entity$Part; -/
def k21 : Class := { plain "[Llomwright/lom/Entity$Part;" (some 0) with kind := .array 10 (.object "lomwright/lom/Entity$Part"), interfaces := #[14, 2], accessFlags := 1041 }

def heap : Heap := #[{ cls := 7, slots := #[.long 0, .int 1, .null, .int 0, .null, .int 0, .int 0], vm := .statics 7 },
  { cls := 10, slots := #[.ref 4, .ref 5, .ref 6, .ref 3, .null], vm := .statics 10 },
  { cls := 12, slots := #[.null, .null, .null], vm := .statics 12 },
  { cls := 21, slots := #[.ref 4, .ref 5, .ref 6], vm := .none },
  { cls := 10, slots := #[.null, .int 0, .int 0, .ref 7, .ref 7], vm := .none },
  { cls := 10, slots := #[.null, .int 0, .int 0, .ref 8, .ref 8], vm := .none },
  { cls := 10, slots := #[.null, .int 0, .int 0, .ref 9, .ref 9], vm := .none },
  { cls := 7, slots := #[.ref 10, .int 0, .int 0, .int 0], vm := .none },
  { cls := 7, slots := #[.ref 11, .int 0, .int 0, .int 0], vm := .none },
  { cls := 7, slots := #[.ref 12, .int 0, .int 0, .int 0], vm := .none },
  { cls := 16, slots := #[.int 110, .int 97, .int 109, .int 101], vm := .none },
  { cls := 16, slots := #[.int 111, .int 114, .int 103], vm := .none },
  { cls := 16, slots := #[.int 101, .int 109, .int 97, .int 105, .int 108], vm := .none }]
def classes : Array Class := #[k0, k1, k2, k3, k4, k5, k6, k7, k8, k9, k10, k11, k12, k13, k14, k15, k16, k17, k18, k19, k20, k21]
def interned : List (Array UInt16 × Addr) := []
def slotsUsed : Nat := 57
def theMethod : MethodId := ⟨1, 1⟩
def args0 : Array Value := #[.int 5, .int 3, .int 7, .int 2, .int 1]
def aboutOver (below : List Frame) : State where
  vm := { classes := classes, interned := interned.toArray }
  heap := heap
  slotsUsed := slotsUsed
  threads := #[{ frames := .invoking theMethod args0 :: below }]
def below0 : List Frame := [.native { method := ⟨0, 0⟩, args := #[] }]
def about1 : State := aboutOver below0
def p0 : Program := .bare "" "" ""
def e0 : Env := launch0.env 0 0 0
theorem w_frames : about1.frames = Frame.invoking theMethod args0 :: below0 := rfl
set_option maxRecDepth 65536 in
theorem w_args : argsFit about1.vm theMethod args0 = true := by decide +kernel
set_option maxRecDepth 65536 in
theorem w_heap : heapFits about1 = true := by decide +kernel
set_option maxRecDepth 65536 in
theorem w_runnable : about1.curStatus? = some .runnable := by decide +kernel
set_option maxRecDepth 65536 in
theorem w_alone : about1.alone = true := by decide +kernel
set_option maxRecDepth 65536 in
theorem w_named : about1.methodNamed? x = some theMethod := by decide +kernel
set_option maxRecDepth 65536 in
theorem w_hears : about1.hears theMethod below0 = true := by decide +kernel
set_option maxRecDepth 65536 in
theorem w_ripe : about1.ripe theMethod args0 below0 = true := by decide +kernel
theorem w_running : about1.status = .running := rfl
set_option maxRecDepth 65536 in
theorem w_room : about1.hasRoom e0.platform room_1 = true :=
  launch0.hasRoom_least _ room_1 (by decide +kernel) (by decide +kernel) (by decide +kernel) (by decide +kernel) (by decide +kernel) (by decide +kernel)
theorem allAtoms_all (ts : List Jvm.Cond) (a : Array Jvm.Value) (st : Jvm.State) : (allAtoms ts).before a st = ts.all (fun c => c.before a st) := by
  induction ts with
  | nil => rfl
  | cons c t ih =>
    show (Jvm.Cond.and c (allAtoms t)).before a st = _
    rw [Jvm.Cond.before_and, ih, List.all_cons]
def words1 : List Jvm.Cond := Jvm.Cond.code x code maxLocals ret :: tables_1
/-- a 'code' word, met by the world's own term for the bytes: nothing is compared byte by byte -/
theorem code_word {y : MethodName} {bytes : ByteArray} {mx : Nat} {rt : Option FieldType} {a : Array Value} {s : State} {m : MethodId} {meth : Method} {c : Code} (h1 : s.methodNamed? y = some m) (h2 : s.vm.method? m = some meth) (h3 : meth.code = some c) (h4 : c.code = bytes)
    (h5 : (c.maxLocals == mx && c.exceptionTable.isEmpty && decide (c.maxStack ≤ mostOperands) && decide (meth.sig.returnType = rt) && !meth.locks && decide (parseMethodDescriptor y.desc = some meth.sig)) = true) : (Jvm.Cond.code y bytes mx rt).before a s = true := by
  simp only [Bool.and_eq_true, beq_iff_eq, Bool.not_eq_true', decide_eq_true_eq] at h5
  obtain ⟨⟨⟨⟨⟨g1, g2⟩, g3⟩, g4⟩, g5⟩, g6⟩ := h5
  simp [Cond.before, Cond.holds, Cond.value, h1, h2, h3, h4, g1, g2, g3, g4, g5, g6]
def isCode : Jvm.Cond → Bool
  | .code _ _ _ _ => true
  | _ => false
theorem all_split {L : List Jvm.Cond} {P : Jvm.Cond → Bool} (h1 : L.all (fun c => isCode c || P c) = true) (h2 : ∀ c ∈ L.filter isCode, P c = true) : L.all P = true := by
  refine List.all_eq_true.mpr fun c hc => ?_
  have h := List.all_eq_true.mp h1 c hc
  rcases Bool.eq_false_or_eq_true (isCode c) with hi | hi
  · exact h2 c (List.mem_filter.mpr ⟨hc, hi⟩)
  · simpa [hi] using h
set_option maxRecDepth 65536 in
theorem w_c0 : (Jvm.Cond.code x code maxLocals ret).before args0 about1 = true := code_word (m := ⟨1, 1⟩) (meth := k1m1) (c := k1c1) (by decide +kernel) rfl rfl rfl (by decide +kernel)
set_option maxRecDepth 65536 in
theorem w_c1 : (Jvm.Cond.code ({ cls := "lomwright/lom/PartOfPinLaw", name := "text", desc := "([CI)Ljava/lang/String;" } : Jvm.MethodName) method_3_code (2 : Nat) (Option.some (Jvm.ClassFile.FieldType.object "java/lang/String"))).before args0 about1 = true := code_word (m := ⟨1, 2⟩) (meth := k1m2) (c := k1c2) (by decide +kernel) rfl rfl rfl (by decide +kernel)
set_option maxRecDepth 65536 in
theorem w_c2 : (Jvm.Cond.code ({ cls := "java/lang/String", name := "<init>", desc := "([C)V" } : Jvm.MethodName) jdk_42_method_3_code (2 : Nat) (Option.none : Option Jvm.ClassFile.FieldType)).before args0 about1 = true := code_word (m := ⟨7, 1⟩) (meth := k7m1) (c := k7c1) (by decide +kernel) rfl rfl rfl (by decide +kernel)
set_option maxRecDepth 65536 in
theorem w_c3 : (Jvm.Cond.code ({ cls := "java/lang/String", name := "<init>", desc := "([CIILjava/lang/Void;)V" } : Jvm.MethodName) jdk_42_method_149_code (6 : Nat) (Option.none : Option Jvm.ClassFile.FieldType)).before args0 about1 = true := code_word (m := ⟨7, 3⟩) (meth := k7m3) (c := k7c3) (by decide +kernel) rfl rfl rfl (by decide +kernel)
set_option maxRecDepth 65536 in
theorem w_c4 : (Jvm.Cond.code ({ cls := "java/lang/Object", name := "<init>", desc := "()V" } : Jvm.MethodName) object_method_1_code (1 : Nat) (Option.none : Option Jvm.ClassFile.FieldType)).before args0 about1 = true := code_word (m := ⟨0, 0⟩) (meth := k0m0) (c := k0c0) (by decide +kernel) rfl rfl rfl (by decide +kernel)
set_option maxRecDepth 65536 in
theorem w_c5 : (Jvm.Cond.code ({ cls := "java/lang/StringUTF16", name := "compress", desc := "([CII)[B" } : Jvm.MethodName) jdk_52_method_16_code (6 : Nat) (Option.some (Jvm.ClassFile.FieldType.array Jvm.ClassFile.FieldType.byte))).before args0 about1 = true := code_word (m := ⟨8, 2⟩) (meth := k8m2) (c := k8c2) (by decide +kernel) rfl rfl rfl (by decide +kernel)
set_option maxRecDepth 65536 in
theorem w_c6 : (Jvm.Cond.code ({ cls := "java/lang/StringUTF16", name := "compress", desc := "([CI[BII)I" } : Jvm.MethodName) jdk_52_method_21_code (7 : Nat) (Option.some Jvm.ClassFile.FieldType.int)).before args0 about1 = true := code_word (m := ⟨8, 3⟩) (meth := k8m3) (c := k8c3) (by decide +kernel) rfl rfl rfl (by decide +kernel)
set_option maxRecDepth 65536 in
theorem w_c7 : (Jvm.Cond.code ({ cls := "java/lang/StringUTF16", name := "coderFromArrayLen", desc := "([BI)B" } : Jvm.MethodName) jdk_52_method_15_code (2 : Nat) (Option.some Jvm.ClassFile.FieldType.byte)).before args0 about1 = true := code_word (m := ⟨8, 1⟩) (meth := k8m1) (c := k8c1) (by decide +kernel) rfl rfl rfl (by decide +kernel)
set_option maxRecDepth 65536 in
theorem w_c8 : (Jvm.Cond.code ({ cls := "lomwright/lom/Entity$Part", name := "of", desc := "(Ljava/lang/String;)Llomwright/lom/Entity$Part;" } : Jvm.MethodName) prog_50_method_6_code (5 : Nat) (Option.some (Jvm.ClassFile.FieldType.object "lomwright/lom/Entity$Part"))).before args0 about1 = true := code_word (m := ⟨10, 0⟩) (meth := k10m0) (c := k10c0) (by decide +kernel) rfl rfl rfl (by decide +kernel)
set_option maxRecDepth 65536 in
theorem w_c9 : (Jvm.Cond.code ({ cls := "java/lang/String", name := "equals", desc := "(Ljava/lang/Object;)Z" } : Jvm.MethodName) jdk_42_method_66_code (3 : Nat) (Option.some Jvm.ClassFile.FieldType.boolean)).before args0 about1 = true := code_word (m := ⟨7, 2⟩) (meth := k7m2) (c := k7c2) (by decide +kernel) rfl rfl rfl (by decide +kernel)
set_option maxRecDepth 65536 in
theorem w_c10 : (Jvm.Cond.code ({ cls := "java/lang/StringLatin1", name := "equals", desc := "([B[B)Z" } : Jvm.MethodName) jdk_43_method_13_code (3 : Nat) (Option.some Jvm.ClassFile.FieldType.boolean)).before args0 about1 = true := code_word (m := ⟨11, 1⟩) (meth := k11m1) (c := k11c1) (by decide +kernel) rfl rfl rfl (by decide +kernel)
def codes1 : List Jvm.Cond := [Jvm.Cond.code x code maxLocals ret, Jvm.Cond.code ({ cls := "lomwright/lom/PartOfPinLaw", name := "text", desc := "([CI)Ljava/lang/String;" } : Jvm.MethodName) method_3_code (2 : Nat) (Option.some (Jvm.ClassFile.FieldType.object "java/lang/String")), Jvm.Cond.code ({ cls := "java/lang/String", name := "<init>", desc := "([C)V" } : Jvm.MethodName) jdk_42_method_3_code (2 : Nat) (Option.none : Option Jvm.ClassFile.FieldType), Jvm.Cond.code ({ cls := "java/lang/String", name := "<init>", desc := "([CIILjava/lang/Void;)V" } : Jvm.MethodName) jdk_42_method_149_code (6 : Nat) (Option.none : Option Jvm.ClassFile.FieldType), Jvm.Cond.code ({ cls := "java/lang/Object", name := "<init>", desc := "()V" } : Jvm.MethodName) object_method_1_code (1 : Nat) (Option.none : Option Jvm.ClassFile.FieldType), Jvm.Cond.code ({ cls := "java/lang/StringUTF16", name := "compress", desc := "([CII)[B" } : Jvm.MethodName) jdk_52_method_16_code (6 : Nat) (Option.some (Jvm.ClassFile.FieldType.array Jvm.ClassFile.FieldType.byte)), Jvm.Cond.code ({ cls := "java/lang/StringUTF16", name := "compress", desc := "([CI[BII)I" } : Jvm.MethodName) jdk_52_method_21_code (7 : Nat) (Option.some Jvm.ClassFile.FieldType.int), Jvm.Cond.code ({ cls := "java/lang/StringUTF16", name := "coderFromArrayLen", desc := "([BI)B" } : Jvm.MethodName) jdk_52_method_15_code (2 : Nat) (Option.some Jvm.ClassFile.FieldType.byte), Jvm.Cond.code ({ cls := "lomwright/lom/Entity$Part", name := "of", desc := "(Ljava/lang/String;)Llomwright/lom/Entity$Part;" } : Jvm.MethodName) prog_50_method_6_code (5 : Nat) (Option.some (Jvm.ClassFile.FieldType.object "lomwright/lom/Entity$Part")), Jvm.Cond.code ({ cls := "java/lang/String", name := "equals", desc := "(Ljava/lang/Object;)Z" } : Jvm.MethodName) jdk_42_method_66_code (3 : Nat) (Option.some Jvm.ClassFile.FieldType.boolean), Jvm.Cond.code ({ cls := "java/lang/StringLatin1", name := "equals", desc := "([B[B)Z" } : Jvm.MethodName) jdk_43_method_13_code (3 : Nat) (Option.some Jvm.ClassFile.FieldType.boolean)]
set_option maxRecDepth 65536 in
theorem codes_eq : words1.filter isCode = codes1 := rfl
theorem w_codes : ∀ c ∈ words1.filter isCode, c.before args0 about1 = true := by
  rw [codes_eq]
  intro c hc
  simp only [codes1, List.mem_cons, List.not_mem_nil, or_false] at hc
  rcases hc with rfl | rfl | rfl | rfl | rfl | rfl | rfl | rfl | rfl | rfl | rfl
  · exact w_c0
  · exact w_c1
  · exact w_c2
  · exact w_c3
  · exact w_c4
  · exact w_c5
  · exact w_c6
  · exact w_c7
  · exact w_c8
  · exact w_c9
  · exact w_c10
set_option maxRecDepth 65536 in
theorem w_t1 : (words1.take 24).all (fun c => isCode c || c.before args0 about1) = true := by decide +kernel
set_option maxRecDepth 65536 in
theorem w_t2 : ((words1.drop 24).take 24).all (fun c => isCode c || c.before args0 about1) = true := by decide +kernel
set_option maxRecDepth 65536 in
theorem w_t3 : ((words1.drop 24).drop 24).all (fun c => isCode c || c.before args0 about1) = true := by decide +kernel
theorem w_tables : (allAtoms (Jvm.Cond.code x code maxLocals ret :: tables_1)).before args0 about1 = true := by
  rw [allAtoms_all]
  show words1.all (fun c => c.before args0 about1) = true
  refine all_split ?_ w_codes
  rw [← List.take_append_drop 24 words1, List.all_append, w_t1, ← List.take_append_drop 24 (words1.drop 24), List.all_append, w_t2, w_t3]
  rfl
set_option maxRecDepth 65536 in
theorem w_rest : rest_1_c.before args0 about1 = true := by decide +kernel
set_option maxRecDepth 65536 in
theorem w_case : (Jvm.Cond.and given_1 narrow_1).before args0 about1 = true := by decide +kernel
set_option maxRecDepth 65536 in
theorem w_consts : constsHeld consts_1 about1 := Jvm.Lit.constsHeldB_iff.mp (by decide +kernel)
theorem w_applies : (headSpec (Jvm.Cond.code x code maxLocals ret :: tables_1) room_1).applies x e0.platform about1 = true :=
  (Spec.applies_iff w_frames).mpr ⟨w_running, w_runnable, w_alone, w_named, w_hears, w_ripe, w_room, w_tables⟩
theorem atStart : AtStart classFile x code maxLocals ret World_1 tables_1 room_1 Calls_1 rest_1 Pre_1 launch0 p0 e0 about1 theMethod args0 below0 :=
  ⟨lists_1, trivial, launch0.admits_env _ _ _, launch0.least_env, fairChoices_fair.cas, fairChoices_fair.clock, w_frames, w_args, w_heap, w_applies, ⟨w_consts, trivial⟩, w_rest, w_case⟩
end start1
theorem witness_1 : WitnessClaimed_1 := ⟨start1.p0, start1.e0, start1.about1, start1.theMethod, start1.args0, start1.below0, start1.atStart⟩
end Jvm.Pilot.@@N@@
