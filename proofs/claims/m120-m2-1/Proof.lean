import JvmDerived
import JvmDerived.Pilot.@@N@@Statement
import JvmDerived.Pilot.@@N@@Code
set_option linter.unusedVariables false
set_option linter.unusedSimpArgs false
/- laws to paste: Road.backV, Road.lenW, Road.chN (cut by pick.py; bodies as the Statement names them) -/
namespace Jvm.Pilot.@@N@@
namespace StrChars
open Jvm Sem ClassFile Op Lib Jvm.Stand Jvm.Free.XT Jvm.Free.ALB Jvm.Free.JM Jvm.Free
open Jvm.Lib.Cold (StaticIs)
/-- a char array whose places are chars -/
def Ch (a : Addr) (A : Cell) (U : State) : Prop := Arr .char a A U ∧ Typed .char A
theorem Ch.mv {a : Addr} {A : Cell} {U U' : State} (h : Ch a A U) (hal : U.vm.Alike U'.vm) (hh : U'.heap = U.heap) : Ch a A U' := ⟨h.1.mv hal hh, h.2⟩
theorem Ch.keep {a : Addr} {A : Cell} {U U' : State} (h : Ch a A U) (hal : U.vm.Alike U'.vm) (hk : U'.heap[a]? = some A) : Ch a A U' := ⟨h.1.keep hal hk, h.2⟩
/-- what place i of a char[]'s cell holds -/
def cv (A : Cell) (i : Nat) : Int32 := match A.slots[i]? with | some (.int x) => x | _ => 0
theorem Ch.get {a : Addr} {A : Cell} {U : State} (h : Ch a A U) {i : Nat} (hi : i < A.slots.size) : A.slots[i]? = some (.int (cv A i)) := by
  have e := Array.getElem?_eq_getElem hi
  have f := h.2 i _ e
  unfold cv; rw [e]
  generalize A.slots[i] = v at f
  cases v <;> simp [fits] at f ⊢
/-- the byte that i2b leaves of a char -/
def lo8 (x : Int32) : Int32 := x.toInt8.toInt32
theorem fits_lo8 (y : Int32) : fits .byte (.int (lo8 y)) = true := by
  have h1 := y.toInt8.le_toInt
  have h2 := y.toInt8.toInt_lt
  simp only [lo8, fits, Bool.and_eq_true, decide_eq_true_eq, Int32.le_iff_toInt_le, Int8.toInt_toInt32, show (-128 : Int32).toInt = -128 from by decide, show (127 : Int32).toInt = 127 from by decide]
  omega
/-- A' is A but that each place j of lo .. hi - 1 holds f j -/
def Laid (A A' : Cell) (lo hi : Nat) (f : Nat → Value) : Prop := A'.cls = A.cls ∧ A'.vm = A.vm ∧ A'.slots.size = A.slots.size ∧ ∀ i, A'.slots[i]? = if lo ≤ i ∧ i < hi then some (f i) else A.slots[i]?
theorem Laid.zero (A : Cell) (lo : Nat) (f : Nat → Value) : Laid A A lo (lo + 0) f := ⟨rfl, rfl, rfl, fun i => by rw [if_neg (by omega)]⟩
theorem Laid.step {A Ak : Cell} {lo k : Nat} {f : Nat → Value} {v : Value} (h : Laid A Ak lo k f) (hlo : lo ≤ k) (hk : k < Ak.slots.size) (hv : v = f k) : Laid A (Ak.setSlot k v) lo (k + 1) f := by
  refine ⟨h.1, h.2.1, by simpa [Cell.setSlot] using h.2.2.1, fun i => ?_⟩
  by_cases e : k = i
  · subst e; rw [Cell.slots_setSlot_self v hk, if_pos (by omega), hv]
  · rw [Cell.slots_setSlot_ne v e, h.2.2.2 i]
    by_cases q : lo ≤ i ∧ i < k
    · rw [if_pos q, if_pos (by omega)]
    · rw [if_neg q, if_neg (by omega)]
def U16 : String := "java/lang/StringUTF16"
namespace Cmp5
def yN : MethodName := ⟨"java/lang/StringUTF16", "compress", "([CI[BII)I"⟩
abbrev yB : ByteArray := jdk_52_method_21_code
theorem d0 : decode yB 0 = .ok (.iconst 0, 1) := by decide +kernel
theorem d1 : decode yB 1 = .ok (.istore 5, 2) := by decide +kernel
theorem d3 : decode yB 3 = .ok (.iload 5, 2) := by decide +kernel
theorem d5 : decode yB 5 = .ok (.iload 4, 2) := by decide +kernel
theorem d7 : decode yB 7 = .ok (.if_icmp (.ge) 37, 3) := by decide +kernel
theorem d10 : decode yB 10 = .ok (.aload_n 0, 1) := by decide +kernel
theorem d11 : decode yB 11 = .ok (.iload_n 1, 1) := by decide +kernel
theorem d12 : decode yB 12 = .ok (.caload, 1) := by decide +kernel
theorem d13 : decode yB 13 = .ok (.istore 6, 2) := by decide +kernel
theorem d15 : decode yB 15 = .ok (.iload 6, 2) := by decide +kernel
theorem d17 : decode yB 17 = .ok (.sipush 255, 3) := by decide +kernel
theorem d20 : decode yB 20 = .ok (.if_icmp (.le) 6, 3) := by decide +kernel
theorem d26 : decode yB 26 = .ok (.aload_n 2, 1) := by decide +kernel
theorem d27 : decode yB 27 = .ok (.iload_n 3, 1) := by decide +kernel
theorem d28 : decode yB 28 = .ok (.iload 6, 2) := by decide +kernel
theorem d30 : decode yB 30 = .ok (.i2b, 1) := by decide +kernel
theorem d31 : decode yB 31 = .ok (.bastore, 1) := by decide +kernel
theorem d32 : decode yB 32 = .ok (.iinc 1 1, 3) := by decide +kernel
theorem d35 : decode yB 35 = .ok (.iinc 3 1, 3) := by decide +kernel
theorem d38 : decode yB 38 = .ok (.iinc 5 1, 3) := by decide +kernel
theorem d41 : decode yB 41 = .ok (.goto (-38), 3) := by decide +kernel
theorem d44 : decode yB 44 = .ok (.iload 4, 2) := by decide +kernel
theorem d46 : decode yB 46 = .ok (.ireturn, 1) := by decide +kernel
def site : List Cond := []
def tab : Cond := tabOf yN yB 7 (some .int) site
def P (b : Addr) (A : Cell) (d : Addr) (B : Cell) (o q len : Nat) (args : Array Value) (s : State) : Prop := args = #[.ref b, .int (Int32.ofNat o), .ref d, .int (Int32.ofNat q), .int (Int32.ofNat len)] ∧ Ch b A s ∧ Arr .byte d B s ∧ b ≠ d ∧ o + len ≤ A.slots.size ∧ q + len ≤ B.slots.size ∧ ∀ i, i < len → ¬ 255 < cv A (o + i)
def E (b : Addr) (A : Cell) (d : Addr) (B : Cell) (o q len : Nat) (r : Option Value) (s u : State) : Prop := r = some (.int (Int32.ofNat len)) ∧ ∃ B', Put d B' s u ∧ Laid B B' q (q + len) (fun j => Value.int (lo8 (cv A (o + (j - q)))))
/-- no char of the range above 255: len; the places written hold each char's low byte -/
theorem law (l : Launch) (b : Addr) (A : Cell) (d : Addr) (B : Cell) (o q len : Nat) : Law l yN 5 5 0 0 yB 7 (some .int) site (P b A d B o q len) (E b A d B o q len) (copyLocs d q len) 0 0 := by
  refine Law.of_walk (plainFor_of_name (by decide +kernel)) (by decide +kernel) (by decide +kernel) (by decide) (fun _ _ h => by rw [h.1]; rfl) (fun _ U U' hal hh h => ⟨h.1, h.2.1.mv hal hh, h.2.2.1.mv hal hh, h.2.2.2⟩) (fun r U U' V V' h1 hal h2 h => ⟨h.1, h.2.elim fun B' q => ⟨B', q.1.mv h1 h2, q.2⟩⟩) ?_
  intro p e s m args below meth c s₁ X0 hexec hbytes hml hret hlk hnm hown hh0 W hP
  obtain ⟨rfl, hA, hB, hne, l1, l2, hp⟩ := hP
  have c1 : Steps p.tables e below (s₁.setTop (entryFrame m #[.ref b, .int (Int32.ofNat o), .ref d, .int (Int32.ofNat q), .int (Int32.ofNat len)] 7)) (s₁.setTop (mkF m 0 #[.val (.ref b), .val (.int (Int32.ofNat o)), .val (.ref d), .val (.int (Int32.ofNat q)), .val (.int (Int32.ofNat len)), .unset, .unset] [])) := entry rfl
  have hA0 := hA.1.mv X0.warmed.alike hh0
  have hB0 := hB.mv X0.warmed.alike hh0
  have a31 := hA.1.2.2.2
  have c2 : Steps p.tables e below (s₁.setTop (entryFrame m #[.ref b, .int (Int32.ofNat o), .ref d, .int (Int32.ofNat q), .int (Int32.ofNat len)] 7)) (s₁.setTop (mkF m 3 #[.val (.ref b), .val (.int (Int32.ofNat o)), .val (.ref d), .val (.int (Int32.ofNat q)), .val (.int (Int32.ofNat len)), .val (.int 0), .unset] [])) := c1.trans (by
    refine iconstV X0.here hexec rfl 0 (hb hbytes d0) (by decide) ?_
    refine XS.istore X0.here hexec rfl (hb hbytes d1) rfl rfl ?_
    exact Steps.refl _)
  have loop : ∀ (r i : Nat), i + r = len → ∀ (z : Slot), (z = .unset ∨ ∃ w, z = .val w ∧ w.category = 1) → ∀ (Tl : State) (Bk : Cell), Stand p l e { frames := 0, locals := 0, cells := 0, slots := 0 } s m #[.ref b, .int (Int32.ofNat o), .ref d, .int (Int32.ofNat q), .int (Int32.ofNat len)] below meth c Tl ([] ++ copyLocs d q i) 0 0 → Put d Bk s₁ Tl → Laid B Bk q (q + i) (fun j => Value.int (lo8 (cv A (o + (j - q))))) →
      Steps p.tables e below (s₁.setTop (entryFrame m #[.ref b, .int (Int32.ofNat o), .ref d, .int (Int32.ofNat q), .int (Int32.ofNat len)] 7)) (Tl.setTop (mkF m 3 #[.val (.ref b), .val (.int (Int32.ofNat (o + i))), .val (.ref d), .val (.int (Int32.ofNat (q + i))), .val (.int (Int32.ofNat len)), .val (.int (Int32.ofNat i)), z] [])) → ∃ (T' : State) (B' : Cell) (z' : Slot), Stand p l e { frames := 0, locals := 0, cells := 0, slots := 0 } s m #[.ref b, .int (Int32.ofNat o), .ref d, .int (Int32.ofNat q), .int (Int32.ofNat len)] below meth c T' ([] ++ copyLocs d q len) 0 0 ∧ Put d B' s₁ T' ∧ Laid B B' q (q + len) (fun j => Value.int (lo8 (cv A (o + (j - q))))) ∧
      Steps p.tables e below (s₁.setTop (entryFrame m #[.ref b, .int (Int32.ofNat o), .ref d, .int (Int32.ofNat q), .int (Int32.ofNat len)] 7)) (T'.setTop (mkF m 3 #[.val (.ref b), .val (.int (Int32.ofNat (o + len))), .val (.ref d), .val (.int (Int32.ofNat (q + len))), .val (.int (Int32.ofNat len)), .val (.int (Int32.ofNat len)), z'] [])) := by
    intro r
    induction r with
    | zero =>
      intro i hi z hz Tl Bk Xl pl fl cl
      have hil : i = len := by omega
      rw [hil] at Xl fl cl
      exact ⟨Tl, Bk, z, Xl, pl, fl, cl⟩
    | succ r ih =>
      intro i hi z hz Tl Bk Xl pl fl cl
      have all := X0.warmed.alike.symm.trans Xl.warmed.alike
      have hAl := hA0.keep all (pl.other hne hA0.1)
      have hBk := hB0.like all pl.1 fl.1 fl.2.1 fl.2.2.1
      have hlt : q + i < Bk.slots.size := by rw [fl.2.2.1]; omega
      have c3 : Steps p.tables e below (s₁.setTop (entryFrame m #[.ref b, .int (Int32.ofNat o), .ref d, .int (Int32.ofNat q), .int (Int32.ofNat len)] 7)) (Tl.setTop (mkF m 12 #[.val (.ref b), .val (.int (Int32.ofNat (o + i))), .val (.ref d), .val (.int (Int32.ofNat (q + i))), .val (.int (Int32.ofNat len)), .val (.int (Int32.ofNat i)), z] [.int (Int32.ofNat (o + i)), .ref b])) := cl.trans (by
        refine XS.iload Xl.here hexec rfl (hb hbytes d3) rfl ?_
        refine XS.iload Xl.here hexec rfl (hb hbytes d5) rfl ?_
        refine XS.icmpNo Xl.here hexec rfl (hb hbytes d7) rfl (ii_ge_f (lt32 (by omega) (by omega))) ?_
        refine XS.aloadN Xl.here hexec rfl (hb hbytes d10) rfl rfl ?_
        refine XS.iloadN Xl.here hexec rfl (hb hbytes d11) rfl ?_
        exact Steps.refl _)
      have c4 : Steps p.tables e below (s₁.setTop (entryFrame m #[.ref b, .int (Int32.ofNat o), .ref d, .int (Int32.ofNat q), .int (Int32.ofNat len)] 7)) (Tl.setTop (mkF m 13 #[.val (.ref b), .val (.int (Int32.ofNat (o + i))), .val (.ref d), .val (.int (Int32.ofNat (q + i))), .val (.int (Int32.ofNat len)), .val (.int (Int32.ofNat i)), z] [.int (cv A (o + i))])) := c3.trans (by
        refine Xl.aget hexec hAl rfl (hA.get (i := o + i) (by omega)) rfl rfl (hb hbytes d12) ?_
        exact Steps.refl _)
      have c5 : Steps p.tables e below (s₁.setTop (entryFrame m #[.ref b, .int (Int32.ofNat o), .ref d, .int (Int32.ofNat q), .int (Int32.ofNat len)] 7)) (Tl.setTop (mkF m 15 #[.val (.ref b), .val (.int (Int32.ofNat (o + i))), .val (.ref d), .val (.int (Int32.ofNat (q + i))), .val (.int (Int32.ofNat len)), .val (.int (Int32.ofNat i)), .val (.int (cv A (o + i)))] [])) := c4.trans (by
        refine XS.istoreS Xl.here hexec rfl (hb hbytes d13) rfl rfl hz ?_
        exact Steps.refl _)
      have c6 : Steps p.tables e below (s₁.setTop (entryFrame m #[.ref b, .int (Int32.ofNat o), .ref d, .int (Int32.ofNat q), .int (Int32.ofNat len)] 7)) (Tl.setTop (mkF m 31 #[.val (.ref b), .val (.int (Int32.ofNat (o + i))), .val (.ref d), .val (.int (Int32.ofNat (q + i))), .val (.int (Int32.ofNat len)), .val (.int (Int32.ofNat i)), .val (.int (cv A (o + i)))] [.int (lo8 (cv A (o + i))), .int (Int32.ofNat (q + i)), .ref d])) := c5.trans (by
        refine XS.iload Xl.here hexec rfl (hb hbytes d15) rfl ?_
        refine sipushV Xl.here hexec rfl 255 (hb hbytes d17) (by decide) ?_
        refine XS.icmpYes Xl.here hexec rfl (pc0 := 20) rfl (hb hbytes d20) rfl (ii_le_t (hp i (by omega))) (by decide) rfl ?_
        refine XS.aloadN Xl.here hexec rfl (hb hbytes d26) rfl rfl ?_
        refine XS.iloadN Xl.here hexec rfl (hb hbytes d27) rfl ?_
        refine XS.iload Xl.here hexec rfl (hb hbytes d28) rfl ?_
        refine i2b Xl.here hexec rfl (hb hbytes d30) rfl ?_
        exact Steps.refl _)
      obtain ⟨T7, X7, p7, st7⟩ := Xl.aput hexec hBk rfl hlt rfl (fits_lo8 (cv A (o + i))) (g := (mkF m 31 #[.val (.ref b), .val (.int (Int32.ofNat (o + i))), .val (.ref d), .val (.int (Int32.ofNat (q + i))), .val (.int (Int32.ofNat len)), .val (.int (Int32.ofNat i)), .val (.int (cv A (o + i)))] [.int (lo8 (cv A (o + i))), .int (Int32.ofNat (q + i)), .ref d])) rfl (rest := []) rfl (hb hbytes d31)
      have c8 : Steps p.tables e below (s₁.setTop (entryFrame m #[.ref b, .int (Int32.ofNat o), .ref d, .int (Int32.ofNat q), .int (Int32.ofNat len)] 7)) (T7.setTop (mkF m 32 #[.val (.ref b), .val (.int (Int32.ofNat (o + i))), .val (.ref d), .val (.int (Int32.ofNat (q + i))), .val (.int (Int32.ofNat len)), .val (.int (Int32.ofNat i)), .val (.int (cv A (o + i)))] [])) := c6.trans (st7 _ (Steps.refl _))
      have c9 : Steps p.tables e below (s₁.setTop (entryFrame m #[.ref b, .int (Int32.ofNat o), .ref d, .int (Int32.ofNat q), .int (Int32.ofNat len)] 7)) (T7.setTop (mkF m 3 #[.val (.ref b), .val (.int (Int32.ofNat (o + i) + 1)), .val (.ref d), .val (.int (Int32.ofNat (q + i) + 1)), .val (.int (Int32.ofNat len)), .val (.int (Int32.ofNat i + 1)), .val (.int (cv A (o + i)))] [])) := c8.trans (by
        refine iincV X7.here hexec rfl 1 (hb hbytes d32) (by decide) rfl rfl ?_
        refine iincV X7.here hexec rfl 1 (hb hbytes d35) (by decide) rfl rfl ?_
        refine iincV X7.here hexec rfl 1 (hb hbytes d38) (by decide) rfl rfl ?_
        refine XS.goto X7.here hexec rfl (pc0 := 41) rfl (hb hbytes d41) (by decide) rfl ?_
        exact Steps.refl _)
      have c10 : Steps p.tables e below (s₁.setTop (entryFrame m #[.ref b, .int (Int32.ofNat o), .ref d, .int (Int32.ofNat q), .int (Int32.ofNat len)] 7)) (T7.setTop (mkF m 3 #[.val (.ref b), .val (.int (Int32.ofNat (o + (i + 1)))), .val (.ref d), .val (.int (Int32.ofNat (q + (i + 1)))), .val (.int (Int32.ofNat len)), .val (.int (Int32.ofNat (i + 1))), .val (.int (cv A (o + i)))] [])) := by
        have := c9
        rw [succ32, succ32, succ32] at this
        exact this
      exact ih (i + 1) (by omega) _ (Or.inr ⟨_, rfl, rfl⟩) T7 _ (by rw [copyLocs_step, ← List.append_assoc]; exact X7) (pl.trans p7) (fl.step (by omega) hlt (by simp)) c10
  obtain ⟨T9, B9, z9, X9, p9, f9, g9⟩ := loop len 0 (by omega) .unset (Or.inl rfl) s₁ B (by simpa [copyLocs] using X0) ⟨hB0.1, fun _ _ => rfl, rfl⟩ (Laid.zero _ _ _) c2
  have c11 : Steps p.tables e below (s₁.setTop (entryFrame m #[.ref b, .int (Int32.ofNat o), .ref d, .int (Int32.ofNat q), .int (Int32.ofNat len)] 7)) (T9.setTop (mkF m 46 #[.val (.ref b), .val (.int (Int32.ofNat (o + len))), .val (.ref d), .val (.int (Int32.ofNat (q + len))), .val (.int (Int32.ofNat len)), .val (.int (Int32.ofNat len)), z9] [.int (Int32.ofNat len)])) := g9.trans (by
    refine XS.iload X9.here hexec rfl (hb hbytes d3) rfl ?_
    refine XS.iload X9.here hexec rfl (hb hbytes d5) rfl ?_
    refine XS.icmpYes X9.here hexec rfl (pc0 := 7) rfl (hb hbytes d7) rfl (ii_ge_t (nlt32 (by omega) (Nat.le_refl _))) (by decide) rfl ?_
    refine XS.iload X9.here hexec rfl (hb hbytes d44) rfl ?_
    exact Steps.refl _)
  exact ⟨T9, some (.int (Int32.ofNat len)), _, _, _, X9, by simp, rfl, rfl, (fun h => by cases h), ⟨rfl, B9, p9.from hh0, f9⟩, fun fs hl => c11.trans (X9.ireturnOut hexec hret rfl (Or.inl rfl) (hb hbytes d46) hl)⟩
end Cmp5
namespace Cmp3
def yN : MethodName := ⟨"java/lang/StringUTF16", "compress", "([CII)[B"⟩
abbrev yB : ByteArray := jdk_52_method_16_code
theorem d0 : decode yB 0 = .ok (.iload_n 2, 1) := by decide +kernel
theorem d1 : decode yB 1 = .ok (.newarray .byte, 2) := by decide +kernel
theorem d3 : decode yB 3 = .ok (.astore_n 3, 1) := by decide +kernel
theorem d4 : decode yB 4 = .ok (.aload_n 0, 1) := by decide +kernel
theorem d5 : decode yB 5 = .ok (.iload_n 1, 1) := by decide +kernel
theorem d6 : decode yB 6 = .ok (.aload_n 3, 1) := by decide +kernel
theorem d7 : decode yB 7 = .ok (.iconst 0, 1) := by decide +kernel
theorem d8 : decode yB 8 = .ok (.iload_n 2, 1) := by decide +kernel
theorem d9 : decode yB 9 = .ok (.invokestatic 115, 3) := by decide +kernel
theorem d12 : decode yB 12 = .ok (.istore 4, 2) := by decide +kernel
theorem d14 : decode yB 14 = .ok (.iload 4, 2) := by decide +kernel
theorem d16 : decode yB 16 = .ok (.iload_n 2, 1) := by decide +kernel
theorem d17 : decode yB 17 = .ok (.if_icmp (.eq) 40, 3) := by decide +kernel
theorem d57 : decode yB 57 = .ok (.aload_n 3, 1) := by decide +kernel
theorem d58 : decode yB 58 = .ok (.areturn, 1) := by decide +kernel
def site : List Cond := [.arrayClass .byte, Cmp5.tab] ++ staticW U16 115 Cmp5.yN
def tab : Cond := tabOf yN yB 6 (some (.array .byte)) site
def P (b : Addr) (A : Cell) (o len : Nat) (args : Array Value) (s : State) : Prop := args = #[.ref b, .int (Int32.ofNat o), .int (Int32.ofNat len)] ∧ Ch b A s ∧ o + len ≤ A.slots.size ∧ len ≤ 536870912 ∧ ∀ i, i < len → ¬ 255 < cv A (o + i)
def E (b : Addr) (A : Cell) (o len : Nat) (r : Option Value) (s u : State) : Prop := NewArr .byte "[B" len (fun j => .int (lo8 (cv A (o + j)))) r s u ∧ u.heap.size = s.heap.size + 1
/-- no char of the range above 255: a new byte[] of their low bytes -/
theorem law (l : Launch) (b : Addr) (A : Cell) (o len : Nat) : Law l yN 3 3 1 18 yB 6 (some (.array .byte)) site (P b A o len) (E b A o len) [] 1 len := by
  refine Law.of_walk (plainFor_of_name (by decide +kernel)) (by decide +kernel) (by decide +kernel) (by decide) (fun _ _ h => by rw [h.1]; rfl) (fun _ U U' hal hh h => ⟨h.1, h.2.1.mv hal hh, h.2.2⟩) (fun r U U' V V' h1 hal h2 h => ⟨NewArr.mv r U U' V V' h1 hal h2 h.1, by rw [h1, h2]; exact h.2⟩) ?_
  intro p e s m args below meth c s₁ X0 hexec hbytes hml hret hlk hnm hown hh0 W hP
  obtain ⟨rfl, hA, l1, l2, hp⟩ := hP
  have a31 := hA.1.2.2.2
  have c1 : Steps p.tables e below (s₁.setTop (entryFrame m #[.ref b, .int (Int32.ofNat o), .int (Int32.ofNat len)] 6)) (s₁.setTop (mkF m 0 #[.val (.ref b), .val (.int (Int32.ofNat o)), .val (.int (Int32.ofNat len)), .unset, .unset, .unset] [])) := entry rfl
  have c2 : Steps p.tables e below (s₁.setTop (entryFrame m #[.ref b, .int (Int32.ofNat o), .int (Int32.ofNat len)] 6)) (s₁.setTop (mkF m 1 #[.val (.ref b), .val (.int (Int32.ofNat o)), .val (.int (Int32.ofNat len)), .unset, .unset, .unset] [.int (Int32.ofNat len)])) := c1.trans (by
    refine XS.iloadN X0.here hexec rfl (hb hbytes d0) rfl ?_
    exact Steps.refl _)
  obtain ⟨T3, B3, X3, ba3, bs3, bv3, bh3, bf3, st3⟩ := X0.anew hexec (atype := .byte) (wk W (.arrayClass .byte)) rfl (by show len * 1 ≤ _; omega) (by omega) (g := (mkF m 1 #[.val (.ref b), .val (.int (Int32.ofNat o)), .val (.int (Int32.ofNat len)), .unset, .unset, .unset] [.int (Int32.ofNat len)])) rfl (hb hbytes d1) (rest := []) rfl (Nat.le_refl _) (by show 0 + len ≤ len; omega)
  rw [hh0] at ba3 st3
  have kp3 : XT.Kept s T3 := (XT.Kept.of_eq hh0).push bh3
  have hA3 := hA.keep X3.warmed.alike (kp3 _ _ hA.1.1)
  have hne : b ≠ s.heap.size := hA.1.ne
  have c4 : Steps p.tables e below (s₁.setTop (entryFrame m #[.ref b, .int (Int32.ofNat o), .int (Int32.ofNat len)] 6)) (T3.setTop (mkF m 3 #[.val (.ref b), .val (.int (Int32.ofNat o)), .val (.int (Int32.ofNat len)), .unset, .unset, .unset] [.ref s.heap.size])) := c2.trans (st3 _ (Steps.refl _))
  have c5 : Steps p.tables e below (s₁.setTop (entryFrame m #[.ref b, .int (Int32.ofNat o), .int (Int32.ofNat len)] 6)) (T3.setTop (mkF m 9 #[.val (.ref b), .val (.int (Int32.ofNat o)), .val (.int (Int32.ofNat len)), .val (.ref s.heap.size), .unset, .unset] [.int (Int32.ofNat len), .int 0, .ref s.heap.size, .int (Int32.ofNat o), .ref b])) := c4.trans (by
    refine XS.astoreN X3.here hexec rfl (hb hbytes d3) rfl rfl rfl ?_
    refine XS.aloadN X3.here hexec rfl (hb hbytes d4) rfl rfl ?_
    refine XS.iloadN X3.here hexec rfl (hb hbytes d5) rfl ?_
    refine XS.aloadN X3.here hexec rfl (hb hbytes d6) rfl rfl ?_
    refine iconstV X3.here hexec rfl 0 (hb hbytes d7) (by decide) ?_
    refine XS.iloadN X3.here hexec rfl (hb hbytes d8) rfl ?_
    exact Steps.refl _)
  obtain ⟨v6, T6, X6, E6, g6⟩ := X3.callS hexec (Cmp5.law l b A s.heap.size B3 o 0 len) hown (wks W (staticW U16 115 Cmp5.yN)) (wk W Cmp5.tab) (W := 0) (Nat.le_of_ble_eq_true rfl) (Nat.le_of_ble_eq_true rfl) (Nat.le_refl _) (by show 0 + len + 0 ≤ len; omega) (g := (mkF m 9 #[.val (.ref b), .val (.int (Int32.ofNat o)), .val (.int (Int32.ofNat len)), .val (.ref s.heap.size), .unset, .unset] [.int (Int32.ofNat len), .int (Int32.ofNat 0), .ref s.heap.size, .int (Int32.ofNat o), .ref b])) rfl (by rw [hml]; rfl) c5 (argsL := [.ref b, .int (Int32.ofNat o), .ref s.heap.size, .int (Int32.ofNat 0), .int (Int32.ofNat len)]) (rest := []) rfl rfl (by show 2 * 0 + 0 ≤ _; decide) (hb hbytes d9) (⟨rfl, hA3, ba3, hne, l1, by rw [bs3]; simp, hp⟩)
  obtain ⟨rfl, B6, p6, f6⟩ := E6
  have c7 : Steps p.tables e below (s₁.setTop (entryFrame m #[.ref b, .int (Int32.ofNat o), .int (Int32.ofNat len)] 6)) (T6.setTop (mkF m 12 #[.val (.ref b), .val (.int (Int32.ofNat o)), .val (.int (Int32.ofNat len)), .val (.ref s.heap.size), .unset, .unset] [.int (Int32.ofNat len)])) := g6
  have c8 : Steps p.tables e below (s₁.setTop (entryFrame m #[.ref b, .int (Int32.ofNat o), .int (Int32.ofNat len)] 6)) (T6.setTop (mkF m 58 #[.val (.ref b), .val (.int (Int32.ofNat o)), .val (.int (Int32.ofNat len)), .val (.ref s.heap.size), .val (.int (Int32.ofNat len)), .unset] [.ref s.heap.size])) := c7.trans (by
    refine XS.istore X6.here hexec rfl (hb hbytes d12) rfl rfl ?_
    refine XS.iload X6.here hexec rfl (hb hbytes d14) rfl ?_
    refine XS.iloadN X6.here hexec rfl (hb hbytes d16) rfl ?_
    refine XS.icmpYes X6.here hexec rfl (pc0 := 17) rfl (hb hbytes d17) rfl (ii_eq_t rfl) (by decide) rfl ?_
    refine XS.aloadN X6.here hexec rfl (hb hbytes d57) rfl rfl ?_
    exact Steps.refl _)
  have X8 := X6.wide (L' := []) (cells' := 1) (slots' := len) (fun x hx hlt => by
    simp only [List.nil_append, copyLocs, List.mem_map, List.mem_range] at hx
    obtain ⟨i, -, rfl⟩ := hx
    exact absurd hlt (Nat.lt_irrefl _)) (Nat.le_refl _) (by omega)
  exact ⟨T6, some (.ref s.heap.size), _, _, _, X8, rfl, rfl, rfl, (fun h => by cases h), ⟨⟨rfl, B6, ba3.like (X3.warmed.alike.symm.trans X6.warmed.alike) p6.1 f6.1 f6.2.1 f6.2.2.1, f6.2.1.trans bv3, by rw [X6.warmed.alike.findClass, f6.1]; exact bf3, by rw [f6.2.2.1, bs3]; simp, fun j hj => by rw [f6.2.2.2 j, if_pos (by omega)]; rfl, kp3.put p6 (Nat.le_refl _)⟩, by rw [p6.2.2, bh3, hh0]; simp⟩, fun fs hl => c8.trans (X8.areturnOut hexec rfl hret rfl (hb hbytes d58) hl)⟩
end Cmp3
namespace CodL
def yN : MethodName := ⟨"java/lang/StringUTF16", "coderFromArrayLen", "([BI)B"⟩
abbrev yB : ByteArray := jdk_52_method_15_code
theorem d0 : decode yB 0 = .ok (.iload_n 1, 1) := by decide +kernel
theorem d1 : decode yB 1 = .ok (.aload_n 0, 1) := by decide +kernel
theorem d2 : decode yB 2 = .ok (.arraylength, 1) := by decide +kernel
theorem d3 : decode yB 3 = .ok (.isub, 1) := by decide +kernel
theorem d4 : decode yB 4 = .ok (.bipush 31, 2) := by decide +kernel
theorem d6 : decode yB 6 = .ok (.iushr, 1) := by decide +kernel
theorem d7 : decode yB 7 = .ok (.i2b, 1) := by decide +kernel
theorem d8 : decode yB 8 = .ok (.ireturn, 1) := by decide +kernel
def site : List Cond := []
def tab : Cond := tabOf yN yB 2 (some .byte) site
def P (d : Addr) (B : Cell) (args : Array Value) (s : State) : Prop := args = #[.ref d, .int (Int32.ofNat B.slots.size)] ∧ Arr .byte d B s
def E (r : Option Value) (s u : State) : Prop := XT.PureE (some (.int 0)) r s u
/-- an array as long as the number of chars: LATIN1 -/
theorem law (l : Launch) (d : Addr) (B : Cell) : Law l yN 2 2 0 0 yB 2 (some .byte) site (P d B) E [] 0 0 := by
  refine Law.of_walk (plainFor_of_name (by decide +kernel)) (by decide +kernel) (by decide +kernel) (by decide) (fun _ _ h => by rw [h.1]; rfl) (fun _ U U' hal hh h => ⟨h.1, h.2.mv hal hh⟩) (fun r U U' V V' h1 hal h2 h => XT.PureE.mv r U U' V V' h1 hal h2 h) ?_
  intro p e s m args below meth c s₁ X0 hexec hbytes hml hret hlk hnm hown hh0 W hP
  obtain ⟨rfl, hB⟩ := hP
  have hB0 := hB.mv X0.warmed.alike hh0
  have c1 : Steps p.tables e below (s₁.setTop (entryFrame m #[.ref d, .int (Int32.ofNat B.slots.size)] 2)) (s₁.setTop (mkF m 0 #[.val (.ref d), .val (.int (Int32.ofNat B.slots.size))] [])) := entry rfl
  have c2 : Steps p.tables e below (s₁.setTop (entryFrame m #[.ref d, .int (Int32.ofNat B.slots.size)] 2)) (s₁.setTop (mkF m 2 #[.val (.ref d), .val (.int (Int32.ofNat B.slots.size))] [.ref d, .int (Int32.ofNat B.slots.size)])) := c1.trans (by
    refine XS.iloadN X0.here hexec rfl (hb hbytes d0) rfl ?_
    refine XS.aloadN X0.here hexec rfl (hb hbytes d1) rfl rfl ?_
    exact Steps.refl _)
  have c3 : Steps p.tables e below (s₁.setTop (entryFrame m #[.ref d, .int (Int32.ofNat B.slots.size)] 2)) (s₁.setTop (mkF m 8 #[.val (.ref d), .val (.int (Int32.ofNat B.slots.size))] [.int (lo8 (ushr (Int32.ofNat B.slots.size - Int32.ofNat B.slots.size) 31))])) := c2.trans (by
    refine X0.alen hexec hB0 rfl rfl (hb hbytes d2) ?_
    refine XS.isub X0.here hexec rfl (hb hbytes d3) rfl ?_
    refine bipushV X0.here hexec rfl 31 (hb hbytes d4) (by decide) ?_
    refine iushr X0.here hexec rfl (hb hbytes d6) rfl ?_
    refine i2b X0.here hexec rfl (hb hbytes d7) rfl ?_
    exact Steps.refl _)
  have e0 : lo8 (ushr (Int32.ofNat B.slots.size - Int32.ofNat B.slots.size) 31) = 0 := by rw [Int32.sub_self]; decide
  rw [e0] at c3
  exact ⟨s₁, some (.int 0), _, _, _, X0, rfl, rfl, rfl, (fun h => by cases h), ⟨rfl, hh0⟩, fun fs hl => c3.trans (X0.ireturnOut hexec hret rfl (Or.inr (Or.inr (Or.inl rfl))) (hb hbytes d8) hl)⟩
end CodL
/-- the String at a is Latin-1 over a new byte[] (the heap's one new cell): the low bytes of the len chars of A from o on; every cell but a is kept -/
def Got (a : Addr) (D : Cell) (fV fC : Field) (A : Cell) (o len : Nat) (r : Option Value) (s u : State) : Prop := r = none ∧ ∃ D' V : Cell, Blank "java/lang/String" a D' u ∧ Same D D' [fV.slot, fC.slot] ∧ D'.slots[fV.slot]? = some (.ref s.heap.size) ∧ D'.slots[fC.slot]? = some (.int 0) ∧ Arr .byte s.heap.size V u ∧ V.vm = .none ∧ u.vm.findClass "[B" = some V.cls ∧ V.slots.size = len ∧ (∀ j, j < len → V.slots[j]? = some (.int (lo8 (cv A (o + j))))) ∧ (∀ (y : Addr) (c : Cell), y ≠ a → s.heap[y]? = some c → u.heap[y]? = some c) ∧ u.heap.size = s.heap.size + 1
theorem Got.mv {a : Addr} {D A : Cell} {fV fC : Field} {o len : Nat} : ∀ r (U U' V V' : State), U'.heap = U.heap → V.vm.Alike V'.vm → V'.heap = V.heap → Got a D fV fC A o len r U V → Got a D fV fC A o len r U' V' :=
  fun r U U' V V' h1 hal h2 ⟨e0, D', X, a1, a2, a3, a4, a5, a6, a7, a8, a9, a10, a11⟩ => ⟨e0, D', X, a1.mv hal h2, a2, by rw [h1]; exact a3, a4, by rw [h1]; exact a5.mv hal h2, a6, by rw [hal.findClass]; exact a7, a8, a9, by rw [h1, h2]; exact a10, by rw [h1, h2]; exact a11⟩
namespace New4
def yN : MethodName := ⟨"java/lang/String", "<init>", "([CIILjava/lang/Void;)V"⟩
abbrev yB : ByteArray := jdk_42_method_149_code
theorem d0 : decode yB 0 = .ok (.aload_n 0, 1) := by decide +kernel
theorem d1 : decode yB 1 = .ok (.invokespecial 1, 3) := by decide +kernel
theorem d4 : decode yB 4 = .ok (.iload_n 3, 1) := by decide +kernel
theorem d5 : decode yB 5 = .ok (.ifCond (.ne) 22, 3) := by decide +kernel
theorem d27 : decode yB 27 = .ok (.getstatic 38, 3) := by decide +kernel
theorem d30 : decode yB 30 = .ok (.ifCond (.eq) 28, 3) := by decide +kernel
theorem d33 : decode yB 33 = .ok (.aload_n 1, 1) := by decide +kernel
theorem d34 : decode yB 34 = .ok (.iload_n 2, 1) := by decide +kernel
theorem d35 : decode yB 35 = .ok (.iload_n 3, 1) := by decide +kernel
theorem d36 : decode yB 36 = .ok (.invokestatic 177, 3) := by decide +kernel
theorem d39 : decode yB 39 = .ok (.astore 5, 2) := by decide +kernel
theorem d41 : decode yB 41 = .ok (.aload_n 0, 1) := by decide +kernel
theorem d42 : decode yB 42 = .ok (.aload 5, 2) := by decide +kernel
theorem d44 : decode yB 44 = .ok (.iload_n 3, 1) := by decide +kernel
theorem d45 : decode yB 45 = .ok (.invokestatic 47, 3) := by decide +kernel
theorem d48 : decode yB 48 = .ok (.putfield 15, 3) := by decide +kernel
theorem d51 : decode yB 51 = .ok (.aload_n 0, 1) := by decide +kernel
theorem d52 : decode yB 52 = .ok (.aload 5, 2) := by decide +kernel
theorem d54 : decode yB 54 = .ok (.putfield 9, 3) := by decide +kernel
theorem d57 : decode yB 57 = .ok (.return_, 1) := by decide +kernel
def site : List Cond := [.fieldLink "java/lang/String" 38 "java/lang/String" "COMPACT_STRINGS" "Z", Cmp3.tab, CodL.tab, .laysFinal "java/lang/String" "java/lang/String" "value" "[B", .fieldLink "java/lang/String" 9 "java/lang/String" "value" "[B", .laysFinal "java/lang/String" "java/lang/String" "coder" "B", .fieldLink "java/lang/String" 15 "java/lang/String" "coder" "B"] ++ objW "java/lang/String" 1 ++ staticW "java/lang/String" 177 Cmp3.yN ++ staticW "java/lang/String" 47 CodL.yN
def tab : Cond := tabOf yN yB 6 none site
def P (a : Addr) (D : Cell) (fV fC : Field) (b : Addr) (A : Cell) (z : Int32) (o len : Nat) (args : Array Value) (s : State) : Prop := args = #[.ref a, .ref b, .int (Int32.ofNat o), .int (Int32.ofNat len), .null] ∧ Blank "java/lang/String" a D s ∧ Found "java/lang/String" "value" "[B" fV s ∧ Found "java/lang/String" "coder" "B" fC s ∧ Ch b A s ∧ StaticIs s "java/lang/String" "COMPACT_STRINGS" "Z" (.int z) ∧ ¬ z = 0 ∧ 0 < len ∧ o + len ≤ A.slots.size ∧ len ≤ 536870912 ∧ ∀ i, i < len → ¬ 255 < cv A (o + i)
def E (a : Addr) (D : Cell) (fV fC : Field) (A : Cell) (o len : Nat) (r : Option Value) (s u : State) : Prop := Got a D fV fC A o len r s u
/-- len > 0, no char of the range above 255: a Latin-1 String of their low bytes -/
theorem law (l : Launch) (a : Addr) (D : Cell) (fV fC : Field) (b : Addr) (A : Cell) (z : Int32) (o len : Nat) : Law l yN 5 4 2 35 yB 6 none site (P a D fV fC b A z o len) (E a D fV fC A o len) [⟨a, fC.slot⟩, ⟨a, fV.slot⟩] 1 len := by
  refine Law.of_walk (plainFor_of_name (by decide +kernel)) (by decide +kernel) (by decide +kernel) (by decide) (fun _ _ h => by rw [h.1]; rfl) (fun _ U U' hal hh h => ⟨h.1, h.2.1.mv hal hh, h.2.2.1.al hal, h.2.2.2.1.al hal, h.2.2.2.2.1.mv hal hh, h.2.2.2.2.2.1.there hal hh, h.2.2.2.2.2.2⟩) (fun r U U' V V' h1 hal h2 h => Got.mv r U U' V V' h1 hal h2 h) ?_
  intro p e s m args below meth c s₁ X0 hexec hbytes hml hret hlk hnm hown hh0 W hP
  obtain ⟨rfl, hB, f1, f2, hA, s1, hz, l0, l1, l2, hp⟩ := hP
  have a31 := hA.1.2.2.2
  have c1 : Steps p.tables e below (s₁.setTop (entryFrame m #[.ref a, .ref b, .int (Int32.ofNat o), .int (Int32.ofNat len), .null] 6)) (s₁.setTop (mkF m 0 #[.val (.ref a), .val (.ref b), .val (.int (Int32.ofNat o)), .val (.int (Int32.ofNat len)), .val .null, .unset] [])) := entry rfl
  have c2 : Steps p.tables e below (s₁.setTop (entryFrame m #[.ref a, .ref b, .int (Int32.ofNat o), .int (Int32.ofNat len), .null] 6)) (s₁.setTop (mkF m 1 #[.val (.ref a), .val (.ref b), .val (.int (Int32.ofNat o)), .val (.int (Int32.ofNat len)), .val .null, .unset] [.ref a])) := c1.trans (by
    refine XS.aloadN X0.here hexec rfl (hb hbytes d0) rfl rfl ?_
    exact Steps.refl _)
  obtain ⟨T3, X3, q3, st3⟩ := X0.oinit hexec hown (wks W (objW "java/lang/String" 1)) (g := (mkF m 1 #[.val (.ref a), .val (.ref b), .val (.int (Int32.ofNat o)), .val (.int (Int32.ofNat len)), .val .null, .unset] [.ref a])) rfl (by rw [hml]; rfl) (rest := []) rfl (hb hbytes d1) (W := 0) (by show 2 * 0 + 0 ≤ _; decide) (Nat.le_of_ble_eq_true rfl) (Nat.le_of_ble_eq_true rfl)
  have hh3 := q3.trans hh0
  have c4 : Steps p.tables e below (s₁.setTop (entryFrame m #[.ref a, .ref b, .int (Int32.ofNat o), .int (Int32.ofNat len), .null] 6)) (T3.setTop (mkF m 27 #[.val (.ref a), .val (.ref b), .val (.int (Int32.ofNat o)), .val (.int (Int32.ofNat len)), .val .null, .unset] [])) := (c2.trans (st3 _ (Steps.refl _))).trans (by
    refine XS.iloadN X3.here hexec rfl (hb hbytes d4) rfl ?_
    refine XS.ifYes X3.here hexec rfl (pc0 := 5) rfl (hb hbytes d5) rfl (i0_ne_t (nz32 (by omega) l0)) (by decide) rfl ?_
    exact Steps.refl _)
  obtain ⟨T5, X5, q5, st5⟩ := X3.sget hexec hown (wk W (.fieldLink "java/lang/String" 38 "java/lang/String" "COMPACT_STRINGS" "Z")) s1 (fun _ _ h => by rw [hh3]; exact h) (g := (mkF m 27 #[.val (.ref a), .val (.ref b), .val (.int (Int32.ofNat o)), .val (.int (Int32.ofNat len)), .val .null, .unset] [])) rfl (hb hbytes d27)
  have hh5 := q5.trans hh3
  have c6 : Steps p.tables e below (s₁.setTop (entryFrame m #[.ref a, .ref b, .int (Int32.ofNat o), .int (Int32.ofNat len), .null] 6)) (T5.setTop (mkF m 30 #[.val (.ref a), .val (.ref b), .val (.int (Int32.ofNat o)), .val (.int (Int32.ofNat len)), .val .null, .unset] [.int z])) := c4.trans (st5 _ (Steps.refl _))
  have c7 : Steps p.tables e below (s₁.setTop (entryFrame m #[.ref a, .ref b, .int (Int32.ofNat o), .int (Int32.ofNat len), .null] 6)) (T5.setTop (mkF m 36 #[.val (.ref a), .val (.ref b), .val (.int (Int32.ofNat o)), .val (.int (Int32.ofNat len)), .val .null, .unset] [.int (Int32.ofNat len), .int (Int32.ofNat o), .ref b])) := c6.trans (by
    refine XS.ifNo X5.here hexec rfl (hb hbytes d30) rfl (i0_eq_f hz) ?_
    refine XS.aloadN X5.here hexec rfl (hb hbytes d33) rfl rfl ?_
    refine XS.iloadN X5.here hexec rfl (hb hbytes d34) rfl ?_
    refine XS.iloadN X5.here hexec rfl (hb hbytes d35) rfl ?_
    exact Steps.refl _)
  obtain ⟨v8, T8, X8, E8, g8⟩ := X5.callS hexec (Cmp3.law l b A o len) hown (wks W (staticW "java/lang/String" 177 Cmp3.yN)) (wk W Cmp3.tab) (W := 0) (Nat.le_of_ble_eq_true rfl) (Nat.le_of_ble_eq_true rfl) (Nat.le_refl _) (by show 0 + len ≤ len; omega) (g := (mkF m 36 #[.val (.ref a), .val (.ref b), .val (.int (Int32.ofNat o)), .val (.int (Int32.ofNat len)), .val .null, .unset] [.int (Int32.ofNat len), .int (Int32.ofNat o), .ref b])) rfl (by rw [hml]; rfl) c7 (argsL := [.ref b, .int (Int32.ofNat o), .int (Int32.ofNat len)]) (rest := []) rfl rfl (by show 2 * 0 + 0 ≤ _; decide) (hb hbytes d36) (⟨rfl, hA.mv X5.warmed.alike hh5, l1, l2, hp⟩)
  obtain ⟨e8, z8⟩ := E8
  obtain ⟨rfl, N, n1, n2, n3, n4, n5, n6⟩ := NewArr.mv _ T5 s _ _ hh5.symm (Vm.Alike.refl _) rfl e8
  rw [hh5] at z8
  have hB1 := hB.keep X8.warmed.alike (n6 _ _ hB.1)
  have hne : s.heap.size ≠ a := (Nat.ne_of_lt (Array.getElem?_eq_some_iff.mp hB.1).1).symm
  have c9 : Steps p.tables e below (s₁.setTop (entryFrame m #[.ref a, .ref b, .int (Int32.ofNat o), .int (Int32.ofNat len), .null] 6)) (T8.setTop (mkF m 39 #[.val (.ref a), .val (.ref b), .val (.int (Int32.ofNat o)), .val (.int (Int32.ofNat len)), .val .null, .unset] [.ref s.heap.size])) := g8
  have c10 : Steps p.tables e below (s₁.setTop (entryFrame m #[.ref a, .ref b, .int (Int32.ofNat o), .int (Int32.ofNat len), .null] 6)) (T8.setTop (mkF m 45 #[.val (.ref a), .val (.ref b), .val (.int (Int32.ofNat o)), .val (.int (Int32.ofNat len)), .val .null, .val (.ref s.heap.size)] [.int (Int32.ofNat N.slots.size), .ref s.heap.size, .ref a])) := by
    have hc : Steps p.tables e below (s₁.setTop (entryFrame m #[.ref a, .ref b, .int (Int32.ofNat o), .int (Int32.ofNat len), .null] 6)) (T8.setTop (mkF m 45 #[.val (.ref a), .val (.ref b), .val (.int (Int32.ofNat o)), .val (.int (Int32.ofNat len)), .val .null, .val (.ref s.heap.size)] [.int (Int32.ofNat len), .ref s.heap.size, .ref a])) := c9.trans (by
      refine XS.astore X8.here hexec rfl (hb hbytes d39) rfl rfl rfl ?_
      refine XS.aloadN X8.here hexec rfl (hb hbytes d41) rfl rfl ?_
      refine XS.aload X8.here hexec rfl (hb hbytes d42) rfl rfl ?_
      refine XS.iloadN X8.here hexec rfl (hb hbytes d44) rfl ?_
      exact Steps.refl _)
    rw [n4]; exact hc
  obtain ⟨v11, T11, X11, E11, g11⟩ := X8.callS hexec (CodL.law l s.heap.size N) hown (wks W (staticW "java/lang/String" 47 CodL.yN)) (wk W CodL.tab) (W := 1) (Nat.le_of_ble_eq_true rfl) (Nat.le_of_ble_eq_true rfl) (Nat.le_refl _) (by show 0 + len + 0 ≤ len; omega) (g := (mkF m 45 #[.val (.ref a), .val (.ref b), .val (.int (Int32.ofNat o)), .val (.int (Int32.ofNat len)), .val .null, .val (.ref s.heap.size)] [.int (Int32.ofNat N.slots.size), .ref s.heap.size, .ref a])) rfl (by rw [hml]; rfl) c10 (argsL := [.ref s.heap.size, .int (Int32.ofNat N.slots.size)]) (rest := [.ref a]) rfl rfl (by show 2 * 0 + (1 + 0) ≤ _; decide) (hb hbytes d45) (⟨rfl, n1⟩)
  obtain ⟨rfl, q11⟩ := E11
  have hB11 := hB1.mv (X8.warmed.alike.symm.trans X11.warmed.alike) q11
  have c12 : Steps p.tables e below (s₁.setTop (entryFrame m #[.ref a, .ref b, .int (Int32.ofNat o), .int (Int32.ofNat len), .null] 6)) (T11.setTop (mkF m 48 #[.val (.ref a), .val (.ref b), .val (.int (Int32.ofNat o)), .val (.int (Int32.ofNat len)), .val .null, .val (.ref s.heap.size)] [.int 0, .ref a])) := g11
  obtain ⟨T13, X13, p13, bl13, sl13, st13⟩ := X11.finit hexec hown (wk W (.fieldLink "java/lang/String" 15 "java/lang/String" "coder" "B")) (Or.inr ⟨_, (wk W (.laysFinal "java/lang/String" "java/lang/String" "coder" "B"))⟩) (Or.inl ⟨rfl, hnm⟩) f2 (Or.inl rfl) hB11 (t := .byte) (by decide +kernel) rfl (g := (mkF m 48 #[.val (.ref a), .val (.ref b), .val (.int (Int32.ofNat o)), .val (.int (Int32.ofNat len)), .val .null, .val (.ref s.heap.size)] [.int 0, .ref a])) rfl (rest := []) rfl (hb hbytes d48)
  have c14 : Steps p.tables e below (s₁.setTop (entryFrame m #[.ref a, .ref b, .int (Int32.ofNat o), .int (Int32.ofNat len), .null] 6)) (T13.setTop (mkF m 54 #[.val (.ref a), .val (.ref b), .val (.int (Int32.ofNat o)), .val (.int (Int32.ofNat len)), .val .null, .val (.ref s.heap.size)] [.ref s.heap.size, .ref a])) := (c12.trans (st13 _ (Steps.refl _))).trans (by
    refine XS.aloadN X13.here hexec rfl (hb hbytes d51) rfl rfl ?_
    refine XS.aload X13.here hexec rfl (hb hbytes d52) rfl rfl ?_
    exact Steps.refl _)
  obtain ⟨T15, X15, p15, bl15, sl15, st15⟩ := X13.finit hexec hown (wk W (.fieldLink "java/lang/String" 9 "java/lang/String" "value" "[B")) (Or.inr ⟨_, (wk W (.laysFinal "java/lang/String" "java/lang/String" "value" "[B"))⟩) (Or.inl ⟨rfl, hnm⟩) f1 (Or.inl rfl) bl13 (t := (.array .byte)) (by decide +kernel) rfl (g := (mkF m 54 #[.val (.ref a), .val (.ref b), .val (.int (Int32.ofNat o)), .val (.int (Int32.ofNat len)), .val .null, .val (.ref s.heap.size)] [.ref s.heap.size, .ref a])) rfl (rest := []) rfl (hb hbytes d54)
  have c16 : Steps p.tables e below (s₁.setTop (entryFrame m #[.ref a, .ref b, .int (Int32.ofNat o), .int (Int32.ofNat len), .null] 6)) (T15.setTop (mkF m 57 #[.val (.ref a), .val (.ref b), .val (.int (Int32.ofNat o)), .val (.int (Int32.ofNat len)), .val .null, .val (.ref s.heap.size)] [])) := c14.trans (st15 _ (Steps.refl _))
  have ap := apart (Or.inr ⟨_, (wk W (.laysFinal "java/lang/String" "java/lang/String" "value" "[B"))⟩) (Or.inr ⟨_, (wk W (.laysFinal "java/lang/String" "java/lang/String" "coder" "B"))⟩) f1 f2 (t₁ := .array .byte) (t₂ := .byte) (by decide +kernel) (by decide +kernel) (by decide)
  have al := X8.warmed.alike.symm.trans X15.warmed.alike
  have n7 : T11.heap[s.heap.size]? = some N := by rw [q11]; exact n1.1
  exact ⟨T15, none, _, _, _, X15, by simp, rfl, by omega, (fun _ => rfl), ⟨rfl, _, N, bl15, ((Same.refl D _).set _ (by simp)).set _ (by simp), sl15, (Cell.slots_setSlot_ne _ ap).trans sl13, n1.keep al (p15.other hne (p13.other hne n7)), n2, by rw [al.findClass]; exact n3, n4, n5, fun y c h1 h2 => p15.other h1 (p13.other h1 (by rw [q11]; exact n6 y c h2)), by rw [p15.2.2, p13.2.2, q11]; exact z8⟩, fun fs hl => c16.trans (X15.returnOut hexec hret (hb hbytes d57) hl)⟩
end New4
namespace New1
def yN : MethodName := ⟨"java/lang/String", "<init>", "([C)V"⟩
abbrev yB : ByteArray := jdk_42_method_3_code
theorem d0 : decode yB 0 = .ok (.aload_n 0, 1) := by decide +kernel
theorem d1 : decode yB 1 = .ok (.aload_n 1, 1) := by decide +kernel
theorem d2 : decode yB 2 = .ok (.iconst 0, 1) := by decide +kernel
theorem d3 : decode yB 3 = .ok (.aload_n 1, 1) := by decide +kernel
theorem d4 : decode yB 4 = .ok (.arraylength, 1) := by decide +kernel
theorem d5 : decode yB 5 = .ok (.aconst_null, 1) := by decide +kernel
theorem d6 : decode yB 6 = .ok (.invokespecial 27, 3) := by decide +kernel
theorem d9 : decode yB 9 = .ok (.return_, 1) := by decide +kernel
def site : List Cond := [New4.tab] ++ initW "java/lang/String" 27 New4.yN
def tab : Cond := tabOf yN yB 2 none site
def P (a : Addr) (D : Cell) (fV fC : Field) (b : Addr) (A : Cell) (z : Int32) (args : Array Value) (s : State) : Prop := args = #[.ref a, .ref b] ∧ Blank "java/lang/String" a D s ∧ Found "java/lang/String" "value" "[B" fV s ∧ Found "java/lang/String" "coder" "B" fC s ∧ Ch b A s ∧ StaticIs s "java/lang/String" "COMPACT_STRINGS" "Z" (.int z) ∧ ¬ z = 0 ∧ 0 < A.slots.size ∧ A.slots.size ≤ 536870912 ∧ ∀ i, i < A.slots.size → ¬ 255 < cv A i
def E (a : Addr) (D : Cell) (fV fC : Field) (A : Cell) (r : Option Value) (s u : State) : Prop := Got a D fV fC A 0 A.slots.size r s u
/-- new String(chars), not empty, no char above 255: a Latin-1 String of their low bytes -/
theorem law (l : Launch) (a : Addr) (D : Cell) (fV fC : Field) (b : Addr) (A : Cell) (z : Int32) : Law l yN 2 1 3 52 yB 2 none site (P a D fV fC b A z) (E a D fV fC A) [⟨a, fC.slot⟩, ⟨a, fV.slot⟩] 1 A.slots.size := by
  refine Law.of_walk (plainFor_of_name (by decide +kernel)) (by decide +kernel) (by decide +kernel) (by decide) (fun _ _ h => by rw [h.1]; rfl) (fun _ U U' hal hh h => ⟨h.1, h.2.1.mv hal hh, h.2.2.1.al hal, h.2.2.2.1.al hal, h.2.2.2.2.1.mv hal hh, h.2.2.2.2.2.1.there hal hh, h.2.2.2.2.2.2⟩) (fun r U U' V V' h1 hal h2 h => Got.mv r U U' V V' h1 hal h2 h) ?_
  intro p e s m args below meth c s₁ X0 hexec hbytes hml hret hlk hnm hown hh0 W hP
  obtain ⟨rfl, hB, f1, f2, hA, s1, hz, l0, l2, hp⟩ := hP
  have c1 : Steps p.tables e below (s₁.setTop (entryFrame m #[.ref a, .ref b] 2)) (s₁.setTop (mkF m 0 #[.val (.ref a), .val (.ref b)] [])) := entry rfl
  have c2 : Steps p.tables e below (s₁.setTop (entryFrame m #[.ref a, .ref b] 2)) (s₁.setTop (mkF m 6 #[.val (.ref a), .val (.ref b)] [.null, .int (Int32.ofNat A.slots.size), .int 0, .ref b, .ref a])) := c1.trans (by
    refine XS.aloadN X0.here hexec rfl (hb hbytes d0) rfl rfl ?_
    refine XS.aloadN X0.here hexec rfl (hb hbytes d1) rfl rfl ?_
    refine iconstV X0.here hexec rfl 0 (hb hbytes d2) (by decide) ?_
    refine XS.aloadN X0.here hexec rfl (hb hbytes d3) rfl rfl ?_
    refine X0.alen hexec (hA.1.mv X0.warmed.alike hh0) rfl rfl (hb hbytes d4) ?_
    refine XS.aconstNull X0.here hexec rfl (hb hbytes d5) ?_
    exact Steps.refl _)
  obtain ⟨v3, T3, X3, E3, g3⟩ := X0.callN hexec (New4.law l a D fV fC b A z 0 A.slots.size) rfl hown (wks W (initW "java/lang/String" 27 New4.yN)) (W New4.tab (by simp only [site, List.mem_cons, List.mem_append, true_or, or_true])) (W := 0) (Nat.le_of_ble_eq_true rfl) (Nat.le_of_ble_eq_true rfl) (Nat.le_refl _) (by show 0 + A.slots.size ≤ A.slots.size; omega) (g := (mkF m 6 #[.val (.ref a), .val (.ref b)] [.null, .int (Int32.ofNat A.slots.size), .int (Int32.ofNat 0), .ref b, .ref a])) rfl (by rw [hml]; rfl) c2 (argsL := [.ref b, .int (Int32.ofNat 0), .int (Int32.ofNat A.slots.size), .null]) (rest := []) rfl rfl (by show 2 * 0 + 0 ≤ _; decide) (hb hbytes d6) (⟨rfl, hB.mv X0.warmed.alike hh0, f1.al X0.warmed.alike, f2.al X0.warmed.alike, hA.mv X0.warmed.alike hh0, s1.there X0.warmed.alike hh0, hz, l0, by omega, l2, fun i hi => by rw [Nat.zero_add]; exact hp i hi⟩)
  have e0 := Got.mv _ s₁ s _ _ hh0.symm (Vm.Alike.refl _) rfl E3
  obtain rfl := e0.1
  have c4 : Steps p.tables e below (s₁.setTop (entryFrame m #[.ref a, .ref b] 2)) (T3.setTop (mkF m 9 #[.val (.ref a), .val (.ref b)] [])) := g3
  exact ⟨T3, none, _, _, _, X3, by simp, rfl, by omega, (fun _ => rfl), e0, fun fs hl => c4.trans (X3.returnOut hexec hret (hb hbytes d9) hl)⟩
theorem pays {l : Launch} {R : Room} {p : Program} {e : Env} {below : List Frame} {s : State} {sargs : Array Value} {len W : Nat} (a : Addr) (D : Cell) (fV fC : Field) (b : Addr) (A : Cell) (z : Int32) (htab : tab.before sargs s = true) (hfr : 4 ≤ R.frames) (hlo : W + 65 ≤ R.locals) :
    Back l R p e below s sargs yN len W (fun A₁ a₁ => A₁.cells + 1 ≤ R.cells ∧ A₁.slots + A.slots.size ≤ R.slots ∧ P a D fV fC b A z a₁ A₁.U) (fun A₁ _ v₁ B₁ => E a D fV fC A v₁ A₁.U B₁.U ∧ B₁.locs = A₁.locs ++ [⟨a, fC.slot⟩, ⟨a, fV.slot⟩] ∧ B₁.cells = A₁.cells + 1 ∧ B₁.slots = A₁.slots + A.slots.size) :=
  (law l a D fV fC b A z).pays htab hfr (by omega)
end New1
/-- the byte, read back as charAt reads it, is the char -/
theorem lo8_mask {x : Int32} (h0 : ¬ x < 0) (h1 : ¬ 255 < x) : lo8 x &&& 255 = x := by
  have t : ∀ k : Fin 256, lo8 (Int32.ofNat k.val) &&& 255 = Int32.ofNat k.val := by decide +kernel
  rw [Int32.lt_iff_toInt_lt] at h0 h1
  have e0 : (0 : Int32).toInt = 0 := rfl
  have e1 : (255 : Int32).toInt = 255 := rfl
  obtain ⟨k, hk⟩ : ∃ k : Nat, x.toInt = k := ⟨x.toInt.toNat, by omega⟩
  have hx : x = Int32.ofNat k := Int32.toInt_inj.mp (by rw [hk, Int32.toInt_ofNat_small (by omega)])
  rw [hx]
  exact t ⟨k, by omega⟩
end StrChars
namespace StrChars.Road
open Jvm Sem ClassFile Op Lib Jvm.Stand Jvm.Free Jvm.Free.XT
open Jvm.Lib.Cold (StaticIs)
abbrev ST : String := "java/lang/String"
/-- every table word that New1's law asks, flat -/
abbrev words : List Jvm.Cond := [.code New1.yN New1.yB 2 none, .initialized ST, .methodLink ST 27 New4.yN, .instanceMethod New4.yN,
  .code New4.yN New4.yB 6 none, .fieldLink ST 38 ST "COMPACT_STRINGS" "Z", .laysFinal ST ST "value" "[B", .fieldLink ST 9 ST "value" "[B", .laysFinal ST ST "coder" "B", .fieldLink ST 15 ST "coder" "B",
  .methodLink ST 1 Lib.objectInit, .instanceMethod Lib.objectInit, .code Lib.objectInit ⟨#[0xb1]⟩ 1 none, .methodLink ST 177 Cmp3.yN, .static Cmp3.yN, .methodLink ST 47 CodL.yN, .static CodL.yN,
  .code Cmp3.yN Cmp3.yB 6 (some (.array .byte)), .initialized U16, .arrayClass .byte, .methodLink U16 115 Cmp5.yN, .static Cmp5.yN, .code Cmp5.yN Cmp5.yB 7 (some .int), .code CodL.yN CodL.yB 2 (some .byte)]
theorem tab_of {a : Array Value} {s : State} (h : ∀ w ∈ words, w.before a s = true) : New1.tab.before a s = true := by
  have h5 : Cmp5.tab.before a s = true := unparts (wk h (.code Cmp5.yN Cmp5.yB 7 (some .int))) (wks h (.initialized Cmp5.yN.cls :: Cmp5.site))
  have hc : CodL.tab.before a s = true := unparts (wk h (.code CodL.yN CodL.yB 2 (some .byte))) (wks h (.initialized CodL.yN.cls :: CodL.site))
  have q5 : ∀ w ∈ Cmp5.tab :: words, w.before a s = true := fun w hw => (List.mem_cons.mp hw).elim (fun e => e ▸ h5) (h w)
  have h3 : Cmp3.tab.before a s = true := unparts (wk q5 (.code Cmp3.yN Cmp3.yB 6 (some (.array .byte)))) (wks q5 (.initialized Cmp3.yN.cls :: Cmp3.site))
  have q3 : ∀ w ∈ Cmp3.tab :: CodL.tab :: words, w.before a s = true := fun w hw => (List.mem_cons.mp hw).elim (fun e => e ▸ h3) fun hw => (List.mem_cons.mp hw).elim (fun e => e ▸ hc) (h w)
  have h4 : New4.tab.before a s = true := unparts (wk q3 (.code New4.yN New4.yB 6 none)) (wks q3 (.initialized New4.yN.cls :: New4.site))
  have q4 : ∀ w ∈ New4.tab :: words, w.before a s = true := fun w hw => (List.mem_cons.mp hw).elim (fun e => e ▸ h4) (h w)
  exact unparts (wk q4 (.code New1.yN New1.yB 2 none)) (wks q4 (.initialized New1.yN.cls :: New1.site))
/-- the words ride from the start Z to the walk's own state -/
theorem moved {Z s : State} {a0 args : Array Value} (hZ : Z.Warmed39 s.vm) (hw : ∀ d ∈ words, d.before a0 Z = true) : ∀ d ∈ words, d.before args s = true := fun d hd => by
  have q := hw d hd
  have t : ∀ d ∈ words, d = .arrayClass .byte ∨ (d.onTables && d.keepsFace) = true := by decide +kernel
  rcases t d hd with rfl | t
  · exact RoadKit.mvA hZ q
  · exact RoadKit.mv hZ q t
/-- WHAT COMES BACK, over the tables of the start Z: h the heap at the call, h' behind it -/
def Q (Z : State) (x : Addr) (A : Cell) (h : Heap) (v : Option Value) (h' : Heap) (L : List Loc) : Prop := v = none ∧ (∀ y ∈ L, y.base = x) ∧ RoadKit.Keep h h' [x] ∧ h'.size = h.size + 1 ∧ RoadKit.Exa Z h' x ST ∧ RoadKit.Fld Z h' x ST "value" "[B" (.ref h.size) ∧ RoadKit.Fld Z h' x ST "coder" "B" (.int 0) ∧
  (∃ V : Cell, RoadKit.Arr Z h' h.size V .byte ∧ V.vm = .none ∧ Z.vm.findClass "[B" = some V.cls ∧ V.slots.size = A.slots.size ∧ ∀ j, j < A.slots.size → V.slots[j]? = some (.int (lo8 (cv A j)))) ∧
  ∀ (O n d : String) (w : Value), RoadKit.Fld Z h x O n d w → RoadKit.slotOf Z O n d ≠ RoadKit.slotOf Z ST "value" "[B" → RoadKit.slotOf Z O n d ≠ RoadKit.slotOf Z ST "coder" "B" → RoadKit.Fld Z h' x O n d w
/-- **new String(chars) AT A CALL, IN THE ROAD'S FORM**: for specialBack behind newO: x the fresh String, b the char[] with the cell A -/
theorem back {p : Program} {l : Launch} {e : Env} {R : Room} {s : State} {args : Array Value} {below : List Frame} {len W : Nat} {Z : State} {a0 : Array Value} {h : Heap} (hZ : Z.Warmed39 s.vm) (hw : ∀ d ∈ words, d.before a0 Z = true) {kI : Nat} (wi : (Jvm.Cond.instantiable ST kI).before a0 Z = true)
    {x b : Addr} {A : Cell} {z : Int32} {v0 c0 : Value} (E : RoadKit.Exa Z h x ST) (V : RoadKit.Fld Z h x ST "value" "[B" v0) (C : RoadKit.Fld Z h x ST "coder" "B" c0) (K : RoadKit.Arr Z h b A .char) (hty : Typed .char A) (S : RoadKit.Sta Z h ST "COMPACT_STRINGS" "Z" (.int z)) (hz : ¬ z = 0)
    (l0 : 0 < A.slots.size) (l2 : A.slots.size ≤ 536870912) (hp : ∀ i, i < A.slots.size → ¬ 255 < cv A i) (hfr : 4 ≤ R.frames) (hlo : W + 65 ≤ R.locals) :
    Back l R p e below s args New1.yN len W (fun P a => a = #[.ref x, .ref b] ∧ P.U.heap = h ∧ P.cells + 1 ≤ R.cells ∧ P.slots + A.slots.size ≤ R.slots)
      (fun P _ v B => ∃ L, Q Z x A h v B.U.heap L ∧ B.locs = P.locs ++ L ∧ B.cells = P.cells + 1 ∧ B.slots = P.slots + A.slots.size) := by
  intro m meth c P g ig mk a X hg hsize hdg hW hn hp'
  obtain ⟨rfl, rfl, r1, r2⟩ := hp'
  have al : Z.vm.Alike P.U.vm := hZ.alike.trans X.warmed.alike
  obtain ⟨D, cfV, kV, iV, fV, hD, gV, stV, knV, obV, asV, slV⟩ := id V
  obtain ⟨D', cfC, kC, iC, fC, hD', gC, stC, -, -, asC, slC⟩ := id C
  cases hD.symm.trans hD'
  obtain ⟨D2, kD, e1, e2, e3, e4, e5⟩ := id E
  cases hD.symm.trans e1
  obtain ⟨c2, k2, i1, i2, i3, -⟩ := Cond.instantiable_spec wi
  cases e2.symm.trans i1
  cases e3.symm.trans i2
  obtain ⟨kU, u1, u2⟩ := al.2.2 _ _ e3
  have hB : Blank ST x D P.U := ⟨hD, ⟨knV, fun q hq => by rw [hq] at obV; cases obV⟩, by rw [al.findClass]; exact e2, kU, u1, by rw [u2]; exact i3, by rw [u2]; exact e5 i3⟩
  have F1 : Found ST "value" "[B" fV P.U := ⟨SBG.found_only al ⟨cfV, kV, iV, gV⟩, stV⟩
  have F2 : Found ST "coder" "B" fC P.U := ⟨SBG.found_only al ⟨cfC, kC, iC, gC⟩, stC⟩
  have hA : Ch b A P.U := ⟨⟨K.1, State.isArrayOf_alike al K.2.1, K.2.2, by omega⟩, hty⟩
  have hS : StaticIs P.U ST "COMPACT_STRINGS" "Z" (.int z) := by
    obtain ⟨cfS, iS, kS, fS, st, cS, t1, t2, t3, t4, t5, t6, t7⟩ := S
    exact StaticIs.there (s := { Z with heap := P.U.heap }) ⟨cfS, iS, kS, fS, st, cS, t1, t2, t3, t4, t5, (fun q => by rw [q] at t6; cases t6), t7⟩ al rfl
  obtain ⟨v, B, X', ⟨⟨hv, E', V', q1, q2, q3, q4, q5, q6, q7, q8, q9, q10, q11⟩, hl, hc, hs⟩, st⟩ := New1.pays x D fV fC b A z (tab_of (moved hZ hw)) hfr hlo m meth c P g ig mk _ X hg hsize hdg hW hn ⟨r1, r2, rfl, hB, F1, F2, hA, hS, hz, l0, l2, hp⟩
  have al' : Z.vm.Alike B.U.vm := hZ.alike.trans X'.warmed.alike
  have hsz : E'.slots.size = D.slots.size := by
    obtain ⟨-, -, -, kB, w1, w2, w3⟩ := q1
    obtain ⟨kB', y1, y2⟩ := al'.2.2 _ _ e3
    rw [q2.2.1] at w1
    cases w1.symm.trans y1
    rw [w3, e5 i3, y2]
  refine ⟨v, B, X', ⟨_, ⟨hv, ?_, ⟨by omega, fun y cy hy hn' => q10 y cy (by simpa using hn') hy, fun y cy hy => ?_⟩, q11, ⟨E', _, q1.1, by rw [q2.2.1]; exact e2, by rw [q2.2.1]; exact e3, by rw [q2.1]; exact obV, fun _ => by rw [hsz]; exact e5 i3⟩,
    ⟨E', cfV, kV, iV, fV, q1.1, gV, stV, by rw [q2.1]; exact knV, by rw [q2.1]; exact obV, by rw [q2.2.1]; exact asV, q3⟩, ⟨E', cfC, kC, iC, fC, q1.1, gC, stC, by rw [q2.1]; exact knV, by rw [q2.1]; exact obV, by rw [q2.2.1]; exact asC, q4⟩,
    ⟨V', ⟨q5.1, State.isArrayOf_alike al'.symm q5.2.1, q5.2.2.1⟩, q6, by rw [← al'.findClass]; exact q7, q8, fun j hj => by have := q9 j hj; rwa [Nat.zero_add] at this⟩, fun O n d w F n1 n2 => ?_⟩, hl, hc, hs⟩, st⟩
  · intro y hy
    simp only [List.mem_cons, List.not_mem_nil, or_false] at hy
    rcases hy with rfl | rfl <;> rfl
  · by_cases q : y = x
    · subst q
      cases hD.symm.trans hy
      exact ⟨E', q1.1, q2.2.1, q2.1, hsz⟩
    · exact ⟨cy, q10 y cy q hy, rfl, rfl, rfl⟩
  · obtain ⟨D3, cf, k, i, f, g1, g2, g3, g4, g5, g6, g7⟩ := F
    cases hD.symm.trans g1
    simp only [RoadKit.slotOf, g2, gV, gC, Option.map_some, Option.getD_some] at n1 n2
    exact ⟨E', cf, k, i, f, q1.1, g2, g3, by rw [q2.1]; exact g4, by rw [q2.1]; exact g5, by rw [q2.2.1]; exact g6, by rw [q2.2.2 f.slot (by simp [n1, n2])]; exact g7⟩
end StrChars.Road
namespace StrChars.Road
open Jvm Sem ClassFile Op Lib Jvm.Stand Jvm.Free Jvm.Free.XT
/-- WHAT COMES BACK, the byte[] as a list of values -/
def QA (Z : State) (x : Addr) (zn : Int32) (cs : List Int32) (h : Heap) (v : Option Value) (h' : Heap) (L : List Loc) : Prop := v = none ∧ (∀ y ∈ L, y.base = x) ∧ RoadKit.Keep h h' [x] ∧ h'.size = h.size + 1 ∧ RoadKit.Exa Z h' x ST ∧ RoadKit.Fld Z h' x ST "value" "[B" (.ref h.size) ∧ RoadKit.Fld Z h' x ST "coder" "B" (.int 0) ∧
  (∃ kb, Z.vm.findClass "[B" = some kb ∧ RoadKit.Arv Z h' h.size kb .byte zn (cs.map fun c => .int (lo8 c)) (.int 0)) ∧
  ∀ (O n d : String) (w : Value), RoadKit.Fld Z h x O n d w → RoadKit.slotOf Z O n d ≠ RoadKit.slotOf Z ST "value" "[B" → RoadKit.slotOf Z O n d ≠ RoadKit.slotOf Z ST "coder" "B" → RoadKit.Fld Z h' x O n d w
/-- **new String(chars) AT A CALL, THE ARRAYS AS LISTS**: the char[] at b holds cs, not empty, no char above 255 -/
theorem backArv {p : Program} {l : Launch} {e : Env} {R : Room} {s : State} {args : Array Value} {below : List Frame} {len W : Nat} {Z : State} {a0 : Array Value} {h : Heap} (hZ : Z.Warmed39 s.vm) (hw : ∀ d ∈ words, d.before a0 Z = true) {kI : Nat} (wi : (Jvm.Cond.instantiable ST kI).before a0 Z = true)
    {x b : Addr} {k : ClassId} {zn z : Int32} {cs : List Int32} {dv v0 c0 : Value} (E : RoadKit.Exa Z h x ST) (V : RoadKit.Fld Z h x ST "value" "[B" v0) (C : RoadKit.Fld Z h x ST "coder" "B" c0) (K : RoadKit.Arv Z h b k .char zn (cs.map Value.int) dv) (S : RoadKit.Sta Z h ST "COMPACT_STRINGS" "Z" (.int z)) (hz : ¬ z = 0)
    (hlen : zn.toNatClampNeg = cs.length) (h0 : 0 < cs.length) (hbig : cs.length ≤ 536870912) (hall : ∀ c ∈ cs, ¬ 255 < c) (hfr : 4 ≤ R.frames) (hlo : W + 65 ≤ R.locals) :
    Back l R p e below s args New1.yN len W (fun P a => a = #[.ref x, .ref b] ∧ P.U.heap = h ∧ P.cells + 1 ≤ R.cells ∧ P.slots + cs.length ≤ R.slots)
      (fun P _ v B => ∃ L, QA Z x zn cs h v B.U.heap L ∧ B.locs = P.locs ++ L ∧ B.cells = P.cells + 1 ∧ B.slots = P.slots + cs.length) := by
  obtain ⟨A, K1, K2, K3, K4, K5, K6⟩ := K
  have e : A.slots.size = cs.length := K3.trans hlen
  have hat : ∀ (i : Nat) (hi : i < cs.length), A.slots[i]? = some (.int cs[i]) := fun i hi => by rw [K5 i (by omega)]; simp [List.getD_eq_getElem?_getD, hi]
  have hcv : ∀ (i : Nat) (hi : i < cs.length), cv A i = cs[i] := fun i hi => by unfold cv; rw [hat i hi]
  have hty : Typed .char A := fun i v hv => by
    have hi : i < A.slots.size := (Array.getElem?_eq_some_iff.mp hv).1
    have q := K5 i hi
    rw [hv] at q
    rw [Option.some.inj q]
    exact K6 i hi
  refine Back.mono (back hZ hw wi E V C K1 hty S hz (by omega) (by omega) (fun i hi => by rw [hcv i (by omega)]; exact hall _ (List.getElem_mem _)) hfr hlo) (fun P a hp => ⟨hp.1, hp.2.1, hp.2.2.1, by rw [e]; exact hp.2.2.2⟩) (fun P a v B hp hq => ?_)
  obtain ⟨L, ⟨q1, q2, q3, q4, q5, q6, q7, ⟨V', v1, v2, v3, v4, v5⟩, q9⟩, hl, hc, hs⟩ := hq
  refine ⟨L, ⟨q1, q2, q3, q4, q5, q6, q7, ⟨V'.cls, v3, V', v1, rfl, by rw [v4, e, hlen], K4, fun i hi => ?_, fun i hi => ?_⟩, q9⟩, hl, hc, by rw [hs, e]⟩
  · have hi' : i < cs.length := by omega
    rw [v5 i (by omega), hcv i hi']; simp [List.getD_eq_getElem?_getD, hi']
  · have hi' : i < cs.length := by omega
    simp only [List.getD_eq_getElem?_getD, List.getElem?_map, List.getElem?_eq_getElem hi', Option.map_some, Option.getD_some]
    exact fits_lo8 _
end StrChars.Road
namespace StrChars.Road
open Jvm Sem ClassFile Op Lib Jvm.Stand Jvm.Free Jvm.Free.XT
/-- WHAT COMES BACK, in the writer's own shape -/
def QV (Z : State) (x : Addr) (N : Int32) (bs : List Int32) (h : Heap) (n0 : Nat) (v : Option Value) (h' : Heap) (L : List Loc) : Prop := v = none ∧ RoadKit.Fr n0 L ∧ RoadKit.Keep h h' [x] ∧ RoadKit.Exa Z h' x ST ∧ RoadKit.Fld Z h' x ST "coder" "B" (.int 0) ∧
  ∃ (t : Addr) (kb : ClassId), n0 ≤ t ∧ h.size ≤ t ∧ ¬ t = x ∧ RoadKit.Fld Z h' x ST "value" "[B" (.ref t) ∧ RoadKit.Arv Z h' t kb .byte N (bs.map Value.int) (.int 0)
/-- **new String(chars) AT A CALL, FOR THE WRITER**: a char[] of n known ints, each 0 to 255 -/
theorem backV {p : Program} {l : Launch} {e : Env} {R : Room} {s : State} {args : Array Value} {below : List Frame} {len W : Nat} {Z : State} {a0 : Array Value} {h : Heap} (hZ : Z.Warmed39 s.vm) (hw : ∀ d ∈ words, d.before a0 Z = true) {kI : Nat} (wi : (Jvm.Cond.instantiable ST kI).before a0 Z = true)
    {x b : Addr} {kC : ClassId} {cs bs : List Int32} {d v0 c0 : Value} {z N : Int32} {n n0 : Nat} (hx0 : n0 ≤ x) (hh0 : n0 ≤ h.size) (E : RoadKit.Exa Z h x ST) (V : RoadKit.Fld Z h x ST "value" "[B" v0) (C : RoadKit.Fld Z h x ST "coder" "B" c0) (K : RoadKit.Arv Z h b kC .char N (cs.map Value.int) d) (S : RoadKit.Sta Z h ST "COMPACT_STRINGS" "Z" (.int z)) (hz : ¬ z = 0)
    (hn : cs.length = n) (hN : N = Int32.ofNat n) (l0 : 0 < n) (l2 : n ≤ 4000) (hp : ∀ c ∈ cs, ¬ c < 0 ∧ ¬ (255 : Int32) < c) (hb : bs = cs.map (fun c => c.toInt8.toInt32)) (hfr : 4 ≤ R.frames) (hlo : W + 65 ≤ R.locals) :
    Back l R p e below s args (⟨"java/lang/String", "<init>", "([C)V"⟩ : MethodName) len W (fun P a => a = #[.ref x, .ref b] ∧ P.U.heap = h ∧ P.cells + 1 ≤ R.cells ∧ P.slots + n ≤ R.slots)
      (fun P _ v B => ∃ L, QV Z x N bs h n0 v B.U.heap L ∧ B.locs = P.locs ++ L ∧ B.cells = P.cells + 1 ∧ B.slots = P.slots + n) := by
  subst hn hN hb
  refine Back.mono (backArv hZ hw wi E V C K S hz (n32 (by omega)) l0 (by omega) (fun c hc => (hp c hc).2) hfr hlo) (fun P a hp => hp) (fun P a v B hp hq => ?_)
  obtain ⟨L, ⟨q1, q2, q3, q4, q5, q6, q7, ⟨kb, v1, v2⟩, q9⟩, hl, hc, hs⟩ := hq
  exact ⟨L, ⟨q1, fun y hy => by rw [q2 y hy]; exact hx0, q3, q5, q7, h.size, kb, hh0, Nat.le_refl _, Nat.ne_of_gt E.lt, q6, by rw [List.map_map]; exact v2⟩, hl, hc, hs⟩
end StrChars.Road
namespace StrChars
open Jvm Sem ClassFile Op Lib Jvm.Stand Jvm.Free.XT Jvm.Free.ALB Jvm.Free.JM Jvm.Free
open Jvm.Lib.Cold (StaticIs)
def hi8 (x : Int32) : Int32 := lo8 (x >>> ((8 : Int32) &&& 31))
/-- what StringUTF16.getChar makes of two bytes -/
def pairCh (u v : Int32) : Int32 := (((u &&& 255) <<< ((0 : Int32) &&& 31)) ||| ((v &&& 255) <<< ((8 : Int32) &&& 31))).toUInt32.toUInt16.toUInt32.toInt32
theorem shr0 (c : Int32) : c >>> ((0 : Int32) &&& 31) = c := by
  have e : ((0 : Int32) &&& 31) = 0 := by decide
  rw [e]
  apply Int32.toBitVec_inj.mp
  rw [Int32.toBitVec_shiftRight]
  have e1 : ((0 : Int32).toBitVec.smod 32) = 0#32 := by decide
  rw [e1, BitVec.sshiftRight_eq']
  exact BitVec.sshiftRight_zero
theorem lo8_and (x : Int32) : (lo8 x &&& 255).toBitVec.toNat = x.toBitVec.toNat % 256 := by
  have h : (lo8 x).toBitVec = (x.toBitVec.signExtend 8).signExtend 32 := by rw [lo8, Int8.toBitVec_toInt32, Int32.toBitVec_toInt8]
  rw [Int32.toBitVec_and, BitVec.toNat_and, h]
  have e : ((x.toBitVec.signExtend 8).signExtend 32).toNat % 256 = x.toBitVec.toNat % 256 := by
    rw [BitVec.toNat_signExtend]
    have hlt := x.toBitVec.isLt
    simp only [BitVec.toNat_setWidth, BitVec.toNat_signExtend]
    split <;> split <;> omega
  rw [← e]
  exact Nat.and_two_pow_sub_one_eq_mod _ 8
theorem pair_says {c : Int32} (h0 : ¬ c < 0) (h1 : ¬ 65535 < c) : pairCh (lo8 c) (hi8 c) = c := by
  rw [Int32.lt_iff_toInt_lt] at h0 h1
  have e0 : (0 : Int32).toInt = 0 := rfl
  have e1 : (65535 : Int32).toInt = 65535 := rfl
  have hc : c.toInt = c.toBitVec.toNat := by
    have := c.toBitVec.isLt
    have e : c.toInt = c.toBitVec.toInt := rfl
    rw [e] at h0 h1
    rw [e]
    rw [BitVec.toInt_eq_toNat_cond] at h0 h1 ⊢
    split at h0 <;> split <;> omega
  have hn : c.toBitVec.toNat < 65536 := by omega
  have a1 := lo8_and c
  have a2 : (hi8 c &&& 255).toBitVec.toNat = c.toBitVec.toNat / 256 := by
    rw [hi8, lo8_and]
    have e : ((8 : Int32) &&& 31) = 8 := by decide
    rw [e, Int32.toBitVec_shiftRight]
    have e2 : ((8 : Int32).toBitVec.smod 32) = 8#32 := by decide
    rw [e2, BitVec.sshiftRight_eq', BitVec.toNat_sshiftRight_of_msb_false (by rw [BitVec.msb_eq_false_iff_two_mul_lt]; omega)]
    show c.toBitVec.toNat >>> 8 % 256 = _
    rw [Nat.shiftRight_eq_div_pow]
    omega
  unfold pairCh
  apply Int32.toBitVec_inj.mp
  apply BitVec.eq_of_toNat_eq
  have f0 : ((0 : Int32) &&& 31) = 0 := by decide
  have f8 : ((8 : Int32) &&& 31) = 8 := by decide
  rw [f0, f8]
  have g : (((lo8 c &&& 255) <<< (0 : Int32)) ||| ((hi8 c &&& 255) <<< (8 : Int32))).toBitVec.toNat = c.toBitVec.toNat := by
    rw [Int32.toBitVec_or, Int32.toBitVec_shiftLeft, Int32.toBitVec_shiftLeft]
    have s0 : ((0 : Int32).toBitVec.smod 32) = 0#32 := by decide
    have s8 : ((8 : Int32).toBitVec.smod 32) = 8#32 := by decide
    rw [s0, s8, BitVec.toNat_or]
    simp only [BitVec.shiftLeft_eq', BitVec.toNat_shiftLeft, a1, a2]
    show (c.toBitVec.toNat % 256) <<< 0 % 2 ^ 32 ||| (c.toBitVec.toNat / 256) <<< 8 % 2 ^ 32 = _
    rw [Nat.shiftLeft_zero, Nat.mod_eq_of_lt (show c.toBitVec.toNat % 256 < 2 ^ 32 by omega), Nat.mod_eq_of_lt (show (c.toBitVec.toNat / 256) <<< 8 < 2 ^ 32 by rw [Nat.shiftLeft_eq]; omega), Nat.or_comm, ← Nat.shiftLeft_add_eq_or_of_lt (by omega), Nat.shiftLeft_eq]
    omega
  show BitVec.toNat (((((lo8 c &&& 255) <<< (0 : Int32)) ||| ((hi8 c &&& 255) <<< (8 : Int32))).toBitVec.setWidth 16).setWidth 32) = _
  rw [BitVec.toNat_setWidth, BitVec.toNat_setWidth, g]
  omega
end StrChars
namespace StrChars
open Jvm Sem ClassFile Op Lib Jvm.Stand Jvm.Free.XT Jvm.Free.ALB Jvm.Free.JM Jvm.Free
open Jvm.Lib.Cold (StaticIs)
theorem shr1 {n : Nat} (h : 2 * n < 2 ^ 31) : Int32.ofNat (2 * n) >>> ((1 : Int32) &&& 31) = Int32.ofNat n := by
  have e : ((1 : Int32) &&& 31) = 1 := by decide
  rw [e]
  apply Int32.toBitVec_inj.mp
  rw [Int32.toBitVec_shiftRight]
  have e1 : ((1 : Int32).toBitVec.smod 32) = 1#32 := by decide
  have hm : (BitVec.ofNat 32 (2 * n)).toNat = 2 * n := by rw [BitVec.toNat_ofNat, Nat.mod_eq_of_lt (by omega)]
  rw [e1, BitVec.sshiftRight_eq']
  apply BitVec.eq_of_toNat_eq
  show ((BitVec.ofNat 32 (2 * n)).sshiftRight 1).toNat = (BitVec.ofNat 32 n).toNat
  rw [BitVec.toNat_sshiftRight_of_msb_false (by rw [BitVec.msb_eq_false_iff_two_mul_lt, hm]; omega), hm, BitVec.toNat_ofNat, Nat.shiftRight_eq_div_pow]
  omega
/-- charAt's cast of a byte read back -/
def chr8 (u : Int32) : Int32 := (u &&& 255).toUInt32.toUInt16.toUInt32.toInt32
theorem chr8_lo8 {c : Int32} (h0 : ¬ c < 0) (h1 : ¬ 255 < c) : chr8 (lo8 c) = c := by
  have t : ∀ k : Fin 256, (Int32.ofNat k.val).toUInt32.toUInt16.toUInt32.toInt32 = Int32.ofNat k.val := by decide +kernel
  unfold chr8
  rw [lo8_mask h0 h1]
  rw [Int32.lt_iff_toInt_lt] at h0 h1
  have e0 : (0 : Int32).toInt = 0 := rfl
  have e1 : (255 : Int32).toInt = 255 := rfl
  obtain ⟨k, hk⟩ : ∃ k : Nat, c.toInt = k := ⟨c.toInt.toNat, by omega⟩
  have hx : c = Int32.ofNat k := Int32.toInt_inj.mp (by rw [hk, Int32.toInt_ofNat_small (by omega)])
  rw [hx]
  exact t ⟨k, by omega⟩
theorem narrow_ch {c : Int32} (h0 : ¬ c < 0) (h1 : ¬ 65535 < c) : narrow .char (.int c) = .int c := by
  have q : narrow .char (.int (pairCh (lo8 c) (hi8 c))) = .int (pairCh (lo8 c) (hi8 c)) := narrow_c _
  rwa [pair_says h0 h1] at q
/-- the array's cell V codes the n chars f 0 .. f (n - 1) by the coder cd, as the JDK does: coder 1 just where some char is above 255 -/
def Cod (cd : Int32) (n : Nat) (f : Nat → Int32) (V : Cell) : Prop := (cd = 0 ∧ V.slots.size = n ∧ ∀ j, j < n → V.slots[j]? = some (.int (lo8 (f j))) ∧ ¬ 255 < f j) ∨ (cd = 1 ∧ V.slots.size = 2 * n ∧ (∀ j, j < n → V.slots[2 * j]? = some (.int (lo8 (f j))) ∧ V.slots[2 * j + 1]? = some (.int (hi8 (f j)))) ∧ ∃ j, j < n ∧ 255 < f j)
theorem Cod.cd {cd : Int32} {n : Nat} {f : Nat → Int32} {V : Cell} (h : Cod cd n f V) : cd = 0 ∨ cd = 1 := h.imp (fun q => q.1) fun q => q.1
theorem Cod.len {cd : Int32} {n : Nat} {f : Nat → Int32} {V : Cell} (h : Cod cd n f V) (hs : V.slots.size < 2 ^ 31) : Int32.ofNat V.slots.size >>> (cd &&& 31) = Int32.ofNat n := by
  rcases h with ⟨rfl, h, -⟩ | ⟨rfl, h, -⟩
  · rw [shr0, h]
  · rw [h, shr1 (by omega)]
/-- **x is a String of the n chars f 0 .. f (n - 1)**, Latin-1 or UTF-16; its array at t has the cell V -/
def Txt (x t : Addr) (V : Cell) (cd : Int32) (n : Nat) (f : Nat → Int32) (U : State) : Prop := Exact "java/lang/String" x U ∧ Has x "java/lang/String" "value" "[B" (.ref t) U ∧ Has x "java/lang/String" "coder" "B" (.int cd) U ∧ XT.Arr .byte t V U ∧ Cod cd n f V ∧ ∀ j, j < n → ¬ f j < 0 ∧ ¬ 65535 < f j
theorem Txt.mv {x t : Addr} {V : Cell} {cd : Int32} {n : Nat} {f : Nat → Int32} {U U' : State} (h : Txt x t V cd n f U) (hal : U.vm.Alike U'.vm) (hh : U'.heap = U.heap) : Txt x t V cd n f U' := ⟨h.1.mv hal hh, h.2.1.mv hal hh, h.2.2.1.mv hal hh, h.2.2.2.1.mv hal hh, h.2.2.2.2⟩
namespace Cdr
def yN : MethodName := ⟨"java/lang/String", "coder", "()B"⟩
abbrev yB : ByteArray := jdk_42_method_152_code
theorem d0 : decode yB 0 = .ok (.getstatic 38, 3) := by decide +kernel
theorem d3 : decode yB 3 = .ok (.ifCond (.eq) 10, 3) := by decide +kernel
theorem d6 : decode yB 6 = .ok (.aload_n 0, 1) := by decide +kernel
theorem d7 : decode yB 7 = .ok (.getfield 15, 3) := by decide +kernel
theorem d10 : decode yB 10 = .ok (.goto 4, 3) := by decide +kernel
theorem d14 : decode yB 14 = .ok (.ireturn, 1) := by decide +kernel
def site : List Cond := [.fieldLink "java/lang/String" 38 "java/lang/String" "COMPACT_STRINGS" "Z", .fieldLink "java/lang/String" 15 "java/lang/String" "coder" "B"]
def tab : Cond := tabOf yN yB 1 (some .byte) site
def P (x : Addr) (cd z : Int32) (args : Array Value) (s : State) : Prop := args = #[.ref x] ∧ Has x "java/lang/String" "coder" "B" (.int cd) s ∧ (cd = 0 ∨ cd = 1) ∧ StaticIs s "java/lang/String" "COMPACT_STRINGS" "Z" (.int z) ∧ ¬ z = 0
def E (cd : Int32) (r : Option Value) (s u : State) : Prop := XT.PureE (some (.int cd)) r s u
theorem law (l : Launch) (x : Addr) (cd z : Int32) : Law l yN 1 0 0 0 yB 1 (some .byte) site (P x cd z) (E cd) [] 0 0 := by
  refine Law.of_walk (plainFor_of_name (by decide +kernel)) (by decide +kernel) (by decide +kernel) (by decide) (fun _ _ h => by rw [h.1]; rfl) (fun _ U U' hal hh h => ⟨h.1, h.2.1.mv hal hh, h.2.2.1, h.2.2.2.1.there hal hh, h.2.2.2.2⟩) (fun r U U' V V' h1 hal h2 h => XT.PureE.mv r U U' V V' h1 hal h2 h) ?_
  intro p e s m args below meth c s₁ X0 hexec hbytes hml hret hlk hnm hown hh0 W hP
  obtain ⟨rfl, hx, hc, s1, hz⟩ := hP
  have c1 : Steps p.tables e below (s₁.setTop (entryFrame m #[.ref x] 1)) (s₁.setTop (mkF m 0 #[.val (.ref x)] [])) := entry rfl
  obtain ⟨T2, X2, q2, st2⟩ := X0.sget hexec hown (wk W (.fieldLink "java/lang/String" 38 "java/lang/String" "COMPACT_STRINGS" "Z")) s1 (fun _ _ h => by rw [hh0]; exact h) (g := (mkF m 0 #[.val (.ref x)] [])) rfl (hb hbytes d0)
  have hh2 := q2.trans hh0
  have c3 : Steps p.tables e below (s₁.setTop (entryFrame m #[.ref x] 1)) (T2.setTop (mkF m 7 #[.val (.ref x)] [.ref x])) := (c1.trans (st2 _ (Steps.refl _))).trans (by
    refine XS.ifNo X2.here hexec rfl (hb hbytes d3) rfl (i0_eq_f hz) ?_
    refine XS.aloadN X2.here hexec rfl (hb hbytes d6) rfl rfl ?_
    exact Steps.refl _)
  obtain ⟨T4, X4, q4, st4⟩ := X2.hget hexec hown (wk W (.fieldLink "java/lang/String" 15 "java/lang/String" "coder" "B")) (hx.mv X2.warmed.alike hh2) (g := (mkF m 7 #[.val (.ref x)] [.ref x])) rfl (rest := []) rfl (hb hbytes d7)
  have c5 : Steps p.tables e below (s₁.setTop (entryFrame m #[.ref x] 1)) (T4.setTop (mkF m 14 #[.val (.ref x)] [.int cd])) := (c3.trans (st4 _ (Steps.refl _))).trans (by
    refine XS.goto X4.here hexec rfl (pc0 := 10) rfl (hb hbytes d10) (by decide) rfl ?_
    exact Steps.refl _)
  exact ⟨T4, some (.int cd), _, _, _, X4, rfl, rfl, rfl, (fun h => by cases h), ⟨rfl, q4.trans hh2⟩, fun fs hl => c5.trans (X4.ireturnOut hexec hret (by rcases hc with rfl | rfl <;> rfl) (Or.inr (Or.inr (Or.inl rfl))) (hb hbytes d14) hl)⟩
end Cdr
namespace Len
def yN : MethodName := ⟨"java/lang/String", "length", "()I"⟩
abbrev yB : ByteArray := jdk_42_method_54_code
theorem d0 : decode yB 0 = .ok (.aload_n 0, 1) := by decide +kernel
theorem d1 : decode yB 1 = .ok (.getfield 9, 3) := by decide +kernel
theorem d4 : decode yB 4 = .ok (.arraylength, 1) := by decide +kernel
theorem d5 : decode yB 5 = .ok (.aload_n 0, 1) := by decide +kernel
theorem d6 : decode yB 6 = .ok (.invokevirtual 335, 3) := by decide +kernel
theorem d9 : decode yB 9 = .ok (.ishr, 1) := by decide +kernel
theorem d10 : decode yB 10 = .ok (.ireturn, 1) := by decide +kernel
def site : List Cond := [.fieldLink "java/lang/String" 9 "java/lang/String" "value" "[B", Cdr.tab] ++ virtW "java/lang/String" 335 "java/lang/String" Cdr.yN Cdr.yN
def tab : Cond := tabOf yN yB 1 (some .int) site
def P (x t : Addr) (V : Cell) (cd : Int32) (n : Nat) (f : Nat → Int32) (z : Int32) (args : Array Value) (s : State) : Prop := args = #[.ref x] ∧ Txt x t V cd n f s ∧ StaticIs s "java/lang/String" "COMPACT_STRINGS" "Z" (.int z) ∧ ¬ z = 0
def E (n : Nat) (r : Option Value) (s u : State) : Prop := XT.PureE (some (.int (Int32.ofNat n))) r s u
/-- length() of a String of n chars, in either coding -/
theorem law (l : Launch) (x t : Addr) (V : Cell) (cd : Int32) (n : Nat) (f : Nat → Int32) (z : Int32) : Law l yN 1 0 1 13 yB 1 (some .int) site (P x t V cd n f z) (E n) [] 0 0 := by
  refine Law.of_walk (plainFor_of_name (by decide +kernel)) (by decide +kernel) (by decide +kernel) (by decide) (fun _ _ h => by rw [h.1]; rfl) (fun _ U U' hal hh h => ⟨h.1, h.2.1.mv hal hh, h.2.2.1.there hal hh, h.2.2.2⟩) (fun r U U' V V' h1 hal h2 h => XT.PureE.mv r U U' V V' h1 hal h2 h) ?_
  intro p e s m args below meth c s₁ X0 hexec hbytes hml hret hlk hnm hown hh0 W hP
  obtain ⟨rfl, hx, s1, hz⟩ := hP
  have v31 := hx.2.2.2.1.2.2.2
  have c1 : Steps p.tables e below (s₁.setTop (entryFrame m #[.ref x] 1)) (s₁.setTop (mkF m 1 #[.val (.ref x)] [.ref x])) := Steps.trans (entry rfl) (by
    show Steps p.tables e below (s₁.setTop (mkF m 0 #[.val (.ref x)] [])) _
    refine XS.aloadN X0.here hexec rfl (hb hbytes d0) rfl rfl ?_
    exact Steps.refl _)
  obtain ⟨T2, X2, q2, st2⟩ := X0.hget hexec hown (wk W (.fieldLink "java/lang/String" 9 "java/lang/String" "value" "[B")) (hx.mv X0.warmed.alike hh0).2.1 (g := (mkF m 1 #[.val (.ref x)] [.ref x])) rfl (rest := []) rfl (hb hbytes d1)
  have hh2 := q2.trans hh0
  have hx2 := hx.mv X2.warmed.alike hh2
  have c3 : Steps p.tables e below (s₁.setTop (entryFrame m #[.ref x] 1)) (T2.setTop (mkF m 6 #[.val (.ref x)] [.ref x, .int (Int32.ofNat V.slots.size)])) := (c1.trans (st2 _ (Steps.refl _))).trans (by
    refine X2.alen hexec hx2.2.2.2.1 rfl rfl (hb hbytes d4) ?_
    refine XS.aloadN X2.here hexec rfl (hb hbytes d5) rfl rfl ?_
    exact Steps.refl _)
  obtain ⟨v4, T4, X4, E4, g4⟩ := X2.callV hexec (Cdr.law l x cd z) hown (wks W (virtW "java/lang/String" 335 "java/lang/String" Cdr.yN Cdr.yN)) rfl (by decide) (wk W Cdr.tab) (W := 1) (Nat.le_of_ble_eq_true rfl) (Nat.le_of_ble_eq_true rfl) (Nat.le_refl _) (Nat.le_refl _) (hx2.1.fc X2.warmed.alike) hx2.1.is (g := (mkF m 6 #[.val (.ref x)] [.ref x, .int (Int32.ofNat V.slots.size)])) rfl (by rw [hml]; rfl) c3 (argsL := []) (rest := [.int (Int32.ofNat V.slots.size)]) rfl rfl (by show 2 * 0 + (1 + 0) ≤ _; decide) (hb hbytes d6) (⟨rfl, hx2.2.2.1, hx.2.2.2.2.1.cd, s1.there X2.warmed.alike hh2, hz⟩)
  obtain ⟨rfl, q4⟩ := E4
  have c5 : Steps p.tables e below (s₁.setTop (entryFrame m #[.ref x] 1)) (T4.setTop (mkF m 10 #[.val (.ref x)] [.int (Int32.ofNat V.slots.size >>> (cd &&& 31))])) := Steps.trans g4 (by
    refine ishr X4.here hexec rfl (hb hbytes d9) rfl ?_
    exact Steps.refl _)
  rw [hx.2.2.2.2.1.len v31] at c5
  exact ⟨T4, some (.int (Int32.ofNat n)), _, _, _, X4, rfl, rfl, rfl, (fun h => by cases h), ⟨rfl, q4.trans hh2⟩, fun fs hl => c5.trans (X4.ireturnOut hexec hret rfl (Or.inl rfl) (hb hbytes d10) hl)⟩
theorem pays {l : Launch} {R : Room} {p : Program} {e : Env} {below : List Frame} {s : State} {sargs : Array Value} {len W : Nat} (x t : Addr) (V : Cell) (cd : Int32) (n : Nat) (f : Nat → Int32) (z : Int32) (htab : tab.before sargs s = true) (hfr : 2 ≤ R.frames) (hlo : W + 25 ≤ R.locals) :
    Back l R p e below s sargs yN len W (fun A₁ a₁ => A₁.cells + 0 ≤ R.cells ∧ A₁.slots + 0 ≤ R.slots ∧ P x t V cd n f z a₁ A₁.U) (fun A₁ _ v₁ B₁ => E n v₁ A₁.U B₁.U ∧ B₁.locs = A₁.locs ++ [] ∧ B₁.cells = A₁.cells + 0 ∧ B₁.slots = A₁.slots + 0) :=
  (law l x t V cd n f z).pays htab hfr (by omega)
end Len
namespace IsL
def yN : MethodName := ⟨"java/lang/String", "isLatin1", "()Z"⟩
abbrev yB : ByteArray := jdk_42_method_154_code
theorem d0 : decode yB 0 = .ok (.getstatic 38, 3) := by decide +kernel
theorem d3 : decode yB 3 = .ok (.ifCond (.eq) 14, 3) := by decide +kernel
theorem d6 : decode yB 6 = .ok (.aload_n 0, 1) := by decide +kernel
theorem d7 : decode yB 7 = .ok (.getfield 15, 3) := by decide +kernel
theorem d10 : decode yB 10 = .ok (.ifCond (.ne) 7, 3) := by decide +kernel
theorem d13 : decode yB 13 = .ok (.iconst 1, 1) := by decide +kernel
theorem d14 : decode yB 14 = .ok (.goto 4, 3) := by decide +kernel
theorem d17 : decode yB 17 = .ok (.iconst 0, 1) := by decide +kernel
theorem d18 : decode yB 18 = .ok (.ireturn, 1) := by decide +kernel
def site : List Cond := [.fieldLink "java/lang/String" 38 "java/lang/String" "COMPACT_STRINGS" "Z", .fieldLink "java/lang/String" 15 "java/lang/String" "coder" "B"]
def tab : Cond := tabOf yN yB 1 (some .boolean) site
def P (x : Addr) (cd z : Int32) (args : Array Value) (s : State) : Prop := args = #[.ref x] ∧ Has x "java/lang/String" "coder" "B" (.int cd) s ∧ (cd = 0 ∨ cd = 1) ∧ StaticIs s "java/lang/String" "COMPACT_STRINGS" "Z" (.int z) ∧ ¬ z = 0
def E (cd : Int32) (r : Option Value) (s u : State) : Prop := XT.PureE (some (.int (1 - cd))) r s u
theorem law (l : Launch) (x : Addr) (cd z : Int32) : Law l yN 1 0 0 0 yB 1 (some .boolean) site (P x cd z) (E cd) [] 0 0 := by
  refine Law.of_walk (plainFor_of_name (by decide +kernel)) (by decide +kernel) (by decide +kernel) (by decide) (fun _ _ h => by rw [h.1]; rfl) (fun _ U U' hal hh h => ⟨h.1, h.2.1.mv hal hh, h.2.2.1, h.2.2.2.1.there hal hh, h.2.2.2.2⟩) (fun r U U' V V' h1 hal h2 h => XT.PureE.mv r U U' V V' h1 hal h2 h) ?_
  intro p e s m args below meth c s₁ X0 hexec hbytes hml hret hlk hnm hown hh0 W hP
  obtain ⟨rfl, hx, hc, s1, hz⟩ := hP
  have c1 : Steps p.tables e below (s₁.setTop (entryFrame m #[.ref x] 1)) (s₁.setTop (mkF m 0 #[.val (.ref x)] [])) := entry rfl
  obtain ⟨T2, X2, q2, st2⟩ := X0.sget hexec hown (wk W (.fieldLink "java/lang/String" 38 "java/lang/String" "COMPACT_STRINGS" "Z")) s1 (fun _ _ h => by rw [hh0]; exact h) (g := (mkF m 0 #[.val (.ref x)] [])) rfl (hb hbytes d0)
  have hh2 := q2.trans hh0
  have c3 : Steps p.tables e below (s₁.setTop (entryFrame m #[.ref x] 1)) (T2.setTop (mkF m 7 #[.val (.ref x)] [.ref x])) := (c1.trans (st2 _ (Steps.refl _))).trans (by
    refine XS.ifNo X2.here hexec rfl (hb hbytes d3) rfl (i0_eq_f hz) ?_
    refine XS.aloadN X2.here hexec rfl (hb hbytes d6) rfl rfl ?_
    exact Steps.refl _)
  obtain ⟨T4, X4, q4, st4⟩ := X2.hget hexec hown (wk W (.fieldLink "java/lang/String" 15 "java/lang/String" "coder" "B")) (hx.mv X2.warmed.alike hh2) (g := (mkF m 7 #[.val (.ref x)] [.ref x])) rfl (rest := []) rfl (hb hbytes d7)
  have c5 : Steps p.tables e below (s₁.setTop (entryFrame m #[.ref x] 1)) (T4.setTop (mkF m 10 #[.val (.ref x)] [.int cd])) := c3.trans (st4 _ (Steps.refl _))
  have c6 : Steps p.tables e below (s₁.setTop (entryFrame m #[.ref x] 1)) (T4.setTop (mkF m 18 #[.val (.ref x)] [.int (1 - cd)])) := by
    rcases hc with rfl | rfl
    · exact c5.trans (by
        refine XS.ifNo X4.here hexec rfl (hb hbytes d10) rfl (i0_ne_f rfl) ?_
        refine iconstV X4.here hexec rfl 1 (hb hbytes d13) (by decide) ?_
        refine XS.goto X4.here hexec rfl (pc0 := 14) rfl (hb hbytes d14) (by decide) rfl ?_
        exact Steps.refl _)
    · exact c5.trans (by
        refine XS.ifYes X4.here hexec rfl (pc0 := 10) rfl (hb hbytes d10) rfl (i0_ne_t (by decide)) (by decide) rfl ?_
        refine iconstV X4.here hexec rfl 0 (hb hbytes d17) (by decide) ?_
        exact Steps.refl _)
  exact ⟨T4, some (.int (1 - cd)), _, _, _, X4, rfl, rfl, rfl, (fun h => by cases h), ⟨rfl, q4.trans hh2⟩, fun fs hl => c6.trans (X4.ireturnOut hexec hret (by rcases hc with rfl | rfl <;> rfl) (Or.inr (Or.inl rfl)) (hb hbytes d18) hl)⟩
end IsL
namespace LChA
def yN : MethodName := ⟨"java/lang/StringLatin1", "charAt", "([BI)C"⟩
abbrev yB : ByteArray := jdk_43_method_2_code
theorem d0 : decode yB 0 = .ok (.iload_n 1, 1) := by decide +kernel
theorem d1 : decode yB 1 = .ok (.aload_n 0, 1) := by decide +kernel
theorem d2 : decode yB 2 = .ok (.arraylength, 1) := by decide +kernel
theorem d3 : decode yB 3 = .ok (.invokestatic 9, 3) := by decide +kernel
theorem d6 : decode yB 6 = .ok (.aload_n 0, 1) := by decide +kernel
theorem d7 : decode yB 7 = .ok (.iload_n 1, 1) := by decide +kernel
theorem d8 : decode yB 8 = .ok (.baload, 1) := by decide +kernel
theorem d9 : decode yB 9 = .ok (.sipush 255, 3) := by decide +kernel
theorem d12 : decode yB 12 = .ok (.iand, 1) := by decide +kernel
theorem d13 : decode yB 13 = .ok (.i2c, 1) := by decide +kernel
theorem d14 : decode yB 14 = .ok (.ireturn, 1) := by decide +kernel
def site : List Cond := [JO.Str_checkIndex.tab] ++ staticW "java/lang/StringLatin1" 9 JO.Str_checkIndex.yN
def tab : Cond := tabOf yN yB 2 (some .char) site
def P (t : Addr) (V : Cell) (i : Nat) (u : Int32) (fm : Value) (args : Array Value) (s : State) : Prop := args = #[.ref t, .int (Int32.ofNat i)] ∧ XT.Arr .byte t V s ∧ V.slots[i]? = some (.int u) ∧ (StaticIs s "jdk/internal/util/Preconditions" "SIOOBE_FORMATTER" "Ljava/util/function/BiFunction;" fm ∧ fm.isRef = true)
def E (u : Int32) (r : Option Value) (s w : State) : Prop := XT.PureE (some (.int (chr8 u))) r s w
theorem law (l : Launch) (t : Addr) (V : Cell) (i : Nat) (u : Int32) (fm : Value) : Law l yN 2 2 2 27 yB 2 (some .char) site (P t V i u fm) (E u) [] 0 0 := by
  refine Law.of_walk (plainFor_of_name (by decide +kernel)) (by decide +kernel) (by decide +kernel) (by decide) (fun _ _ h => by rw [h.1]; rfl) (fun _ U U' hal hh h => ⟨h.1, h.2.1.mv hal hh, h.2.2.1, h.2.2.2.1.there hal hh, h.2.2.2.2⟩) (fun r U U' V V' h1 hal h2 h => XT.PureE.mv r U U' V V' h1 hal h2 h) ?_
  intro p e s m args below meth c s₁ X0 hexec hbytes hml hret hlk hnm hown hh0 W hP
  obtain ⟨rfl, hV, hu, s1, rf⟩ := hP
  have v31 := hV.2.2.2
  have hi : i < V.slots.size := (Array.getElem?_eq_some_iff.mp hu).1
  have c1 : Steps p.tables e below (s₁.setTop (entryFrame m #[.ref t, .int (Int32.ofNat i)] 2)) (s₁.setTop (mkF m 0 #[.val (.ref t), .val (.int (Int32.ofNat i))] [])) := entry rfl
  have c2 : Steps p.tables e below (s₁.setTop (entryFrame m #[.ref t, .int (Int32.ofNat i)] 2)) (s₁.setTop (mkF m 3 #[.val (.ref t), .val (.int (Int32.ofNat i))] [.int (Int32.ofNat V.slots.size), .int (Int32.ofNat i)])) := c1.trans (by
    refine XS.iloadN X0.here hexec rfl (hb hbytes d0) rfl ?_
    refine XS.aloadN X0.here hexec rfl (hb hbytes d1) rfl rfl ?_
    refine X0.alen hexec (hV.mv X0.warmed.alike hh0) rfl rfl (hb hbytes d2) ?_
    exact Steps.refl _)
  obtain ⟨v3, T3, X3, E3, g3⟩ := X0.callS hexec (JO.Str_checkIndex.law l (Int32.ofNat i) (Int32.ofNat V.slots.size) fm) hown (wks W (staticW "java/lang/StringLatin1" 9 JO.Str_checkIndex.yN)) (wk W JO.Str_checkIndex.tab) (W := 0) (Nat.le_of_ble_eq_true rfl) (Nat.le_of_ble_eq_true rfl) (Nat.le_refl _) (Nat.le_refl _) (g := (mkF m 3 #[.val (.ref t), .val (.int (Int32.ofNat i))] [.int (Int32.ofNat V.slots.size), .int (Int32.ofNat i)])) rfl (by rw [hml]; rfl) c2 (argsL := [.int (Int32.ofNat i), .int (Int32.ofNat V.slots.size)]) (rest := []) rfl rfl (by show 2 * 0 + 0 ≤ _; decide) (hb hbytes d3) (⟨rfl, rf, s1.there X0.warmed.alike hh0, Int32.ofNat_not_neg (by omega), lt32 v31 hi⟩)
  obtain ⟨rfl, q3⟩ := E3
  have hh3 := q3.trans hh0
  have c4 : Steps p.tables e below (s₁.setTop (entryFrame m #[.ref t, .int (Int32.ofNat i)] 2)) (T3.setTop (mkF m 14 #[.val (.ref t), .val (.int (Int32.ofNat i))] [.int (chr8 u)])) := Steps.trans g3 (by
    refine XS.aloadN X3.here hexec rfl (hb hbytes d6) rfl rfl ?_
    refine XS.iloadN X3.here hexec rfl (hb hbytes d7) rfl ?_
    refine X3.aget hexec (hV.mv X3.warmed.alike hh3) rfl hu rfl rfl (hb hbytes d8) ?_
    refine sipushV X3.here hexec rfl 255 (hb hbytes d9) (by decide) ?_
    refine XS.iand X3.here hexec rfl (hb hbytes d12) rfl ?_
    refine i2c X3.here hexec rfl (hb hbytes d13) rfl ?_
    exact Steps.refl _)
  exact ⟨T3, some (.int (chr8 u)), _, _, _, X3, rfl, rfl, rfl, (fun h => by cases h), ⟨rfl, hh3⟩, fun fs hl => c4.trans (X3.ireturnOut hexec hret (narrow_c _) (Or.inr (Or.inr (Or.inr (Or.inl rfl)))) (hb hbytes d14) hl)⟩
end LChA
end StrChars
namespace StrChars.Road
open Jvm Sem ClassFile Op Lib Jvm.Stand Jvm.Free Jvm.Free.XT
open Jvm.Lib.Cold (StaticIs)
theorem consq {a : Array Value} {s : State} {c : Jvm.Cond} {L : List Jvm.Cond} (h0 : c.before a s = true) (h : ∀ w ∈ L, w.before a s = true) : ∀ w ∈ c :: L, w.before a s = true := fun w hw => (List.mem_cons.mp hw).elim (fun e => e ▸ h0) (h w)
/-- the words of String.length(), either coding -/
abbrev wordsLen : List Jvm.Cond := [.code Len.yN Len.yB 1 (some .int), .initialized ST, .fieldLink ST 9 ST "value" "[B", .fieldLink ST 38 ST "COMPACT_STRINGS" "Z", .fieldLink ST 15 ST "coder" "B", .code Cdr.yN Cdr.yB 1 (some .byte), .methodLink ST 335 Cdr.yN, .declares Cdr.yN, .selects ST Cdr.yN Cdr.yN, .instanceMethod Cdr.yN]
theorem tabLen_of {a : Array Value} {s : State} (h : ∀ w ∈ wordsLen, w.before a s = true) : Len.tab.before a s = true := by
  have hc : Cdr.tab.before a s = true := unparts (wk h (.code Cdr.yN Cdr.yB 1 (some .byte))) (wks h (.initialized Cdr.yN.cls :: Cdr.site))
  have q := consq hc h
  exact unparts (wk q (.code Len.yN Len.yB 1 (some .int))) (wks q (.initialized Len.yN.cls :: Len.site))
theorem movedLen {Z s : State} {a0 args : Array Value} (hZ : Z.Warmed39 s.vm) (hw : ∀ d ∈ wordsLen, d.before a0 Z = true) : ∀ d ∈ wordsLen, d.before args s = true := fun d hd => by
  have q := hw d hd
  have t : ∀ d ∈ wordsLen, d = .arrayClass .byte ∨ (d.onTables && d.keepsFace) = true := by decide +kernel
  rcases t d hd with rfl | t
  · exact RoadKit.mvA hZ q
  · exact RoadKit.mv hZ q t
/-- the bytes of the chars cs, low before high -/
def wideBytes : List Int32 → List Value
  | [] => []
  | c :: cs => .int (lo8 c) :: .int (hi8 c) :: wideBytes cs
theorem wide_lo (d : Value) : ∀ (cs : List Int32) (j : Nat), j < cs.length → (wideBytes cs).getD (2 * j) d = .int (lo8 (cs.getD j 0))
  | [], j, h => absurd h (Nat.not_lt_zero j)
  | c :: cs, 0, _ => rfl
  | c :: cs, j + 1, h => by
    have q := wide_lo d cs j (by simpa using h)
    rw [show 2 * (j + 1) = 2 * j + 1 + 1 from by omega]
    simpa [wideBytes] using q
theorem wide_hi (d : Value) : ∀ (cs : List Int32) (j : Nat), j < cs.length → (wideBytes cs).getD (2 * j + 1) d = .int (hi8 (cs.getD j 0))
  | [], j, h => absurd h (Nat.not_lt_zero j)
  | c :: cs, 0, _ => rfl
  | c :: cs, j + 1, h => by
    have q := wide_hi d cs j (by simpa using h)
    rw [show 2 * (j + 1) + 1 = 2 * j + 1 + 1 + 1 from by omega]
    simpa [wideBytes] using q
theorem low_at (d : Value) (cs : List Int32) (j : Nat) (h : j < cs.length) : (cs.map fun c => Value.int (lo8 c)).getD j d = .int (lo8 (cs.getD j 0)) := by
  simp [List.getD_eq_getElem?_getD, h]
/-- an array of N2 bytes vs codes the chars cs by the coder cd -/
def CodA (cs : List Int32) (cd N2 : Int32) (vs : List Value) : Prop := (cd = 0 ∧ N2 = Int32.ofNat cs.length ∧ vs = (cs.map fun c => Value.int (lo8 c)) ∧ ∀ c ∈ cs, ¬ 255 < c) ∨ (cd = 1 ∧ N2 = Int32.ofNat (2 * cs.length) ∧ vs = wideBytes cs ∧ ∃ c ∈ cs, 255 < c)
theorem CodA.cod {cs : List Int32} {cd N2 : Int32} {vs : List Value} {V : Cell} (h : CodA cs cd N2 vs) (hn : 2 * cs.length < 2 ^ 31) (hs : V.slots.size = N2.toNatClampNeg) (hv : RoadKit.Has V vs (.int 0)) : Cod cd cs.length (fun j => cs.getD j 0) V := by
  rcases h with ⟨rfl, rfl, rfl, h⟩ | ⟨rfl, rfl, rfl, c, hc, hw⟩
  · rw [n32 (by omega)] at hs
    exact Or.inl ⟨rfl, hs, fun j hj => ⟨by rw [hv j (by omega), low_at _ _ _ hj], by
      have e : cs.getD j 0 = cs[j] := by simp [List.getD_eq_getElem?_getD, hj]
      show ¬ 255 < cs.getD j 0
      rw [e]; exact h _ (List.getElem_mem _)⟩⟩
  · rw [n32 (by omega)] at hs
    obtain ⟨j, hj, rfl⟩ := List.getElem_of_mem hc
    exact Or.inr ⟨rfl, hs, fun j hj => ⟨by rw [hv _ (by omega), wide_lo _ _ _ hj], by rw [hv _ (by omega), wide_hi _ _ _ hj]⟩, j, hj, by
      have e : cs.getD j 0 = cs[j] := by simp [List.getD_eq_getElem?_getD, hj]
      show 255 < cs.getD j 0
      rw [e]; exact hw⟩
/-- an object of exactly java/lang/String, its two fields found: as the laws ask it -/
theorem strObj {Z U : State} {a0 : Array Value} {kI : Nat} (wi : (Jvm.Cond.instantiable ST kI).before a0 Z = true) (al : Z.vm.Alike U.vm) {x : Addr} {v0 c0 : Value} (E : RoadKit.Exa Z U.heap x ST) (V : RoadKit.Fld Z U.heap x ST "value" "[B" v0) (C : RoadKit.Fld Z U.heap x ST "coder" "B" c0) :
    ∃ (D : Cell) (fV fC : Field), Blank ST x D U ∧ Found ST "value" "[B" fV U ∧ Found ST "coder" "B" fC U ∧ D.slots[fV.slot]? = some v0 ∧ D.slots[fC.slot]? = some c0 ∧ RoadKit.slotOf Z ST "value" "[B" = fV.slot ∧ RoadKit.slotOf Z ST "coder" "B" = fC.slot := by
  obtain ⟨D, cfV, kV, iV, fV, hD, gV, stV, knV, obV, asV, slV⟩ := V
  obtain ⟨D', cfC, kC, iC, fC, hD', gC, stC, -, -, asC, slC⟩ := C
  cases hD.symm.trans hD'
  obtain ⟨D2, kD, e1, e2, e3, e4, e5⟩ := E
  cases hD.symm.trans e1
  obtain ⟨c2, k2, i1, i2, i3, -⟩ := Cond.instantiable_spec wi
  cases e2.symm.trans i1
  cases e3.symm.trans i2
  obtain ⟨kU, u1, u2⟩ := al.2.2 _ _ e3
  exact ⟨D, fV, fC, ⟨hD, ⟨knV, fun q hq => by rw [hq] at obV; cases obV⟩, by rw [al.findClass]; exact e2, kU, u1, by rw [u2]; exact i3, by rw [u2]; exact e5 i3⟩, ⟨SBG.found_only al ⟨cfV, kV, iV, gV⟩, stV⟩, ⟨SBG.found_only al ⟨cfC, kC, iC, gC⟩, stC⟩, slV, slC, by simp [RoadKit.slotOf, gV], by simp [RoadKit.slotOf, gC]⟩
theorem sta_is {Z U : State} (al : Z.vm.Alike U.vm) {C n d : String} {v : Value} (S : RoadKit.Sta Z U.heap C n d v) : StaticIs U C n d v := by
  obtain ⟨cfS, iS, kS, fS, st, cS, t1, t2, t3, t4, t5, t6, t7⟩ := S
  exact StaticIs.there (s := { Z with heap := U.heap }) ⟨cfS, iS, kS, fS, st, cS, t1, t2, t3, t4, t5, (fun q => by rw [q] at t6; cases t6), t7⟩ al rfl
/-- **length() OF SUCH A STRING** -/
theorem lenW {p : Program} {l : Launch} {e : Env} {R : Room} {s : State} {args : Array Value} {below : List Frame} {len W : Nat} {Z : State} {a0 : Array Value} {h : Heap} (hZ : Z.Warmed39 s.vm) (hw : ∀ d ∈ wordsLen, d.before a0 Z = true) {kI : Nat} (wi : (Jvm.Cond.instantiable ST kI).before a0 Z = true)
    {x t : Addr} {kb : ClassId} {cs : List Int32} {cd N2 z : Int32} {vs : List Value} (E : RoadKit.Exa Z h x ST) (V : RoadKit.Fld Z h x ST "value" "[B" (.ref t)) (C : RoadKit.Fld Z h x ST "coder" "B" (.int cd)) (K : RoadKit.Arv Z h t kb .byte N2 vs (.int 0)) (hc : CodA cs cd N2 vs) (hb : ∀ c ∈ cs, ¬ c < 0 ∧ ¬ (65535 : Int32) < c)
    (S : RoadKit.Sta Z h ST "COMPACT_STRINGS" "Z" (.int z)) (hz : ¬ z = 0) (l2 : cs.length ≤ 4000) (hfr : 2 ≤ R.frames) (hlo : W + 25 ≤ R.locals) :
    Back l R p e below s args (⟨"java/lang/String", "length", "()I"⟩ : MethodName) len W (fun P a => a = #[.ref x] ∧ P.U.heap = h ∧ P.cells + 0 ≤ R.cells ∧ P.slots + 0 ≤ R.slots)
      (fun P _ v B => ∃ L, (v = some (.int (Int32.ofNat cs.length)) ∧ L = [] ∧ B.U.heap = h) ∧ B.locs = P.locs ++ L ∧ B.cells = P.cells + 0 ∧ B.slots = P.slots + 0) := by
  obtain ⟨A, K1, K2, K3, K4, K5, K6⟩ := K
  have hcod := hc.cod (by omega) K3 K5
  intro m meth c P g ig mk a X hg hsize hdg hW hn hp'
  obtain ⟨rfl, rfl, r1, r2⟩ := hp'
  have al : Z.vm.Alike P.U.vm := hZ.alike.trans X.warmed.alike
  obtain ⟨D, fV, fC, hB, F1, F2, g1, g2, -, -⟩ := strObj wi al E V C
  have hx : Txt x t A cd cs.length (fun j => cs.getD j 0) P.U := ⟨⟨_, hB.2.2.1, D, hB.1, rfl, by cases q : D.vm <;> first | rfl | exact absurd q (hB.2.1.2 _)⟩, Has.of hB F1 g1, Has.of hB F2 g2, ⟨K1.1, State.isArrayOf_alike al K1.2.1, K1.2.2, by rcases hcod with ⟨-, q, -⟩ | ⟨-, q, -⟩ <;> omega⟩, hcod, fun j hj => by
    have e : cs.getD j 0 = cs[j] := by simp [List.getD_eq_getElem?_getD, hj]
    show ¬ cs.getD j 0 < 0 ∧ ¬ 65535 < cs.getD j 0
    rw [e]; exact hb _ (List.getElem_mem _)⟩
  obtain ⟨v, B, X', ⟨⟨hv, hh⟩, hl, hk, hs⟩, st⟩ := Len.pays x t A cd cs.length (fun j => cs.getD j 0) z (tabLen_of (movedLen hZ hw)) hfr hlo m meth c P g ig mk _ X hg hsize hdg hW hn ⟨r1, r2, rfl, hx, sta_is al S, hz⟩
  exact ⟨v, B, X', ⟨[], ⟨hv, rfl, hh⟩, hl, hk, hs⟩, st⟩
end StrChars.Road
namespace StrChars.Road
open Jvm Sem ClassFile Op Lib Jvm.Stand Jvm.Free Jvm.Free.XT
open Jvm.Lib.Cold (StaticIs)
/-- the road's facts of a String, as the laws ask it -/
theorem txt_of {Z U : State} {a0 : Array Value} {kI : Nat} (wi : (Jvm.Cond.instantiable ST kI).before a0 Z = true) (al : Z.vm.Alike U.vm) {x t : Addr} {kb : ClassId} {cs : List Int32} {cd N2 : Int32} {vs : List Value} (E : RoadKit.Exa Z U.heap x ST) (V : RoadKit.Fld Z U.heap x ST "value" "[B" (.ref t)) (C : RoadKit.Fld Z U.heap x ST "coder" "B" (.int cd)) (K : RoadKit.Arv Z U.heap t kb .byte N2 vs (.int 0)) (hc : CodA cs cd N2 vs) (hb : ∀ c ∈ cs, ¬ c < 0 ∧ ¬ (65535 : Int32) < c) (l2 : cs.length ≤ 4000) :
    ∃ A, Txt x t A cd cs.length (fun j => cs.getD j 0) U := by
  obtain ⟨A, K1, K2, K3, K4, K5, K6⟩ := K
  have hcod := hc.cod (by omega) K3 K5
  obtain ⟨D, fV, fC, hB, F1, F2, g1, g2, -, -⟩ := strObj wi al E V C
  exact ⟨A, ⟨_, hB.2.2.1, D, hB.1, rfl, by cases q : D.vm <;> first | rfl | exact absurd q (hB.2.1.2 _)⟩, Has.of hB F1 g1, Has.of hB F2 g2, ⟨K1.1, State.isArrayOf_alike al K1.2.1, K1.2.2, by rcases hcod with ⟨-, q, -⟩ | ⟨-, q, -⟩ <;> omega⟩, hcod, fun j hj => by
    have e : cs.getD j 0 = cs[j] := by simp [List.getD_eq_getElem?_getD, hj]
    show ¬ cs.getD j 0 < 0 ∧ ¬ 65535 < cs.getD j 0
    rw [e]; exact hb _ (List.getElem_mem _)⟩
end StrChars.Road
namespace StrChars
open Jvm Sem ClassFile Op Lib Jvm.Stand Jvm.Free.XT Jvm.Free.ALB Jvm.Free.JM Jvm.Free
open Jvm.Lib.Cold (StaticIs)
namespace ChN
def yN : MethodName := ⟨"java/lang/String", "charAt", "(I)C"⟩
abbrev yB : ByteArray := jdk_42_method_56_code
theorem d0 : decode yB 0 = .ok (.aload_n 0, 1) := by decide +kernel
theorem d1 : decode yB 1 = .ok (.invokevirtual 492, 3) := by decide +kernel
theorem d4 : decode yB 4 = .ok (.ifCond (.eq) 12, 3) := by decide +kernel
theorem d7 : decode yB 7 = .ok (.aload_n 0, 1) := by decide +kernel
theorem d8 : decode yB 8 = .ok (.getfield 9, 3) := by decide +kernel
theorem d11 : decode yB 11 = .ok (.iload_n 1, 1) := by decide +kernel
theorem d12 : decode yB 12 = .ok (.invokestatic 495, 3) := by decide +kernel
theorem d15 : decode yB 15 = .ok (.ireturn, 1) := by decide +kernel
def site : List Cond := [.fieldLink "java/lang/String" 9 "java/lang/String" "value" "[B", IsL.tab, LChA.tab] ++ virtW "java/lang/String" 492 "java/lang/String" IsL.yN IsL.yN ++ staticW "java/lang/String" 495 LChA.yN
def tab : Cond := tabOf yN yB 2 (some .char) site
def P (x t : Addr) (V : Cell) (n : Nat) (f : Nat → Int32) (z : Int32) (fm : Value) (i : Nat) (args : Array Value) (s : State) : Prop := args = #[.ref x, .int (Int32.ofNat i)] ∧ Txt x t V 0 n f s ∧ i < n ∧ StaticIs s "java/lang/String" "COMPACT_STRINGS" "Z" (.int z) ∧ ¬ z = 0 ∧ StaticIs s "jdk/internal/util/Preconditions" "SIOOBE_FORMATTER" "Ljava/util/function/BiFunction;" fm ∧ fm.isRef = true
def E (f : Nat → Int32) (i : Nat) (r : Option Value) (s u : State) : Prop := XT.PureE (some (.int (f i))) r s u
/-- charAt(i) of a Latin-1 String of n chars, i < n: f i -/
theorem law (l : Launch) (x t : Addr) (V : Cell) (n : Nat) (f : Nat → Int32) (z : Int32) (fm : Value) (i : Nat) : Law l yN 2 1 3 40 yB 2 (some .char) site (P x t V n f z fm i) (E f i) [] 0 0 := by
  refine Law.of_walk (plainFor_of_name (by decide +kernel)) (by decide +kernel) (by decide +kernel) (by decide) (fun _ _ h => by rw [h.1]; rfl) (fun _ U U' hal hh h => ⟨h.1, h.2.1.mv hal hh, h.2.2.1, h.2.2.2.1.there hal hh, h.2.2.2.2.1, h.2.2.2.2.2.1.there hal hh, h.2.2.2.2.2.2⟩) (fun r U U' V V' h1 hal h2 h => XT.PureE.mv r U U' V V' h1 hal h2 h) ?_
  intro p e s m args below meth c s₁ X0 hexec hbytes hml hret hlk hnm hown hh0 W hP
  obtain ⟨rfl, hx, hi, s1, hz, s3, rf⟩ := hP
  have v31 := hx.2.2.2.1.2.2.2
  have hr := hx.2.2.2.2.2 i hi
  have hx0 := hx.mv X0.warmed.alike hh0
  have c1 : Steps p.tables e below (s₁.setTop (entryFrame m #[.ref x, .int (Int32.ofNat i)] 2)) (s₁.setTop (mkF m 1 #[.val (.ref x), .val (.int (Int32.ofNat i))] [.ref x])) := Steps.trans (entry rfl) (by
    show Steps p.tables e below (s₁.setTop (mkF m 0 #[.val (.ref x), .val (.int (Int32.ofNat i))] [])) _
    refine XS.aloadN X0.here hexec rfl (hb hbytes d0) rfl rfl ?_
    exact Steps.refl _)
  obtain ⟨v2, T2, X2, E2, g2⟩ := X0.callV hexec (IsL.law l x 0 z) hown (wks W (virtW "java/lang/String" 492 "java/lang/String" IsL.yN IsL.yN)) rfl (by decide) (wk W IsL.tab) (W := 0) (Nat.le_of_ble_eq_true rfl) (Nat.le_of_ble_eq_true rfl) (Nat.le_refl _) (Nat.le_refl _) (hx0.1.fc X0.warmed.alike) hx0.1.is (g := (mkF m 1 #[.val (.ref x), .val (.int (Int32.ofNat i))] [.ref x])) rfl (by rw [hml]; rfl) c1 (argsL := []) (rest := []) rfl rfl (by show 2 * 0 + 0 ≤ _; decide) (hb hbytes d1) (⟨rfl, hx0.2.2.1, hx.2.2.2.2.1.cd, s1.there X0.warmed.alike hh0, hz⟩)
  obtain ⟨rfl, q2⟩ := E2
  have hh2 := q2.trans hh0
  have hx2 := hx.mv X2.warmed.alike hh2
  obtain ⟨-, k1, k2⟩ | ⟨k0, -⟩ := hx.2.2.2.2.1
  · have c3 : Steps p.tables e below (s₁.setTop (entryFrame m #[.ref x, .int (Int32.ofNat i)] 2)) (T2.setTop (mkF m 8 #[.val (.ref x), .val (.int (Int32.ofNat i))] [.ref x])) := Steps.trans g2 (by
      refine XS.ifNo X2.here hexec rfl (hb hbytes d4) rfl (i0_eq_f (by decide)) ?_
      refine XS.aloadN X2.here hexec rfl (hb hbytes d7) rfl rfl ?_
      exact Steps.refl _)
    obtain ⟨T4, X4, q4, st4⟩ := X2.hget hexec hown (wk W (.fieldLink "java/lang/String" 9 "java/lang/String" "value" "[B")) hx2.2.1 (g := (mkF m 8 #[.val (.ref x), .val (.int (Int32.ofNat i))] [.ref x])) rfl (rest := []) rfl (hb hbytes d8)
    have hh4 := q4.trans hh2
    have c5 : Steps p.tables e below (s₁.setTop (entryFrame m #[.ref x, .int (Int32.ofNat i)] 2)) (T4.setTop (mkF m 12 #[.val (.ref x), .val (.int (Int32.ofNat i))] [.int (Int32.ofNat i), .ref t])) := (c3.trans (st4 _ (Steps.refl _))).trans (by
      refine XS.iloadN X4.here hexec rfl (hb hbytes d11) rfl ?_
      exact Steps.refl _)
    obtain ⟨v6, T6, X6, E6, g6⟩ := X4.callS hexec (LChA.law l t V i (lo8 (f i)) fm) hown (wks W (staticW "java/lang/String" 495 LChA.yN)) (wk W LChA.tab) (W := 0) (Nat.le_of_ble_eq_true rfl) (Nat.le_of_ble_eq_true rfl) (Nat.le_refl _) (Nat.le_refl _) (g := (mkF m 12 #[.val (.ref x), .val (.int (Int32.ofNat i))] [.int (Int32.ofNat i), .ref t])) rfl (by rw [hml]; rfl) c5 (argsL := [.ref t, .int (Int32.ofNat i)]) (rest := []) rfl rfl (by show 2 * 0 + 0 ≤ _; decide) (hb hbytes d12) (⟨rfl, hx.2.2.2.1.mv X4.warmed.alike hh4, (k2 i hi).1, s3.there X4.warmed.alike hh4, rf⟩)
    obtain ⟨rfl, q6⟩ := E6
    rw [chr8_lo8 hr.1 (k2 i hi).2] at g6
    exact ⟨T6, some (.int (f i)), _, _, _, X6, rfl, rfl, rfl, (fun h => by cases h), ⟨rfl, q6.trans hh4⟩, fun fs hl => Steps.trans g6 (X6.ireturnOut hexec hret (narrow_ch hr.1 hr.2) (Or.inr (Or.inr (Or.inr (Or.inl rfl)))) (hb hbytes d15) hl)⟩
  · exact absurd k0 (by decide)
theorem pays {l : Launch} {R : Room} {p : Program} {e : Env} {below : List Frame} {s : State} {sargs : Array Value} {len W : Nat} (x t : Addr) (V : Cell) (n : Nat) (f : Nat → Int32) (z : Int32) (fm : Value) (i : Nat) (htab : tab.before sargs s = true) (hfr : 4 ≤ R.frames) (hlo : W + 53 ≤ R.locals) :
    Back l R p e below s sargs yN len W (fun A₁ a₁ => A₁.cells + 0 ≤ R.cells ∧ A₁.slots + 0 ≤ R.slots ∧ P x t V n f z fm i a₁ A₁.U) (fun A₁ _ v₁ B₁ => E f i v₁ A₁.U B₁.U ∧ B₁.locs = A₁.locs ++ [] ∧ B₁.cells = A₁.cells + 0 ∧ B₁.slots = A₁.slots + 0) :=
  (law l x t V n f z fm i).pays htab hfr (by omega)
end ChN
end StrChars
namespace StrChars.Road
open Jvm Sem ClassFile Op Lib Jvm.Stand Jvm.Free Jvm.Free.XT
open Jvm.Lib.Cold (StaticIs)
/-- the words of String.charAt(int), the Latin-1 road alone -/
abbrev wordsChN : List Jvm.Cond := [.code ChN.yN ChN.yB 2 (some .char), .initialized ST, .fieldLink ST 9 ST "value" "[B", .fieldLink ST 38 ST "COMPACT_STRINGS" "Z", .fieldLink ST 15 ST "coder" "B", .code IsL.yN IsL.yB 1 (some .boolean), .methodLink ST 492 IsL.yN, .declares IsL.yN, .selects ST IsL.yN IsL.yN, .instanceMethod IsL.yN,
  .methodLink ST 495 LChA.yN, .static LChA.yN, .code LChA.yN LChA.yB 2 (some .char), .initialized "java/lang/StringLatin1", .methodLink "java/lang/StringLatin1" 9 JO.Str_checkIndex.yN, .static JO.Str_checkIndex.yN, .code JO.Str_checkIndex.yN JO.Str_checkIndex.yB 2 none,
  .fieldLink ST 1053 "jdk/internal/util/Preconditions" "SIOOBE_FORMATTER" "Ljava/util/function/BiFunction;", .methodLink ST 1059 JC.PreCheck.yN, .static JC.PreCheck.yN, .code JC.PreCheck.yN JC.PreCheck.yB 3 (some .int), .initialized "jdk/internal/util/Preconditions"]
theorem tabChN_of {a : Array Value} {s : State} (h : ∀ w ∈ wordsChN, w.before a s = true) : ChN.tab.before a s = true := by
  have hp : JC.PreCheck.tab.before a s = true := unparts (wk h (.code JC.PreCheck.yN JC.PreCheck.yB 3 (some .int))) (wks h (.initialized JC.PreCheck.yN.cls :: JC.PreCheck.site))
  have qk := consq hp h
  have hk : JO.Str_checkIndex.tab.before a s = true := unparts (wk qk (.code JO.Str_checkIndex.yN JO.Str_checkIndex.yB 2 none)) (wks qk (.initialized JO.Str_checkIndex.yN.cls :: JO.Str_checkIndex.site))
  have ql := consq hk h
  have hl : LChA.tab.before a s = true := unparts (wk ql (.code LChA.yN LChA.yB 2 (some .char))) (wks ql (.initialized LChA.yN.cls :: LChA.site))
  have hi : IsL.tab.before a s = true := unparts (wk h (.code IsL.yN IsL.yB 1 (some .boolean))) (wks h (.initialized IsL.yN.cls :: IsL.site))
  have q := consq hi (consq hl h)
  exact unparts (wk q (.code ChN.yN ChN.yB 2 (some .char))) (wks q (.initialized ChN.yN.cls :: ChN.site))
theorem movedChN {Z s : State} {a0 args : Array Value} (hZ : Z.Warmed39 s.vm) (hw : ∀ d ∈ wordsChN, d.before a0 Z = true) : ∀ d ∈ wordsChN, d.before args s = true := fun d hd => by
  have t : ∀ d ∈ wordsChN, (d.onTables && d.keepsFace) = true := by decide +kernel
  exact RoadKit.mv hZ (hw d hd) (t d hd)
/-- **charAt(i) OF A LATIN-1 STRING**, i < n: the char -/
theorem chN {p : Program} {l : Launch} {e : Env} {R : Room} {s : State} {args : Array Value} {below : List Frame} {len W : Nat} {Z : State} {a0 : Array Value} {h : Heap} (hZ : Z.Warmed39 s.vm) (hw : ∀ d ∈ wordsChN, d.before a0 Z = true) {kI : Nat} (wi : (Jvm.Cond.instantiable ST kI).before a0 Z = true)
    {x t : Addr} {kb : ClassId} {cs : List Int32} {N2 z : Int32} {vs : List Value} {fm : Value} {i : Nat} {j : Int32} (E : RoadKit.Exa Z h x ST) (V : RoadKit.Fld Z h x ST "value" "[B" (.ref t)) (C : RoadKit.Fld Z h x ST "coder" "B" (.int 0)) (K : RoadKit.Arv Z h t kb .byte N2 vs (.int 0)) (hc : CodA cs 0 N2 vs) (hb : ∀ c ∈ cs, ¬ c < 0 ∧ ¬ (65535 : Int32) < c)
    (S : RoadKit.Sta Z h ST "COMPACT_STRINGS" "Z" (.int z)) (hz : ¬ z = 0) (F : RoadKit.Sta Z h "jdk/internal/util/Preconditions" "SIOOBE_FORMATTER" "Ljava/util/function/BiFunction;" fm) (rf : fm.isRef = true) (l2 : cs.length ≤ 4000) (hi : i < cs.length) (hj : j = Int32.ofNat i) (hfr : 4 ≤ R.frames) (hlo : W + 53 ≤ R.locals) :
    Back l R p e below s args (⟨"java/lang/String", "charAt", "(I)C"⟩ : MethodName) len W (fun P a => a = #[.ref x, .int j] ∧ P.U.heap = h ∧ P.cells + 0 ≤ R.cells ∧ P.slots + 0 ≤ R.slots)
      (fun P _ v B => ∃ L, (v = some (.int (cs.getD i 0)) ∧ L = [] ∧ B.U.heap = h) ∧ B.locs = P.locs ++ L ∧ B.cells = P.cells + 0 ∧ B.slots = P.slots + 0) := by
  subst hj
  intro m meth c P g ig mk a X hg hsize hdg hW hn hp'
  obtain ⟨rfl, rfl, r1, r2⟩ := hp'
  have al : Z.vm.Alike P.U.vm := hZ.alike.trans X.warmed.alike
  obtain ⟨A, hx⟩ := txt_of wi al E V C K hc hb l2
  obtain ⟨v, B, X', ⟨⟨hv, hh⟩, hl, hk, hs⟩, st⟩ := ChN.pays x t A cs.length (fun j => cs.getD j 0) z fm i (tabChN_of (movedChN hZ hw)) hfr hlo m meth c P g ig mk _ X hg hsize hdg hW hn ⟨r1, r2, rfl, hx, hi, sta_is al S, hz, sta_is al F, rf⟩
  exact ⟨v, B, X', ⟨[], ⟨hv, rfl, hh⟩, hl, hk, hs⟩, st⟩
end StrChars.Road
end Jvm.Pilot.@@N@@
namespace Jvm.Pilot.@@N@@
open Jvm Jvm.ClassFile Sem Op Lib Jvm.Free Jvm.Stand Jvm.LawKit Jvm.RoadKit Bundle Jvm.Pilot.@@N@@.Jvm.D
def Goes (p : Program) (e : Env) (below : List Frame) (Post : Outcome → State → Prop) (T : State) (g : JFrame) : Prop := ∃ (t : State) (o : Outcome), Steps p.tables e below (T.setTop g) t ∧ t.status = .running ∧ Ended t below o ∧ Post o t
theorem Goes.step {p : Program} {e : Env} {below : List Frame} {Post : Outcome → State → Prop} {T T' : State} {g g' : JFrame} (k : ∀ t, Steps p.tables e below (T'.setTop g') t → Steps p.tables e below (T.setTop g) t) (h : Goes p e below Post T' g') : Goes p e below Post T g := by
  obtain ⟨t, o, h1, h2⟩ := h; exact ⟨t, o, k _ h1, h2⟩
theorem Goes.run {p : Program} {e : Env} {below : List Frame} {Post : Outcome → State → Prop} {T T' : State} {g g' : JFrame} (k : Steps p.tables e below (T.setTop g) (T'.setTop g')) (h : Goes p e below Post T' g') : Goes p e below Post T g := by
  obtain ⟨t, o, h1, h2⟩ := h; exact ⟨t, o, k.trans h1, h2⟩
theorem own_cat {v : Value} (h : v.isRef = true) : v.category = 1 := by rcases ref_cases h with rfl | ⟨_, rfl⟩ <;> rfl
theorem own_nref {v : Value} {C : String} (h : v.isRef = true) : narrow (.object C) v = v := by rcases ref_cases h with rfl | ⟨_, rfl⟩ <;> rfl
theorem own_nref' {v : Value} {t : FieldType} (h : v.isRef = true) : narrow t v = v := by rcases ref_cases h with rfl | ⟨_, rfl⟩ <;> cases t <;> rfl
theorem own_fref {v : Value} {C : String} (h : v.isRef = true) : fits (.object C) v = true := by rcases ref_cases h with rfl | ⟨_, rfl⟩ <;> rfl
theorem own_n0 {Z : State} {n0 : Nat} {h : Heap} (O : Old Z n0 h) : n0 ≤ h.size := O.1 ▸ O.2.1
theorem own_since0 (s : State) (n : Nat) : s.Since s.vm n := (State.WarmedH.refl s).since n
theorem own_mono {s t : State} {o : Outcome} {L : List Loc} {k n k' n' : Nat} (h : ReturnedEndW s o t L k n) (hk : k ≤ k') (hn : n ≤ n') : ReturnedEndW s o t L k' n' := ⟨h.1, h.2.1, h.2.2.1, h.2.2.2.mono hk hn⟩
/-- a value that is null or a String -/
def SN (Z : State) (h : Heap) (r : Value) : Prop := r.isRef = true ∧ (r = .null ∨ ∃ a, r = .ref a ∧ Exa Z h a "java/lang/String")
theorem SN.ext {Z : State} {h h' : Heap} {r : Value} (F : SN Z h r) (E : Ext h h') : SN Z h' r := ⟨F.1, F.2.imp id fun ⟨a, q, G⟩ => ⟨a, q, G.ext E⟩⟩
theorem SN.wr {Z : State} {h h' : Heap} {r : Value} {a : Addr} {sl : Nat} {v : Value} (F : SN Z h r) (W : Wr h h' a sl v) : SN Z h' r := ⟨F.1, F.2.imp id fun ⟨a, q, G⟩ => ⟨a, q, G.wr W⟩⟩
theorem SN.keep {Z : State} {h h' : Heap} {r : Value} {ws : List Addr} (F : SN Z h r) (K : Keep h h' ws) : SN Z h' r := ⟨F.1, F.2.imp id fun ⟨a, q, G⟩ => ⟨a, q, G.keep K⟩⟩
theorem own_and255 (x : Int32) : ¬ (x &&& 255) < 0 ∧ ¬ (255 : Int32) < (x &&& 255) := by
  have e : (x &&& 255).toBitVec = x.toBitVec &&& 255#32 := rfl
  have e1 : (x &&& 255).toInt = (x.toBitVec &&& 255#32).toInt := by rw [← e]; rfl
  have e2 : (x.toBitVec &&& 255#32).toNat < 256 := by
    rw [BitVec.toNat_and]; exact Nat.lt_of_le_of_lt Nat.and_le_right (by decide)
  have e3 : (x.toBitVec &&& 255#32).toInt = (x.toBitVec &&& 255#32).toNat := by
    rw [BitVec.toInt_eq_toNat_of_lt]; omega
  rw [Int32.lt_iff_toInt_lt, Int32.lt_iff_toInt_lt, e1, e3]
  have : (0 : Int32).toInt = 0 := rfl
  have : (255 : Int32).toInt = 255 := rfl
  omega
theorem own_nar8 (x : Int32) : nar .char (x &&& 255) = x &&& 255 := i2c_mask x
theorem own_c8 (x : Int32) : ¬ nar .char ((x &&& 255).toUInt32.toUInt16.toUInt32.toInt32) < 0 ∧ ¬ (255 : Int32) < nar .char ((x &&& 255).toUInt32.toUInt16.toUInt32.toInt32) := by
  rw [i2c_mask, own_nar8]; exact own_and255 x
theorem own_wBV {Z : State} {a0 : Array Value} (hw : ∀ d ∈ tables_1, d.before a0 Z = true) : ∀ d ∈ StrChars.Road.words, d.before a0 Z = true := fun d hd => hw d ((by decide +kernel : ∀ d ∈ StrChars.Road.words, d ∈ tables_1) d hd)
theorem own_kext {h h' : Heap} (K : Keep h h' []) : Ext h h' := ⟨K.1, fun a c q => K.2.1 a c q nin0⟩
/-- a compact String of these chars -/
def SX (Z : State) (h : Heap) (a : Addr) (cs : List Int32) : Prop := Exa Z h a "java/lang/String" ∧ Fld Z h a "java/lang/String" "coder" "B" (.int 0) ∧ (∀ c ∈ cs, ¬ c < 0 ∧ ¬ (255 : Int32) < c) ∧ ∃ (t : Addr) (kb : ClassId), Fld Z h a "java/lang/String" "value" "[B" (.ref t) ∧ Arv Z h t kb .byte (Int32.ofNat cs.length) (cs.map fun c => .int (c.toInt8.toInt32)) (.int 0)
theorem SX.ext {Z : State} {h h' : Heap} {a : Addr} {cs : List Int32} (F : SX Z h a cs) (E : Ext h h') : SX Z h' a cs := by
  obtain ⟨f1, f2, f3, t, kb, f4, f5⟩ := F; exact ⟨f1.ext E, f2.ext E, f3, t, kb, f4.ext E, f5.ext E⟩
theorem SX.keepE {Z : State} {a0 : Array Value} {h h' : Heap} {a o : Addr} {cs : List Int32} {C : String} {n : Nat} (F : SX Z h a cs) (K : Keep h h' [o]) (E : Exa Z h o C) (hC : C ≠ "java/lang/String") (wi : (Cond.instantiable C n).before a0 Z = true) : SX Z h' a cs := by
  obtain ⟨f1, f2, f3, t, kb, f4, f5⟩ := F
  have n1 : a ≠ o := (ne_exa E f1 hC).symm
  have n2 : t ≠ o := (Exa.neArv E f5 wi).symm
  exact ⟨f1.keep K, f2.keep K (ninS n1 nin0), f3, t, kb, f4.keep K (ninS n1 nin0), f5.keep K (ninS n2 nin0)⟩
theorem SX.wrE {Z : State} {a0 : Array Value} {h h' : Heap} {a o : Addr} {sl : Nat} {v : Value} {cs : List Int32} {C : String} {n : Nat} (F : SX Z h a cs) (W : Wr h h' o sl v) (E : Exa Z h o C) (hC : C ≠ "java/lang/String") (wi : (Cond.instantiable C n).before a0 Z = true) : SX Z h' a cs := F.keepE (Keep.of_wr W) E hC wi
theorem own_cod {cs : List Int32} (h : ∀ c ∈ cs, ¬ c < 0 ∧ ¬ (255 : Int32) < c) : StrChars.Road.CodA cs 0 (Int32.ofNat cs.length) (cs.map fun c => .int (c.toInt8.toInt32)) := Or.inl ⟨rfl, rfl, rfl, fun c hc => (h c hc).2⟩
theorem own_up {cs : List Int32} (h : ∀ c ∈ cs, ¬ c < 0 ∧ ¬ (255 : Int32) < c) : ∀ c ∈ cs, ¬ c < 0 ∧ ¬ (65535 : Int32) < c := fun c hc => ⟨(h c hc).1, fun q => (h c hc).2 (Int32.lt_trans (by decide) q)⟩
theorem own_wLen {Z : State} {a0 : Array Value} (hw : ∀ d ∈ tables_1, d.before a0 Z = true) : ∀ d ∈ StrChars.Road.wordsLen, d.before a0 Z = true := fun d hd => hw d ((by decide +kernel : ∀ d ∈ StrChars.Road.wordsLen, d ∈ tables_1) d hd)
theorem own_lenW {p : Program} {l : Launch} {e : Env} {R : Room} {s : State} {args : Array Value} {below : List Frame} {len W : Nat} {Z : State} {a0 : Array Value} {h : Heap} (hZ : Z.Warmed39 s.vm) (hw : ∀ d ∈ tables_1, d.before a0 Z = true) (wi : (Jvm.Cond.instantiable "java/lang/String" 4).before a0 Z = true)
    {x : Addr} {cs : List Int32} (F : SX Z h x cs) (l1 : cs.length ≤ 4000) {z : Int32} (S : Sta Z h "java/lang/String" "COMPACT_STRINGS" "Z" (.int z)) (hz : ¬ z = 0) (hfr : 2 ≤ R.frames) (hlo : W + 25 ≤ R.locals) :
    Back l R p e below s args (⟨"java/lang/String", "length", "()I"⟩ : MethodName) len W (fun P a => a = #[.ref x] ∧ P.U.heap = h ∧ P.cells + 0 ≤ R.cells ∧ P.slots + 0 ≤ R.slots)
      (fun P _ v B => ∃ L, (v = some (.int (Int32.ofNat cs.length)) ∧ L = [] ∧ B.U.heap = h) ∧ B.locs = P.locs ++ L ∧ B.cells = P.cells + 0 ∧ B.slots = P.slots + 0) := by
  obtain ⟨f1, f2, f3, t, kb, f4, f5⟩ := F
  exact StrChars.Road.lenW hZ (own_wLen hw) (kI := 4) wi f1 f4 f2 f5 (own_cod f3) (own_up f3) S hz l1 hfr hlo
theorem own_wChN {Z : State} {a0 : Array Value} (hw : ∀ d ∈ tables_1, d.before a0 Z = true) : ∀ d ∈ StrChars.Road.wordsChN, d.before a0 Z = true := fun d hd => hw d ((by decide +kernel : ∀ d ∈ StrChars.Road.wordsChN, d ∈ tables_1) d hd)
theorem own_chN {p : Program} {l : Launch} {e : Env} {R : Room} {s : State} {args : Array Value} {below : List Frame} {len W : Nat} {Z : State} {a0 : Array Value} {h : Heap} (hZ : Z.Warmed39 s.vm) (hw : ∀ d ∈ tables_1, d.before a0 Z = true) (wi : (Jvm.Cond.instantiable "java/lang/String" 4).before a0 Z = true)
    {x : Addr} {cs : List Int32} (F : SX Z h x cs) (l1 : cs.length ≤ 4000) {z : Int32} (S : Sta Z h "java/lang/String" "COMPACT_STRINGS" "Z" (.int z)) (hz : ¬ z = 0) {fm : Value} (SF : Sta Z h "jdk/internal/util/Preconditions" "SIOOBE_FORMATTER" "Ljava/util/function/BiFunction;" fm) (rf : fm.isRef = true) {i : Nat} {j : Int32} (hi : i < cs.length) (hj : j = Int32.ofNat i) (hfr : 4 ≤ R.frames) (hlo : W + 53 ≤ R.locals) :
    Back l R p e below s args (⟨"java/lang/String", "charAt", "(I)C"⟩ : MethodName) len W (fun P a => a = #[.ref x, .int j] ∧ P.U.heap = h ∧ P.cells + 0 ≤ R.cells ∧ P.slots + 0 ≤ R.slots)
      (fun P _ v B => ∃ L, (v = some (.int (cs.getD i 0)) ∧ L = [] ∧ B.U.heap = h) ∧ B.locs = P.locs ++ L ∧ B.cells = P.cells + 0 ∧ B.slots = P.slots + 0) := by
  obtain ⟨f1, f2, f3, t, kb, f4, f5⟩ := F
  exact StrChars.Road.chN hZ (own_wChN hw) (kI := 4) wi f1 f4 f2 f5 (own_cod f3) (own_up f3) S hz SF rf l1 hi hj hfr hlo
/-- the place of the first point, or the length -/
def IX : List Int32 → Nat
  | [] => 0
  | c :: r => if c = 46 then 0 else IX r + 1
theorem IX_le : ∀ cs : List Int32, IX cs ≤ cs.length
  | [] => Nat.le_refl _
  | c :: r => by have := IX_le r; simp only [IX]; split <;> simp; omega
theorem IX_drop {cs : List Int32} {i : Nat} (hi : i < cs.length) : IX (cs.drop i) = if cs.getD i 0 = 46 then 0 else IX (cs.drop (i + 1)) + 1 := by
  rw [List.drop_eq_getElem_cons hi, IX]; simp [List.getD_eq_getElem?_getD, hi]
theorem own_n32 {n : Nat} (h : n ≤ 4000) : (Int32.ofNat n).toInt = n := Int32.toInt_ofNat_small (by omega)
theorem own_lt {a b : Nat} (ha : a ≤ 4000) (hb : b ≤ 4000) : Int32.ofNat a < Int32.ofNat b ↔ a < b := by rw [Int32.lt_iff_toInt_lt, own_n32 ha, own_n32 hb]; omega
theorem own_eq {a b : Nat} (ha : a ≤ 4000) (hb : b ≤ 4000) : Int32.ofNat a = Int32.ofNat b ↔ a = b := by rw [← Int32.toInt_inj, own_n32 ha, own_n32 hb]; omega
theorem own_nn {a : Nat} (ha : a ≤ 4000) : ¬ Int32.ofNat a < 0 := by rw [Int32.lt_iff_toInt_lt, own_n32 ha]; simp
theorem own_clamp {a : Nat} (ha : a ≤ 4000) : (Int32.ofNat a).toNatClampNeg = a := by rw [Int32.toNatClampNeg, own_n32 ha]; rfl
theorem own_sub {a b : Nat} (hb : b ≤ 4000) (ha : a ≤ 4000) : (Int32.ofNat a - Int32.ofNat b).toInt = (a : Int) - b := by
  rw [Int32.toInt_sub, own_n32 ha, own_n32 hb, Int.bmod_eq_of_le] <;> omega
/-- a byte that is 46 is a char that is 46 -/
theorem own_by46 {c : Int32} (h : ¬ c < 0 ∧ ¬ (255 : Int32) < c) : c.toInt8.toInt32 = 46 ↔ c = 46 := by
  rw [Int32.lt_iff_toInt_lt, Int32.lt_iff_toInt_lt] at h
  have z : (0 : Int32).toInt = 0 := rfl
  have y : (255 : Int32).toInt = 255 := rfl
  have e : c.toInt8.toInt32.toInt = c.toInt.bmod 256 := by simp [Int32.toInt_toInt8]
  rw [← Int32.toInt_inj, ← Int32.toInt_inj, e]
  have x : (46 : Int32).toInt = 46 := rfl
  rw [x]; simp only [Int.bmod_def]; omega
theorem own_at {cs : List Int32} {i : Nat} (hi : i < cs.length) : (cs.map fun c => Value.int (c.toInt8.toInt32)).getD i (.int 0) = .int ((cs.getD i 0).toInt8.toInt32) := by
  simp [List.getD_eq_getElem?_getD, hi]
theorem own_mem {cs : List Int32} {i : Nat} (hi : i < cs.length) : cs.getD i 0 ∈ cs := by
  simp [List.getD_eq_getElem?_getD, hi]
theorem own_skip {Z : State} {h : Heap} {a : Addr} {k : ClassId} {ty : FieldType} {n : Int32} {vs : List Value} {dv : Value} (V : Arv Z h a k ty n vs dv) (j : Nat) (hj : n.toNatClampNeg ≤ j) (v : Value) : Arv Z h a k ty n (vs.set j v) dv := by
  obtain ⟨c, A, r1, r2, r3, H, G⟩ := V
  have q : ∀ i, i < c.slots.size → (vs.set j v).getD i dv = vs.getD i dv := fun i hi => by
    rw [r2] at hi; simp only [List.getD_eq_getElem?_getD]; rw [List.getElem?_set_ne (by omega)]
  exact ⟨c, A, r1, r2, r3, fun i hi => by rw [q i hi]; exact H i hi, fun i hi => by rw [q i hi]; exact G i hi⟩
theorem own_takeV {Z : State} {h : Heap} {a : Addr} {k : ClassId} {ty : FieldType} {n : Int32} {vs : List Int32} {dv : Value} (V : Arv Z h a k ty n (vs.map Value.int) dv) (j : Nat) (hj : n.toNatClampNeg ≤ j) : Arv Z h a k ty n ((vs.take j).map Value.int) dv := by
  obtain ⟨c, A, r1, r2, r3, H, G⟩ := V
  have q : ∀ i, i < c.slots.size → ((vs.take j).map Value.int).getD i dv = (vs.map Value.int).getD i dv := fun i hi => by
    rw [r2] at hi; simp only [List.getD_eq_getElem?_getD, List.getElem?_map]; rw [List.getElem?_take_of_lt (by omega)]
  exact ⟨c, A, r1, r2, r3, fun i hi => by rw [q i hi]; exact H i hi, fun i hi => by rw [q i hi]; exact G i hi⟩
theorem IX_none : ∀ {cs : List Int32}, (∀ c ∈ cs, c ≠ 46) → IX cs = cs.length
  | [], _ => rfl
  | c :: r, h => by rw [IX, if_neg (h c (List.mem_cons_self ..)), IX_none (fun d hd => h d (List.mem_cons_of_mem _ hd))]; rfl
theorem IX_set : ∀ {cs : List Int32} {j : Nat}, (∀ c ∈ cs, c ≠ 46) → j < cs.length → IX (cs.set j 46) = j
  | c :: r, 0, _, _ => by simp [IX]
  | c :: r, j + 1, h, hj => by rw [List.set_cons_succ, IX, if_neg (h c (List.mem_cons_self ..)), IX_set (fun d hd => h d (List.mem_cons_of_mem _ hd)) (by simpa using hj)]
theorem own_digit (x : Int32) : ¬ nar .char ((48 + (x &&& 15) % 10).toUInt32.toUInt16.toUInt32.toInt32) < 48 ∧ ¬ (57 : Int32) < nar .char ((48 + (x &&& 15) % 10).toUInt32.toUInt16.toUInt32.toInt32) := by
  have e2 : (x.toBitVec &&& 15#32).toNat < 16 := by
    rw [BitVec.toNat_and]; exact Nat.lt_of_le_of_lt Nat.and_le_right (by decide)
  have e1 : (x &&& 15).toInt = (x.toBitVec &&& 15#32).toNat := by
    show (x.toBitVec &&& 15#32).toInt = _
    rw [BitVec.toInt_eq_toNat_of_lt]; omega
  have : ∀ n : Nat, n < 16 → ∀ y : Int32, y.toInt = n → ¬ nar .char ((48 + y % 10).toUInt32.toUInt16.toUInt32.toInt32) < 48 ∧ ¬ (57 : Int32) < nar .char ((48 + y % 10).toUInt32.toUInt16.toUInt32.toInt32) := by
    intro n hn y hy
    have hy' : y = Int32.ofNat n := Int32.toInt_inj.mp (by rw [hy]; exact (Int32.toInt_ofNat_small (by omega)).symm)
    rw [hy']
    exact (by decide : ∀ n : Fin 16, ¬ nar .char ((48 + (Int32.ofNat n.val) % 10).toUInt32.toUInt16.toUInt32.toInt32) < 48 ∧ ¬ (57 : Int32) < nar .char ((48 + (Int32.ofNat n.val) % 10).toUInt32.toUInt16.toUInt32.toInt32)) ⟨n, hn⟩
  exact this _ e2 _ e1
theorem own_narC (y : Int32) : nar .char (nar .char y) = nar .char y := by
  have h : ∀ u : UInt16, (u.toUInt32.toInt32).toUInt32.toUInt16 = u := fun u => by
    rw [show u.toUInt32.toInt32.toUInt32 = u.toUInt32 from rfl]; exact UInt16.toUInt16_toUInt32 u
  show ((y.toUInt32.toUInt16).toUInt32.toInt32).toUInt32.toUInt16.toUInt32.toInt32 = _
  rw [h]; rfl
theorem own_and7 (x : Int32) : ∃ k : Nat, 1 ≤ k ∧ k ≤ 8 ∧ 1 + (x &&& 7) = Int32.ofNat k := by
  have e2 : (x.toBitVec &&& 7#32).toNat < 8 := by
    rw [BitVec.toNat_and]; exact Nat.lt_of_le_of_lt Nat.and_le_right (by decide)
  have e1 : (x &&& 7).toInt = (x.toBitVec &&& 7#32).toNat := by
    show (x.toBitVec &&& 7#32).toInt = _
    rw [BitVec.toInt_eq_toNat_of_lt]; omega
  refine ⟨(x.toBitVec &&& 7#32).toNat + 1, by omega, by omega, Int32.toInt_inj.mp ?_⟩
  have o : (1 : Int32).toInt = 1 := rfl
  rw [Int32.toInt_add, e1, o, Int32.toInt_ofNat_small (by omega)]
  simp only [Int.bmod_def]; omega
theorem own_mask (x : Int32) : 0 ≤ (x &&& 2147483647).toInt := by
  have e2 : (x.toBitVec &&& 2147483647#32).toNat ≤ 2147483647 := by
    rw [BitVec.toNat_and]; exact Nat.and_le_right
  have e1 : (x &&& 2147483647).toInt = (x.toBitVec &&& 2147483647#32).toNat := by
    show (x.toBitVec &&& 2147483647#32).toInt = _
    rw [BitVec.toInt_eq_toNat_of_lt]; omega
  omega
/-- a nonnegative number modulo a small one -/
theorem own_mod {x : Int32} (hx : 0 ≤ x.toInt) {m : Nat} (hm : 1 ≤ m) (h4 : m ≤ 4000) : ∃ j : Nat, j < m ∧ x % Int32.ofNat m = Int32.ofNat j := by
  refine ⟨(x.toInt % m).toNat, by have := Int.emod_lt_of_pos x.toInt (show (0 : Int) < m by omega); have := Int.emod_nonneg x.toInt (show (m : Int) ≠ 0 by omega); omega, Int32.toInt_inj.mp ?_⟩
  have h1 := Int.emod_lt_of_pos x.toInt (show (0 : Int) < m by omega)
  have h2 := Int.emod_nonneg x.toInt (show (m : Int) ≠ 0 by omega)
  rw [Int32.toInt_mod, own_n32 h4, Int32.toInt_ofNat_small (by omega), Int.tmod_eq_emod_of_nonneg hx]; omega
/-- how many '0' lead -/
def LZ : List Int32 → Nat
  | [] => 0
  | c :: r => if c = 48 then LZ r + 1 else 0
theorem LZ_le : ∀ cs : List Int32, LZ cs ≤ IX cs
  | [] => Nat.le_refl _
  | c :: r => by
    have := LZ_le r
    simp only [LZ, IX]
    by_cases h : c = 48
    · rw [if_pos h, if_neg (by rw [h]; decide)]; omega
    · rw [if_neg h]; exact Nat.zero_le _
theorem LZ_drop {cs : List Int32} {i : Nat} (hi : i < cs.length) : LZ (cs.drop i) = if cs.getD i 0 = 48 then LZ (cs.drop (i + 1)) + 1 else 0 := by
  rw [List.drop_eq_getElem_cons hi, LZ]; simp [List.getD_eq_getElem?_getD, hi]
theorem IX_eq : ∀ {cs : List Int32} {j : Nat}, j ≤ cs.length → (∀ i, i < j → cs.getD i 0 ≠ 46) → (j = cs.length ∨ cs.getD j 0 = 46) → IX cs = j
  | [], j, h, _, _ => by simp at h; simp [IX, h]
  | c :: r, 0, _, _, h => by
    rcases h with h | h
    · simp at h
    · simp at h; simp [IX, h]
  | c :: r, j + 1, h1, h2, h3 => by
    have h0 := h2 0 (by omega); simp at h0
    rw [IX, if_neg h0, IX_eq (j := j) (by simpa using h1) (fun i hi => by have := h2 (i + 1) (by omega); simpa using this) (by simpa using h3)]
theorem LZ_eq : ∀ {cs : List Int32} {j : Nat}, j ≤ cs.length → (∀ i, i < j → cs.getD i 0 = 48) → (j = cs.length ∨ cs.getD j 0 ≠ 48) → LZ cs = j
  | [], j, h, _, _ => by simp at h; simp [LZ, h]
  | c :: r, 0, _, _, h => by
    rcases h with h | h
    · simp at h
    · simp at h; simp [LZ, h]
  | c :: r, j + 1, h1, h2, h3 => by
    have h0 := h2 0 (by omega); simp at h0
    rw [LZ, if_pos h0, LZ_eq (j := j) (by simpa using h1) (fun i hi => by have := h2 (i + 1) (by omega); simpa using this) (by simpa using h3)]
def ND (b i : Int32) : Int32 := (b.toUInt32 >>> ((4 * i) &&& 31).toUInt32).toInt32 &&& 15
def DG (b i : Int32) : Int32 := if ND b i < 10 then nar .char ((48 + ND b i).toUInt32.toUInt16.toUInt32.toInt32) else 48
def DL (b : Int32) : List Int32 := [DG b 0, DG b 1, DG b 2, DG b 3, DG b 4, DG b 5]
theorem DG_nar (b i : Int32) : nar .char (DG b i) = DG b i := by unfold DG; split; exact own_narC _; decide
theorem DG_rng (b i : Int32) : ¬ DG b i < 48 ∧ ¬ (57 : Int32) < DG b i := by
  unfold DG ND
  have e2 : ((b.toUInt32 >>> ((4 * i) &&& 31).toUInt32).toInt32.toBitVec &&& 15#32).toNat < 16 := by
    rw [BitVec.toNat_and]; exact Nat.lt_of_le_of_lt Nat.and_le_right (by decide)
  generalize (b.toUInt32 >>> ((4 * i) &&& 31).toUInt32).toInt32 = x at e2 ⊢
  have e1 : (x &&& 15).toInt = (x.toBitVec &&& 15#32).toNat := by
    show (x.toBitVec &&& 15#32).toInt = _
    rw [BitVec.toInt_eq_toNat_of_lt]; omega
  have hy' : x &&& 15 = Int32.ofNat (x.toBitVec &&& 15#32).toNat := Int32.toInt_inj.mp (by rw [e1]; exact (Int32.toInt_ofNat_small (by omega)).symm)
  rw [hy']
  exact (by decide : ∀ n : Fin 16, ¬ (if Int32.ofNat n.val < 10 then nar .char ((48 + Int32.ofNat n.val).toUInt32.toUInt16.toUInt32.toInt32) else 48) < 48 ∧ ¬ (57 : Int32) < (if Int32.ofNat n.val < 10 then nar .char ((48 + Int32.ofNat n.val).toUInt32.toUInt16.toUInt32.toInt32) else 48)) ⟨_, e2⟩
theorem own_r {c : Int32} (h : ¬ c < 48 ∧ ¬ (57 : Int32) < c) : c ≠ 46 ∧ ¬ c < 0 ∧ ¬ (255 : Int32) < c := by
  have a : (48 : Int32).toInt = 48 := rfl
  have b : (57 : Int32).toInt = 57 := rfl
  have d : (255 : Int32).toInt = 255 := rfl
  have z : (0 : Int32).toInt = 0 := rfl
  have f : (46 : Int32).toInt = 46 := rfl
  simp only [Int32.lt_iff_toInt_lt, a, b, d, z] at h ⊢
  refine ⟨fun q => ?_, by omega, by omega⟩
  rw [q, f] at h; omega
theorem DL_mem {b c : Int32} (h : c ∈ DL b) : c ≠ 46 ∧ ¬ c < 0 ∧ ¬ (255 : Int32) < c := by
  simp only [DL, List.mem_cons, List.not_mem_nil, or_false] at h
  rcases h with rfl | rfl | rfl | rfl | rfl | rfl <;> exact own_r (DG_rng _ _)
theorem IX_get : ∀ {cs : List Int32}, IX cs < cs.length → cs.getD (IX cs) 0 = 46
  | [], h => by simp [IX] at h
  | c :: r, h => by
    by_cases q : c = 46
    · simp [IX, q]
    · rw [IX, if_neg q] at h ⊢; simpa using IX_get (cs := r) (by simpa using h)
def Pic (cs : List Int32) (pp : Nat) : Prop := cs.length = 6 ∧ (∀ c ∈ cs, ¬ c < 0 ∧ ¬ (255 : Int32) < c) ∧ IX cs = pp ∧ 1 ≤ pp ∧ pp ≤ 6
theorem pic6 (b : Int32) : Pic (DL b) 6 := ⟨rfl, fun c hc => (DL_mem hc).2, IX_none fun c hc => (DL_mem hc).1, by decide, by decide⟩
theorem picS (b : Int32) {v : Nat} (h1 : 1 ≤ v) (h4 : v ≤ 4) : Pic ((DL b).set v 46) v := by
  refine ⟨by rw [List.length_set]; rfl, fun c hc => ?_, IX_set (fun c hc => (DL_mem hc).1) (by simp [DL]; omega), h1, by omega⟩
  rcases List.mem_or_eq_of_mem_set hc with h | h
  · exact (DL_mem h).2
  · subst h; decide
theorem own_v8 (x : Int32) : x &&& 7 = 0 ∨ x &&& 7 = 1 ∨ x &&& 7 = 2 ∨ x &&& 7 = 3 ∨ x &&& 7 = 4 ∨ x &&& 7 = 5 ∨ x &&& 7 = 6 ∨ x &&& 7 = 7 := by
  have e2 : (x.toBitVec &&& 7#32).toNat < 8 := by
    rw [BitVec.toNat_and]; exact Nat.lt_of_le_of_lt Nat.and_le_right (by decide)
  have e1 : (x &&& 7).toInt = (x.toBitVec &&& 7#32).toNat := by
    show (x.toBitVec &&& 7#32).toInt = _
    rw [BitVec.toInt_eq_toNat_of_lt]; omega
  have hy' : x &&& 7 = Int32.ofNat (x.toBitVec &&& 7#32).toNat := Int32.toInt_inj.mp (by rw [e1]; exact (Int32.toInt_ofNat_small (by omega)).symm)
  rw [hy']
  exact (by decide : ∀ n : Fin 8, Int32.ofNat n.val = 0 ∨ Int32.ofNat n.val = 1 ∨ Int32.ofNat n.val = 2 ∨ Int32.ofNat n.val = 3 ∨ Int32.ofNat n.val = 4 ∨ Int32.ofNat n.val = 5 ∨ Int32.ofNat n.val = 6 ∨ Int32.ofNat n.val = 7) ⟨_, e2⟩
theorem own_atI {cs : List Int32} {i : Nat} {j : Int32} (hj : j.toNatClampNeg = i) (hi : i < cs.length) : (cs.map Value.int).getD j.toNatClampNeg (.int (0 : Int32)) = .int (cs.getD i 0) := by
  rw [hj]; simp [List.getD_eq_getElem?_getD, hi]
theorem own_i8 (x : Int32) : (x.toInt8.toInt32).toInt8.toInt32 = x.toInt8.toInt32 := by simp
theorem d_jdk_43_method_4_0 : decode jdk_43_method_4_code 0 = .ok (.iload_n 0, 1) := by decide +kernel
theorem d_jdk_43_method_4_1 : decode jdk_43_method_4_code 1 = .ok (.ifCond .lt 14, 3) := by decide +kernel
theorem d_jdk_43_method_4_4 : decode jdk_43_method_4_code 4 = .ok (.iload_n 0, 1) := by decide +kernel
theorem d_jdk_43_method_4_5 : decode jdk_43_method_4_code 5 = .ok (.sipush 255, 3) := by decide +kernel
theorem d_jdk_43_method_4_8 : decode jdk_43_method_4_code 8 = .ok (.if_icmp .gt 7, 3) := by decide +kernel
theorem d_jdk_43_method_4_11 : decode jdk_43_method_4_code 11 = .ok (.iconst 1, 1) := by decide +kernel
theorem d_jdk_43_method_4_12 : decode jdk_43_method_4_code 12 = .ok (.goto 4, 3) := by decide +kernel
theorem d_jdk_43_method_4_16 : decode jdk_43_method_4_code 16 = .ok (.ireturn, 1) := by decide +kernel
theorem pn_0 : plainName "java/lang/StringLatin1" = true := by first | (simp [plainName, overriddenIn]; done) | decide +kernel
theorem ef_canEncI (m : MethodId)  : entryFrame m #[(.int (46 : Int32))] 1 = mkF m 0 #[.val (.int (46 : Int32))] [] := by first | (simp [entryFrame, mkF, argsToLocals, Value.category, maxLocals]; done) | rfl
def Q_canEncI (Z : State)  (h0 : Heap) (n0 : Nat) (v : Option Value) (h : Heap) (L : List Loc) : Prop := (v = some (.int (1 : Int32))) ∧ (L = []) ∧ (h = h0)
set_option maxRecDepth 65536 in
set_option maxHeartbeats 40000000 in
theorem rm_canEncI (l : Launch) (Z : State) (a0 : Array Value) (hw : ∀ d ∈ tables_1, d.before a0 Z = true) (ws : List Jvm.Cond)  (h0 : Heap) (n0 : Nat) (O0 : Old Z n0 h0)   :
    MetFree l (⟨"java/lang/StringLatin1", "canEncode", "(I)Z"⟩ : MethodName) (head1 ((Jvm.Cond.code (⟨"java/lang/StringLatin1", "canEncode", "(I)Z"⟩ : MethodName) jdk_43_method_4_code 1 (some .boolean)) :: ws) ({ frames := 0, cells := 0, slots := 0, locals := 0 } : Room)) (fun a U => a = #[(.int (46 : Int32))] ∧ Z.Warmed39 U.vm ∧ U.heap = h0) (fun _ _ _ _ _ => True) (fun _ U o U' => ∃ v L, o = .returned v ∧ Q_canEncI Z  h0 n0 v U'.heap L ∧ FrameEnd U o U' L ({ frames := 0, cells := 0, slots := 0, locals := 0 } : Room).cells ({ frames := 0, cells := 0, slots := 0, locals := 0 } : Room).slots) := by
  refine MetFree.of_bodySF (plainFor_of_name pn_0) hisR ?_
  intro p e s m args below meth c s₁ Bd hml0 hP hK
  obtain ⟨rfl, hZ, hh⟩ := hP
  have hx := Bd.exec
  have hby := Bd.bytes
  have hml : c.maxLocals = 1 := hml0
  have hown : s.vm.findClass "java/lang/StringLatin1" = some m.cls := findClass_of_methodNamed Bd.named
  have hnm := (name_of_methodNamed Bd.named Bd.method).1
  have X0 : Stand p l e ({ frames := 0, cells := 0, slots := 0, locals := 0 } : Room) s m #[(.int (46 : Int32))] below meth c s₁ [] 0 0 := Stand.of_body Bd
  have e0 : s₁.heap = h0 := by rw [← hh, Bd.state]; rfl
  have N0 := Fr.nil n0
  have K0 : Keep h0 h0 [] := Keep.refl _ _
  suffices hG : Goes p e below (fun o U' => ∃ v L, o = .returned v ∧ Q_canEncI Z  h0 n0 v U'.heap L ∧ FrameEnd s o U' L ({ frames := 0, cells := 0, slots := 0, locals := 0 } : Room).cells ({ frames := 0, cells := 0, slots := 0, locals := 0 } : Room).slots) s₁ (mkF m 0 #[.val (.int (46 : Int32))] []) by
    obtain ⟨t, o, h1, h2⟩ := hG; exact ⟨t, o, castTop (ef_canEncI m ) h1, h2⟩
  refine Goes.step (T' := s₁) (g' := (mkF m 1 #[.val (.int (46 : Int32))] [(.int (46 : Int32))])) (fun _ kz => XS.iloadN X0.here hx rfl (hb hby d_jdk_43_method_4_0) rfl  kz) ?_
  refine Goes.step (T' := s₁) (g' := (mkF m 4 #[.val (.int (46 : Int32))] [])) (fun _ kz => XS.ifNo X0.here hx rfl (hb hby d_jdk_43_method_4_1) rfl ((if0 _ _).trans (flt (by decide : ¬ ((46 : Int32) < (0 : Int32)))).1) kz) ?_
  refine Goes.step (T' := s₁) (g' := (mkF m 5 #[.val (.int (46 : Int32))] [(.int (46 : Int32))])) (fun _ kz => XS.iloadN X0.here hx rfl (hb hby d_jdk_43_method_4_4) rfl  kz) ?_
  refine Goes.step (T' := s₁) (g' := (mkF m 8 #[.val (.int (46 : Int32))] [(.int (255 : Int32)), (.int (46 : Int32))])) (fun _ kz => XS.sipush X0.here hx rfl (hb hby d_jdk_43_method_4_5) kz) ?_
  refine Goes.step (T' := s₁) (g' := (mkF m 11 #[.val (.int (46 : Int32))] [])) (fun _ kz => XS.icmpNo X0.here hx rfl (hb hby d_jdk_43_method_4_8) rfl (flt (by decide : ¬ ((255 : Int32) < (46 : Int32)))).2.2.1 kz) ?_
  refine Goes.step (T' := s₁) (g' := (mkF m 12 #[.val (.int (46 : Int32))] [(.int (1 : Int32))])) (fun _ kz => XS.iconst X0.here hx rfl (hb hby d_jdk_43_method_4_11) kz) ?_
  refine Goes.step (T' := s₁) (g' := (mkF m 16 #[.val (.int (46 : Int32))] [(.int (1 : Int32))])) (fun _ kz => XS.goto X0.here hx rfl (pc0 := 12) (pc' := 16) rfl (hb hby d_jdk_43_method_4_12) (by decide) (by decide) kz) ?_
  obtain ⟨fs, hr, hrun, hended, hW, hsame⟩ := X0.leave (v := some (.int (nar .boolean (1 : Int32)))) (fun h => by rw [Bd.returns] at h; cases h)
  exact ⟨_, _, retN X0 hx (t := .boolean) Bd.returns (by simp) (hb hby d_jdk_43_method_4_16) hr, hrun, hended, _, _, rfl, (by show Q_canEncI Z  h0 n0 _ s₁.heap _; rw [e0]; exact ⟨rfl, rfl, rfl⟩), ⟨_, rfl⟩, hW, hsame.mono (by decide) (by decide)⟩
theorem d_jdk_29_method_65_0 : decode jdk_29_method_65_code 0 = .ok (.iload_n 0, 1) := by decide +kernel
theorem d_jdk_29_method_65_1 : decode jdk_29_method_65_code 1 = .ok (.iload_n 1, 1) := by decide +kernel
theorem d_jdk_29_method_65_2 : decode jdk_29_method_65_code 2 = .ok (.if_icmp .lt 7, 3) := by decide +kernel
theorem d_jdk_29_method_65_9 : decode jdk_29_method_65_code 9 = .ok (.iload_n 1, 1) := by decide +kernel
theorem d_jdk_29_method_65_10 : decode jdk_29_method_65_code 10 = .ok (.ireturn, 1) := by decide +kernel
theorem d_jdk_29_method_65_5 : decode jdk_29_method_65_code 5 = .ok (.iload_n 0, 1) := by decide +kernel
theorem d_jdk_29_method_65_6 : decode jdk_29_method_65_code 6 = .ok (.goto 4, 3) := by decide +kernel
theorem ef_mathmax (m : MethodId) (p1 : Int32) (p2 : Int32) : entryFrame m #[(.int p1), (.int p2)] 2 = mkF m 0 #[.val (.int p1), .val (.int p2)] [] := by first | (simp [entryFrame, mkF, argsToLocals, Value.category, maxLocals]; done) | rfl
def Q_mathmax (Z : State) (p1 : Int32) (p2 : Int32) (h0 : Heap) (n0 : Nat) (v : Option Value) (h : Heap) (L : List Loc) : Prop := (v = some (.int (if p1 < p2 then p2 else p1))) ∧ (L = []) ∧ (h = h0)
set_option maxRecDepth 65536 in
set_option maxHeartbeats 40000000 in
theorem rm_mathmax (l : Launch) (Z : State) (a0 : Array Value) (hw : ∀ d ∈ tables_1, d.before a0 Z = true) (ws : List Jvm.Cond) (p1 : Int32) (p2 : Int32) (h0 : Heap) (n0 : Nat) (O0 : Old Z n0 h0)   :
    MetFree l (⟨"java/lang/Math", "max", "(II)I"⟩ : MethodName) (head1 ((Jvm.Cond.code (⟨"java/lang/Math", "max", "(II)I"⟩ : MethodName) jdk_29_method_65_code 2 (some .int)) :: ws) ({ frames := 0, cells := 0, slots := 0, locals := 0 } : Room)) (fun a U => a = #[(.int p1), (.int p2)] ∧ Z.Warmed39 U.vm ∧ U.heap = h0) (fun _ _ _ _ _ => True) (fun _ U o U' => ∃ v L, o = .returned v ∧ Q_mathmax Z p1 p2 h0 n0 v U'.heap L ∧ FrameEnd U o U' L ({ frames := 0, cells := 0, slots := 0, locals := 0 } : Room).cells ({ frames := 0, cells := 0, slots := 0, locals := 0 } : Room).slots) := by
  refine MetFree.of_bodySF (Jvm.Free.JP.mathPlain rfl (by decide)) hisR ?_
  intro p e s m args below meth c s₁ Bd hml0 hP hK
  obtain ⟨rfl, hZ, hh⟩ := hP
  have hx := Bd.exec
  have hby := Bd.bytes
  have hml : c.maxLocals = 2 := hml0
  have hown : s.vm.findClass "java/lang/Math" = some m.cls := findClass_of_methodNamed Bd.named
  have hnm := (name_of_methodNamed Bd.named Bd.method).1
  have X0 : Stand p l e ({ frames := 0, cells := 0, slots := 0, locals := 0 } : Room) s m #[(.int p1), (.int p2)] below meth c s₁ [] 0 0 := Stand.of_body Bd
  have e0 : s₁.heap = h0 := by rw [← hh, Bd.state]; rfl
  have N0 := Fr.nil n0
  have K0 : Keep h0 h0 [] := Keep.refl _ _
  suffices hG : Goes p e below (fun o U' => ∃ v L, o = .returned v ∧ Q_mathmax Z p1 p2 h0 n0 v U'.heap L ∧ FrameEnd s o U' L ({ frames := 0, cells := 0, slots := 0, locals := 0 } : Room).cells ({ frames := 0, cells := 0, slots := 0, locals := 0 } : Room).slots) s₁ (mkF m 0 #[.val (.int p1), .val (.int p2)] []) by
    obtain ⟨t, o, h1, h2⟩ := hG; exact ⟨t, o, castTop (ef_mathmax m p1 p2) h1, h2⟩
  refine Goes.step (T' := s₁) (g' := (mkF m 1 #[.val (.int p1), .val (.int p2)] [(.int p1)])) (fun _ kz => XS.iloadN X0.here hx rfl (hb hby d_jdk_29_method_65_0) rfl  kz) ?_
  refine Goes.step (T' := s₁) (g' := (mkF m 2 #[.val (.int p1), .val (.int p2)] [(.int p2), (.int p1)])) (fun _ kz => XS.iloadN X0.here hx rfl (hb hby d_jdk_29_method_65_1) rfl  kz) ?_
  by_cases hc2_1 : p1 < p2
  ·
    refine Goes.step (T' := s₁) (g' := (mkF m 9 #[.val (.int p1), .val (.int p2)] [])) (fun _ kz => XS.icmpYes X0.here hx rfl (pc0 := 2) (pc' := 9) rfl (hb hby d_jdk_29_method_65_2) rfl (tlt hc2_1).1 (by decide) (by decide) kz) ?_
    refine Goes.step (T' := s₁) (g' := (mkF m 10 #[.val (.int p1), .val (.int p2)] [(.int p2)])) (fun _ kz => XS.iloadN X0.here hx rfl (hb hby d_jdk_29_method_65_9) rfl  kz) ?_
    obtain ⟨fs, hr, hrun, hended, hW, hsame⟩ := X0.leave (v := some (.int p2)) (fun h => by rw [Bd.returns] at h; cases h)
    exact ⟨_, _, retOut X0 hx Bd.returns rfl (Or.inl ⟨rfl, Or.inl rfl, _, rfl⟩) (hb hby d_jdk_29_method_65_10) hr, hrun, hended, _, _, rfl, (by show Q_mathmax Z p1 p2 h0 n0 _ s₁.heap _; rw [e0]; exact ⟨(by simp [hc2_1]), rfl, rfl⟩), ⟨_, rfl⟩, hW, hsame.mono (by decide) (by decide)⟩
  ·
    refine Goes.step (T' := s₁) (g' := (mkF m 5 #[.val (.int p1), .val (.int p2)] [])) (fun _ kz => XS.icmpNo X0.here hx rfl (hb hby d_jdk_29_method_65_2) rfl (flt hc2_1).1 kz) ?_
    refine Goes.step (T' := s₁) (g' := (mkF m 6 #[.val (.int p1), .val (.int p2)] [(.int p1)])) (fun _ kz => XS.iloadN X0.here hx rfl (hb hby d_jdk_29_method_65_5) rfl  kz) ?_
    refine Goes.step (T' := s₁) (g' := (mkF m 10 #[.val (.int p1), .val (.int p2)] [(.int p1)])) (fun _ kz => XS.goto X0.here hx rfl (pc0 := 6) (pc' := 10) rfl (hb hby d_jdk_29_method_65_6) (by decide) (by decide) kz) ?_
    obtain ⟨fs, hr, hrun, hended, hW, hsame⟩ := X0.leave (v := some (.int p1)) (fun h => by rw [Bd.returns] at h; cases h)
    exact ⟨_, _, retOut X0 hx Bd.returns rfl (Or.inl ⟨rfl, Or.inl rfl, _, rfl⟩) (hb hby d_jdk_29_method_65_10) hr, hrun, hended, _, _, rfl, (by show Q_mathmax Z p1 p2 h0 n0 _ s₁.heap _; rw [e0]; exact ⟨(by simp [hc2_1]), rfl, rfl⟩), ⟨_, rfl⟩, hW, hsame.mono (by decide) (by decide)⟩
theorem d_jdk_29_method_69_0 : decode jdk_29_method_69_code 0 = .ok (.iload_n 0, 1) := by decide +kernel
theorem d_jdk_29_method_69_1 : decode jdk_29_method_69_code 1 = .ok (.iload_n 1, 1) := by decide +kernel
theorem d_jdk_29_method_69_2 : decode jdk_29_method_69_code 2 = .ok (.if_icmp .gt 7, 3) := by decide +kernel
theorem d_jdk_29_method_69_9 : decode jdk_29_method_69_code 9 = .ok (.iload_n 1, 1) := by decide +kernel
theorem d_jdk_29_method_69_10 : decode jdk_29_method_69_code 10 = .ok (.ireturn, 1) := by decide +kernel
theorem d_jdk_29_method_69_5 : decode jdk_29_method_69_code 5 = .ok (.iload_n 0, 1) := by decide +kernel
theorem d_jdk_29_method_69_6 : decode jdk_29_method_69_code 6 = .ok (.goto 4, 3) := by decide +kernel
theorem ef_mathmin (m : MethodId) (p1 : Int32) (p2 : Int32) : entryFrame m #[(.int p1), (.int p2)] 2 = mkF m 0 #[.val (.int p1), .val (.int p2)] [] := by first | (simp [entryFrame, mkF, argsToLocals, Value.category, maxLocals]; done) | rfl
def Q_mathmin (Z : State) (p1 : Int32) (p2 : Int32) (h0 : Heap) (n0 : Nat) (v : Option Value) (h : Heap) (L : List Loc) : Prop := (v = some (.int (if p2 < p1 then p2 else p1))) ∧ (L = []) ∧ (h = h0)
set_option maxRecDepth 65536 in
set_option maxHeartbeats 40000000 in
theorem rm_mathmin (l : Launch) (Z : State) (a0 : Array Value) (hw : ∀ d ∈ tables_1, d.before a0 Z = true) (ws : List Jvm.Cond) (p1 : Int32) (p2 : Int32) (h0 : Heap) (n0 : Nat) (O0 : Old Z n0 h0)   :
    MetFree l (⟨"java/lang/Math", "min", "(II)I"⟩ : MethodName) (head1 ((Jvm.Cond.code (⟨"java/lang/Math", "min", "(II)I"⟩ : MethodName) jdk_29_method_69_code 2 (some .int)) :: ws) ({ frames := 0, cells := 0, slots := 0, locals := 0 } : Room)) (fun a U => a = #[(.int p1), (.int p2)] ∧ Z.Warmed39 U.vm ∧ U.heap = h0) (fun _ _ _ _ _ => True) (fun _ U o U' => ∃ v L, o = .returned v ∧ Q_mathmin Z p1 p2 h0 n0 v U'.heap L ∧ FrameEnd U o U' L ({ frames := 0, cells := 0, slots := 0, locals := 0 } : Room).cells ({ frames := 0, cells := 0, slots := 0, locals := 0 } : Room).slots) := by
  refine MetFree.of_bodySF (Jvm.Free.JP.mathPlain rfl (by decide)) hisR ?_
  intro p e s m args below meth c s₁ Bd hml0 hP hK
  obtain ⟨rfl, hZ, hh⟩ := hP
  have hx := Bd.exec
  have hby := Bd.bytes
  have hml : c.maxLocals = 2 := hml0
  have hown : s.vm.findClass "java/lang/Math" = some m.cls := findClass_of_methodNamed Bd.named
  have hnm := (name_of_methodNamed Bd.named Bd.method).1
  have X0 : Stand p l e ({ frames := 0, cells := 0, slots := 0, locals := 0 } : Room) s m #[(.int p1), (.int p2)] below meth c s₁ [] 0 0 := Stand.of_body Bd
  have e0 : s₁.heap = h0 := by rw [← hh, Bd.state]; rfl
  have N0 := Fr.nil n0
  have K0 : Keep h0 h0 [] := Keep.refl _ _
  suffices hG : Goes p e below (fun o U' => ∃ v L, o = .returned v ∧ Q_mathmin Z p1 p2 h0 n0 v U'.heap L ∧ FrameEnd s o U' L ({ frames := 0, cells := 0, slots := 0, locals := 0 } : Room).cells ({ frames := 0, cells := 0, slots := 0, locals := 0 } : Room).slots) s₁ (mkF m 0 #[.val (.int p1), .val (.int p2)] []) by
    obtain ⟨t, o, h1, h2⟩ := hG; exact ⟨t, o, castTop (ef_mathmin m p1 p2) h1, h2⟩
  refine Goes.step (T' := s₁) (g' := (mkF m 1 #[.val (.int p1), .val (.int p2)] [(.int p1)])) (fun _ kz => XS.iloadN X0.here hx rfl (hb hby d_jdk_29_method_69_0) rfl  kz) ?_
  refine Goes.step (T' := s₁) (g' := (mkF m 2 #[.val (.int p1), .val (.int p2)] [(.int p2), (.int p1)])) (fun _ kz => XS.iloadN X0.here hx rfl (hb hby d_jdk_29_method_69_1) rfl  kz) ?_
  by_cases hc2_2 : p2 < p1
  ·
    refine Goes.step (T' := s₁) (g' := (mkF m 9 #[.val (.int p1), .val (.int p2)] [])) (fun _ kz => XS.icmpYes X0.here hx rfl (pc0 := 2) (pc' := 9) rfl (hb hby d_jdk_29_method_69_2) rfl (tlt hc2_2).2.2.1 (by decide) (by decide) kz) ?_
    refine Goes.step (T' := s₁) (g' := (mkF m 10 #[.val (.int p1), .val (.int p2)] [(.int p2)])) (fun _ kz => XS.iloadN X0.here hx rfl (hb hby d_jdk_29_method_69_9) rfl  kz) ?_
    obtain ⟨fs, hr, hrun, hended, hW, hsame⟩ := X0.leave (v := some (.int p2)) (fun h => by rw [Bd.returns] at h; cases h)
    exact ⟨_, _, retOut X0 hx Bd.returns rfl (Or.inl ⟨rfl, Or.inl rfl, _, rfl⟩) (hb hby d_jdk_29_method_69_10) hr, hrun, hended, _, _, rfl, (by show Q_mathmin Z p1 p2 h0 n0 _ s₁.heap _; rw [e0]; exact ⟨(by simp [hc2_2]), rfl, rfl⟩), ⟨_, rfl⟩, hW, hsame.mono (by decide) (by decide)⟩
  ·
    refine Goes.step (T' := s₁) (g' := (mkF m 5 #[.val (.int p1), .val (.int p2)] [])) (fun _ kz => XS.icmpNo X0.here hx rfl (hb hby d_jdk_29_method_69_2) rfl (flt hc2_2).2.2.1 kz) ?_
    refine Goes.step (T' := s₁) (g' := (mkF m 6 #[.val (.int p1), .val (.int p2)] [(.int p1)])) (fun _ kz => XS.iloadN X0.here hx rfl (hb hby d_jdk_29_method_69_5) rfl  kz) ?_
    refine Goes.step (T' := s₁) (g' := (mkF m 10 #[.val (.int p1), .val (.int p2)] [(.int p1)])) (fun _ kz => XS.goto X0.here hx rfl (pc0 := 6) (pc' := 10) rfl (hb hby d_jdk_29_method_69_6) (by decide) (by decide) kz) ?_
    obtain ⟨fs, hr, hrun, hended, hW, hsame⟩ := X0.leave (v := some (.int p1)) (fun h => by rw [Bd.returns] at h; cases h)
    exact ⟨_, _, retOut X0 hx Bd.returns rfl (Or.inl ⟨rfl, Or.inl rfl, _, rfl⟩) (hb hby d_jdk_29_method_69_10) hr, hrun, hended, _, _, rfl, (by show Q_mathmin Z p1 p2 h0 n0 _ s₁.heap _; rw [e0]; exact ⟨(by simp [hc2_2]), rfl, rfl⟩), ⟨_, rfl⟩, hW, hsame.mono (by decide) (by decide)⟩
theorem d_jdk_42_method_154_0 : decode jdk_42_method_154_code 0 = .ok (.getstatic 38, 3) := by decide +kernel
theorem d_jdk_42_method_154_3 : decode jdk_42_method_154_code 3 = .ok (.ifCond .eq 14, 3) := by decide +kernel
theorem d_jdk_42_method_154_6 : decode jdk_42_method_154_code 6 = .ok (.aload_n 0, 1) := by decide +kernel
theorem d_jdk_42_method_154_7 : decode jdk_42_method_154_code 7 = .ok (.getfield 15, 3) := by decide +kernel
theorem d_jdk_42_method_154_10 : decode jdk_42_method_154_code 10 = .ok (.ifCond .ne 7, 3) := by decide +kernel
theorem d_jdk_42_method_154_13 : decode jdk_42_method_154_code 13 = .ok (.iconst 1, 1) := by decide +kernel
theorem d_jdk_42_method_154_14 : decode jdk_42_method_154_code 14 = .ok (.goto 4, 3) := by decide +kernel
theorem d_jdk_42_method_154_18 : decode jdk_42_method_154_code 18 = .ok (.ireturn, 1) := by decide +kernel
theorem pn_1 : plainName "java/lang/String" = true := by first | (simp [plainName, overriddenIn]; done) | decide +kernel
theorem ef_isLat (m : MethodId) (a1 : Addr) : entryFrame m #[(.ref a1)] 1 = mkF m 0 #[.val (.ref a1)] [] := by first | (simp [entryFrame, mkF, argsToLocals, Value.category, maxLocals]; done) | rfl
def Q_isLat (Z : State) (a1 : Addr) (h0 : Heap) (n0 : Nat) (v : Option Value) (h : Heap) (L : List Loc) : Prop := (v = some (.int (1 : Int32))) ∧ (L = []) ∧ (h = h0)
set_option maxRecDepth 65536 in
set_option maxHeartbeats 40000000 in
theorem rm_isLat (l : Launch) (Z : State) (a0 : Array Value) (hw : ∀ d ∈ tables_1, d.before a0 Z = true) (ws : List Jvm.Cond) (a1 : Addr) (h0 : Heap) (n0 : Nat) (O0 : Old Z n0 h0) (zcs : Int32) (Scs : Sta Z Z.heap "java/lang/String" "COMPACT_STRINGS" "Z" (.int zcs)) (hz_Scs : ¬ zcs = 0) (F_a1_coder : Fld Z h0 a1 "java/lang/String" "coder" "B" (.int (0 : Int32))) :
    MetFree l (⟨"java/lang/String", "isLatin1", "()Z"⟩ : MethodName) (head1 ((Jvm.Cond.code (⟨"java/lang/String", "isLatin1", "()Z"⟩ : MethodName) jdk_42_method_154_code 1 (some .boolean)) :: ws) ({ frames := 0, cells := 0, slots := 0, locals := 0 } : Room)) (fun a U => a = #[(.ref a1)] ∧ Z.Warmed39 U.vm ∧ U.heap = h0) (fun _ _ _ _ _ => True) (fun _ U o U' => ∃ v L, o = .returned v ∧ Q_isLat Z a1 h0 n0 v U'.heap L ∧ FrameEnd U o U' L ({ frames := 0, cells := 0, slots := 0, locals := 0 } : Room).cells ({ frames := 0, cells := 0, slots := 0, locals := 0 } : Room).slots) := by
  refine MetFree.of_bodySF (plainFor_of_name pn_1) hisR ?_
  intro p e s m args below meth c s₁ Bd hml0 hP hK
  obtain ⟨rfl, hZ, hh⟩ := hP
  have hx := Bd.exec
  have hby := Bd.bytes
  have hml : c.maxLocals = 1 := hml0
  have hown : s.vm.findClass "java/lang/String" = some m.cls := findClass_of_methodNamed Bd.named
  have hnm := (name_of_methodNamed Bd.named Bd.method).1
  have X0 : Stand p l e ({ frames := 0, cells := 0, slots := 0, locals := 0 } : Room) s m #[(.ref a1)] below meth c s₁ [] 0 0 := Stand.of_body Bd
  have e0 : s₁.heap = h0 := by rw [← hh, Bd.state]; rfl
  have N0 := Fr.nil n0
  have K0 : Keep h0 h0 [] := Keep.refl _ _
  suffices hG : Goes p e below (fun o U' => ∃ v L, o = .returned v ∧ Q_isLat Z a1 h0 n0 v U'.heap L ∧ FrameEnd s o U' L ({ frames := 0, cells := 0, slots := 0, locals := 0 } : Room).cells ({ frames := 0, cells := 0, slots := 0, locals := 0 } : Room).slots) s₁ (mkF m 0 #[.val (.ref a1)] []) by
    obtain ⟨t, o, h1, h2⟩ := hG; exact ⟨t, o, castTop (ef_isLat m a1) h1, h2⟩
  obtain ⟨T3, X3, e3, st3⟩ := getS2 X0 hx hZ hown (host := "") (Or.inl (hw _ (List.mem_of_getElem? (i := 8) rfl))) Via.refl e0 (Scs.ext O0.2) (g := (mkF m 0 #[.val (.ref a1)] [])) rfl (hb hby d_jdk_42_method_154_0)
  refine Goes.step (T' := T3) (g' := (mkF m 3 #[.val (.ref a1)] [(.int zcs)])) st3 ?_
  refine Goes.step (T' := T3) (g' := (mkF m 6 #[.val (.ref a1)] [])) (fun _ kz => XS.ifNo X3.here hx rfl (hb hby d_jdk_42_method_154_3) rfl ((if0 _ _).trans (feq hz_Scs).1) kz) ?_
  refine Goes.step (T' := T3) (g' := (mkF m 7 #[.val (.ref a1)] [(.ref a1)])) (fun _ kz => XS.aloadN X3.here hx rfl (hb hby d_jdk_42_method_154_6) rfl rfl kz) ?_
  obtain ⟨T4, X4, e4, st4⟩ := getF X3 hx hZ hown (host := "") (Or.inl (hw _ (List.mem_of_getElem? (i := 28) rfl))) Via.refl e3 F_a1_coder (g := (mkF m 7 #[.val (.ref a1)] [(.ref a1)])) rfl rfl (hb hby d_jdk_42_method_154_7)
  refine Goes.step (T' := T4) (g' := (mkF m 10 #[.val (.ref a1)] [(.int (0 : Int32))])) st4 ?_
  refine Goes.step (T' := T4) (g' := (mkF m 13 #[.val (.ref a1)] [])) (fun _ kz => XS.ifNo X4.here hx rfl (hb hby d_jdk_42_method_154_10) rfl ((if0 _ _).trans (teq (by decide : ((0 : Int32) = (0 : Int32)))).2) kz) ?_
  refine Goes.step (T' := T4) (g' := (mkF m 14 #[.val (.ref a1)] [(.int (1 : Int32))])) (fun _ kz => XS.iconst X4.here hx rfl (hb hby d_jdk_42_method_154_13) kz) ?_
  refine Goes.step (T' := T4) (g' := (mkF m 18 #[.val (.ref a1)] [(.int (1 : Int32))])) (fun _ kz => XS.goto X4.here hx rfl (pc0 := 14) (pc' := 18) rfl (hb hby d_jdk_42_method_154_14) (by decide) (by decide) kz) ?_
  obtain ⟨fs, hr, hrun, hended, hW, hsame⟩ := X4.leave (v := some (.int (nar .boolean (1 : Int32)))) (fun h => by rw [Bd.returns] at h; cases h)
  exact ⟨_, _, retN X4 hx (t := .boolean) Bd.returns (by simp) (hb hby d_jdk_42_method_154_18) hr, hrun, hended, _, _, rfl, (by show Q_isLat Z a1 h0 n0 _ T4.heap _; rw [e4]; exact ⟨rfl, rfl, rfl⟩), ⟨_, rfl⟩, hW, hsame.mono (by decide) (by decide)⟩
theorem d_jdk_43_method_23_0 : decode jdk_43_method_23_code 0 = .ok (.iload_n 1, 1) := by decide +kernel
theorem d_jdk_43_method_23_1 : decode jdk_43_method_23_code 1 = .ok (.i2b, 1) := by decide +kernel
theorem d_jdk_43_method_23_2 : decode jdk_43_method_23_code 2 = .ok (.istore 4, 2) := by decide +kernel
theorem d_jdk_43_method_23_4 : decode jdk_43_method_23_code 4 = .ok (.iload_n 2, 1) := by decide +kernel
theorem d_jdk_43_method_23_5 : decode jdk_43_method_23_code 5 = .ok (.istore 5, 2) := by decide +kernel
theorem d_jdk_43_method_23_7 : decode jdk_43_method_23_code 7 = .ok (.iload 5, 2) := by decide +kernel
theorem d_jdk_43_method_23_9 : decode jdk_43_method_23_code 9 = .ok (.iload_n 3, 1) := by decide +kernel
theorem d_jdk_43_method_23_10 : decode jdk_43_method_23_code 10 = .ok (.if_icmp .ge 21, 3) := by decide +kernel
theorem d_jdk_43_method_23_31 : decode jdk_43_method_23_code 31 = .ok (.iconst (-1), 1) := by decide +kernel
theorem d_jdk_43_method_23_32 : decode jdk_43_method_23_code 32 = .ok (.ireturn, 1) := by decide +kernel
theorem d_jdk_43_method_23_13 : decode jdk_43_method_23_code 13 = .ok (.aload_n 0, 1) := by decide +kernel
theorem d_jdk_43_method_23_14 : decode jdk_43_method_23_code 14 = .ok (.iload 5, 2) := by decide +kernel
theorem d_jdk_43_method_23_16 : decode jdk_43_method_23_code 16 = .ok (.baload, 1) := by decide +kernel
theorem d_jdk_43_method_23_17 : decode jdk_43_method_23_code 17 = .ok (.iload 4, 2) := by decide +kernel
theorem d_jdk_43_method_23_19 : decode jdk_43_method_23_code 19 = .ok (.if_icmp .ne 6, 3) := by decide +kernel
theorem d_jdk_43_method_23_22 : decode jdk_43_method_23_code 22 = .ok (.iload 5, 2) := by decide +kernel
theorem d_jdk_43_method_23_24 : decode jdk_43_method_23_code 24 = .ok (.ireturn, 1) := by decide +kernel
theorem d_jdk_43_method_23_25 : decode jdk_43_method_23_code 25 = .ok (.iinc 5 1, 3) := by decide +kernel
theorem d_jdk_43_method_23_28 : decode jdk_43_method_23_code 28 = .ok (.goto (-21), 3) := by decide +kernel
theorem ef_ixChar (m : MethodId) (a1 : Addr) (q3 : Int32) : entryFrame m #[(.ref a1), (.int (46 : Int32)), (.int (0 : Int32)), (.int q3)] 6 = mkF m 0 #[.val (.ref a1), .val (.int (46 : Int32)), .val (.int (0 : Int32)), .val (.int q3), .unset, .unset] [] := by first | (simp [entryFrame, mkF, argsToLocals, Value.category, maxLocals]; done) | rfl
def Q_ixChar (Z : State) (a1 : Addr) (kb : ClassId) (cs : List Int32) (h0 : Heap) (n0 : Nat) (v : Option Value) (h : Heap) (L : List Loc) : Prop := (v = some (.int (if IX cs = cs.length then -1 else Int32.ofNat (IX cs)))) ∧ (L = []) ∧ (h = h0)
set_option maxRecDepth 65536 in
set_option maxHeartbeats 40000000 in
theorem rm_ixChar (l : Launch) (Z : State) (a0 : Array Value) (hw : ∀ d ∈ tables_1, d.before a0 Z = true) (ws : List Jvm.Cond) (a1 : Addr) (kb : ClassId) (cs : List Int32) (h0 : Heap) (n0 : Nat) (O0 : Old Z n0 h0)  (V_a1 : Arv Z h0 a1 kb .byte (Int32.ofNat cs.length) (cs.map fun c => Value.int (c.toInt8.toInt32)) (.int 0)) (hl : cs.length ≤ 4000) (hbd : ∀ c ∈ cs, ¬ c < 0 ∧ ¬ (255 : Int32) < c) :
    MetFree l (⟨"java/lang/StringLatin1", "indexOfChar", "([BIII)I"⟩ : MethodName) (head1 ((Jvm.Cond.code (⟨"java/lang/StringLatin1", "indexOfChar", "([BIII)I"⟩ : MethodName) jdk_43_method_23_code 6 (some .int)) :: ws) ({ frames := 0, cells := 0, slots := 0, locals := 0 } : Room)) (fun a U => a = #[(.ref a1), (.int (46 : Int32)), (.int (0 : Int32)), (.int (Int32.ofNat cs.length))] ∧ Z.Warmed39 U.vm ∧ U.heap = h0) (fun _ _ _ _ _ => True) (fun _ U o U' => ∃ v L, o = .returned v ∧ Q_ixChar Z a1 kb cs h0 n0 v U'.heap L ∧ FrameEnd U o U' L ({ frames := 0, cells := 0, slots := 0, locals := 0 } : Room).cells ({ frames := 0, cells := 0, slots := 0, locals := 0 } : Room).slots) := by
  refine MetFree.of_bodySF (plainFor_of_name pn_0) hisR ?_
  intro p e s m args below meth c s₁ Bd hml0 hP hK
  obtain ⟨rfl, hZ, hh⟩ := hP
  have hx := Bd.exec
  have hby := Bd.bytes
  have hml : c.maxLocals = 6 := hml0
  have hown : s.vm.findClass "java/lang/StringLatin1" = some m.cls := findClass_of_methodNamed Bd.named
  have hnm := (name_of_methodNamed Bd.named Bd.method).1
  have X0 : Stand p l e ({ frames := 0, cells := 0, slots := 0, locals := 0 } : Room) s m #[(.ref a1), (.int (46 : Int32)), (.int (0 : Int32)), (.int (Int32.ofNat cs.length))] below meth c s₁ [] 0 0 := Stand.of_body Bd
  have e0 : s₁.heap = h0 := by rw [← hh, Bd.state]; rfl
  have N0 := Fr.nil n0
  have K0 : Keep h0 h0 [] := Keep.refl _ _
  suffices hG : Goes p e below (fun o U' => ∃ v L, o = .returned v ∧ Q_ixChar Z a1 kb cs h0 n0 v U'.heap L ∧ FrameEnd s o U' L ({ frames := 0, cells := 0, slots := 0, locals := 0 } : Room).cells ({ frames := 0, cells := 0, slots := 0, locals := 0 } : Room).slots) s₁ (mkF m 0 #[.val (.ref a1), .val (.int (46 : Int32)), .val (.int (0 : Int32)), .val (.int (Int32.ofNat cs.length)), .unset, .unset] []) by
    obtain ⟨t, o, h1, h2⟩ := hG; exact ⟨t, o, castTop (ef_ixChar m a1 (Int32.ofNat cs.length)) h1, h2⟩
  refine Goes.step (T' := s₁) (g' := (mkF m 1 #[.val (.ref a1), .val (.int (46 : Int32)), .val (.int (0 : Int32)), .val (.int (Int32.ofNat cs.length)), .unset, .unset] [(.int (46 : Int32))])) (fun _ kz => XS.iloadN X0.here hx rfl (hb hby d_jdk_43_method_23_0) rfl  kz) ?_
  refine Goes.step (T' := s₁) (g' := (mkF m 2 #[.val (.ref a1), .val (.int (46 : Int32)), .val (.int (0 : Int32)), .val (.int (Int32.ofNat cs.length)), .unset, .unset] [(.int ((46 : Int32).toInt8.toInt32))])) (fun _ kz => XS.i2b X0.here hx rfl (hb hby d_jdk_43_method_23_1) rfl kz) ?_
  refine Goes.step (T' := s₁) (g' := (mkF m 4 #[.val (.ref a1), .val (.int (46 : Int32)), .val (.int (0 : Int32)), .val (.int (Int32.ofNat cs.length)), .val (.int ((46 : Int32).toInt8.toInt32)), .unset] [])) (fun _ kz => XS.istore X0.here hx rfl (hb hby d_jdk_43_method_23_2) rfl (l' := #[.val (.ref a1), .val (.int (46 : Int32)), .val (.int (0 : Int32)), .val (.int (Int32.ofNat cs.length)), .val (.int ((46 : Int32).toInt8.toInt32)), .unset]) rfl kz) ?_
  refine Goes.step (T' := s₁) (g' := (mkF m 5 #[.val (.ref a1), .val (.int (46 : Int32)), .val (.int (0 : Int32)), .val (.int (Int32.ofNat cs.length)), .val (.int ((46 : Int32).toInt8.toInt32)), .unset] [(.int (0 : Int32))])) (fun _ kz => XS.iloadN X0.here hx rfl (hb hby d_jdk_43_method_23_4) rfl  kz) ?_
  refine Goes.step (T' := s₁) (g' := (mkF m 7 #[.val (.ref a1), .val (.int (46 : Int32)), .val (.int (0 : Int32)), .val (.int (Int32.ofNat cs.length)), .val (.int ((46 : Int32).toInt8.toInt32)), .val (.int (0 : Int32))] [])) (fun _ kz => XS.istore X0.here hx rfl (hb hby d_jdk_43_method_23_5) rfl (l' := #[.val (.ref a1), .val (.int (46 : Int32)), .val (.int (0 : Int32)), .val (.int (Int32.ofNat cs.length)), .val (.int ((46 : Int32).toInt8.toInt32)), .val (.int (0 : Int32))]) rfl kz) ?_
  have loop : ∀ (k i : Nat), i + k = cs.length → IX cs = i + IX (cs.drop i) → Goes p e below (fun o U' => ∃ v L, o = .returned v ∧ Q_ixChar Z a1 kb cs h0 n0 v U'.heap L ∧ FrameEnd s o U' L ({ frames := 0, cells := 0, slots := 0, locals := 0 } : Room).cells ({ frames := 0, cells := 0, slots := 0, locals := 0 } : Room).slots) s₁ (mkF m 7 #[.val (.ref a1), .val (.int (46 : Int32)), .val (.int (0 : Int32)), .val (.int (Int32.ofNat cs.length)), .val (.int ((46 : Int32).toInt8.toInt32)), .val (.int (Int32.ofNat i))] []) := by
    intro k; induction k with
    | zero =>
      intro i hik hix
      have hi : cs.length = i := by omega
      refine Goes.step (T' := s₁) (g' := (mkF m 9 #[.val (.ref a1), .val (.int (46 : Int32)), .val (.int (0 : Int32)), .val (.int (Int32.ofNat cs.length)), .val (.int ((46 : Int32).toInt8.toInt32)), .val (.int (Int32.ofNat i))] [(.int (Int32.ofNat i))])) (fun _ kz => XS.iload X0.here hx rfl (hb hby d_jdk_43_method_23_7) rfl  kz) ?_
      refine Goes.step (T' := s₁) (g' := (mkF m 10 #[.val (.ref a1), .val (.int (46 : Int32)), .val (.int (0 : Int32)), .val (.int (Int32.ofNat cs.length)), .val (.int ((46 : Int32).toInt8.toInt32)), .val (.int (Int32.ofNat i))] [(.int (Int32.ofNat cs.length)), (.int (Int32.ofNat i))])) (fun _ kz => XS.iloadN X0.here hx rfl (hb hby d_jdk_43_method_23_9) rfl  kz) ?_
      refine Goes.step (T' := s₁) (g' := (mkF m 31 #[.val (.ref a1), .val (.int (46 : Int32)), .val (.int (0 : Int32)), .val (.int (Int32.ofNat cs.length)), .val (.int ((46 : Int32).toInt8.toInt32)), .val (.int (Int32.ofNat i))] [])) (fun _ kz => XS.icmpYes X0.here hx rfl (pc0 := 10) (pc' := 31) rfl (hb hby d_jdk_43_method_23_10) rfl (flt (fun q => absurd ((own_lt (by omega) hl).mp q) (by omega) : ¬ Int32.ofNat i < Int32.ofNat cs.length)).2.1 (by decide) (by decide) kz) ?_
      refine Goes.step (T' := s₁) (g' := (mkF m 32 #[.val (.ref a1), .val (.int (46 : Int32)), .val (.int (0 : Int32)), .val (.int (Int32.ofNat cs.length)), .val (.int ((46 : Int32).toInt8.toInt32)), .val (.int (Int32.ofNat i))] [(.int (-1 : Int32))])) (fun _ kz => XS.iconst X0.here hx rfl (hb hby d_jdk_43_method_23_31) kz) ?_
      obtain ⟨fs, hr, hrun, hended, hW, hsame⟩ := X0.leave (v := some (.int (-1 : Int32))) (fun h => by rw [Bd.returns] at h; cases h)
      exact ⟨_, _, retOut X0 hx Bd.returns rfl (Or.inl ⟨rfl, Or.inl rfl, _, rfl⟩) (hb hby d_jdk_43_method_23_32) hr, hrun, hended, _, _, rfl, (by show Q_ixChar Z a1 kb cs h0 n0 _ s₁.heap _; rw [e0]; exact ⟨(by rw [if_pos (show IX cs = cs.length by rw [hix, ← hi]; simp [IX])]), rfl, rfl⟩), ⟨_, rfl⟩, hW, hsame.mono (by decide) (by decide)⟩
    | succ k ih =>
      intro i hik hix
      have hi : i < cs.length := by omega
      have hm := hbd _ (own_mem hi)
      have hd := IX_drop hi
      refine Goes.step (T' := s₁) (g' := (mkF m 9 #[.val (.ref a1), .val (.int (46 : Int32)), .val (.int (0 : Int32)), .val (.int (Int32.ofNat cs.length)), .val (.int ((46 : Int32).toInt8.toInt32)), .val (.int (Int32.ofNat i))] [(.int (Int32.ofNat i))])) (fun _ kz => XS.iload X0.here hx rfl (hb hby d_jdk_43_method_23_7) rfl  kz) ?_
      refine Goes.step (T' := s₁) (g' := (mkF m 10 #[.val (.ref a1), .val (.int (46 : Int32)), .val (.int (0 : Int32)), .val (.int (Int32.ofNat cs.length)), .val (.int ((46 : Int32).toInt8.toInt32)), .val (.int (Int32.ofNat i))] [(.int (Int32.ofNat cs.length)), (.int (Int32.ofNat i))])) (fun _ kz => XS.iloadN X0.here hx rfl (hb hby d_jdk_43_method_23_9) rfl  kz) ?_
      refine Goes.step (T' := s₁) (g' := (mkF m 13 #[.val (.ref a1), .val (.int (46 : Int32)), .val (.int (0 : Int32)), .val (.int (Int32.ofNat cs.length)), .val (.int ((46 : Int32).toInt8.toInt32)), .val (.int (Int32.ofNat i))] [])) (fun _ kz => XS.icmpNo X0.here hx rfl (hb hby d_jdk_43_method_23_10) rfl (tlt ((own_lt (by omega) hl).mpr hi)).2.1 kz) ?_
      refine Goes.step (T' := s₁) (g' := (mkF m 14 #[.val (.ref a1), .val (.int (46 : Int32)), .val (.int (0 : Int32)), .val (.int (Int32.ofNat cs.length)), .val (.int ((46 : Int32).toInt8.toInt32)), .val (.int (Int32.ofNat i))] [(.ref a1)])) (fun _ kz => XS.aloadN X0.here hx rfl (hb hby d_jdk_43_method_23_13) rfl rfl kz) ?_
      refine Goes.step (T' := s₁) (g' := (mkF m 16 #[.val (.ref a1), .val (.int (46 : Int32)), .val (.int (0 : Int32)), .val (.int (Int32.ofNat cs.length)), .val (.int ((46 : Int32).toInt8.toInt32)), .val (.int (Int32.ofNat i))] [(.int (Int32.ofNat i)), (.ref a1)])) (fun _ kz => XS.iload X0.here hx rfl (hb hby d_jdk_43_method_23_14) rfl  kz) ?_
      obtain ⟨cl5, Ar5, q5, Sz5, Nn5, Hs5, Gs5⟩ := (id V_a1 : Arv Z h0 a1 kb .byte (Int32.ofNat cs.length) (cs.map fun c => Value.int (c.toInt8.toInt32)) (.int 0))
      refine Goes.step (T' := s₁) (g' := (mkF m 17 #[.val (.ref a1), .val (.int (46 : Int32)), .val (.int (0 : Int32)), .val (.int (Int32.ofNat cs.length)), .val (.int ((46 : Int32).toInt8.toInt32)), .val (.int (Int32.ofNat i))] [(.int ((cs.getD i 0).toInt8.toInt32))])) (X0.baloadBytes hx (j := (Int32.ofNat i)) (v := (.int ((cs.getD i 0).toInt8.toInt32))) (by rw [e0]; exact Ar5.1) (State.isArrayOf_alike hZ.alike Ar5.2.1) Ar5.2.2 (inb_of Sz5 ⟨own_nn (by omega), (own_lt (by omega) hl).mpr hi⟩) (Has.at Hs5 (inb_of Sz5 ⟨own_nn (by omega), (own_lt (by omega) hl).mpr hi⟩) (by rw [own_clamp (by omega)]; exact own_at hi)) (g := (mkF m 16 #[.val (.ref a1), .val (.int (46 : Int32)), .val (.int (0 : Int32)), .val (.int (Int32.ofNat cs.length)), .val (.int ((46 : Int32).toInt8.toInt32)), .val (.int (Int32.ofNat i))] [(.int (Int32.ofNat i)), (.ref a1)])) rfl rfl (hb hby d_jdk_43_method_23_16)) ?_
      refine Goes.step (T' := s₁) (g' := (mkF m 19 #[.val (.ref a1), .val (.int (46 : Int32)), .val (.int (0 : Int32)), .val (.int (Int32.ofNat cs.length)), .val (.int ((46 : Int32).toInt8.toInt32)), .val (.int (Int32.ofNat i))] [(.int ((46 : Int32).toInt8.toInt32)), (.int ((cs.getD i 0).toInt8.toInt32))])) (fun _ kz => XS.iload X0.here hx rfl (hb hby d_jdk_43_method_23_17) rfl  kz) ?_
      by_cases hc19_6 : ((cs.getD i 0).toInt8.toInt32) = ((46 : Int32).toInt8.toInt32)
      ·
        refine Goes.step (T' := s₁) (g' := (mkF m 22 #[.val (.ref a1), .val (.int (46 : Int32)), .val (.int (0 : Int32)), .val (.int (Int32.ofNat cs.length)), .val (.int ((46 : Int32).toInt8.toInt32)), .val (.int (Int32.ofNat i))] [])) (fun _ kz => XS.icmpNo X0.here hx rfl (hb hby d_jdk_43_method_23_19) rfl (teq hc19_6).2 kz) ?_
        refine Goes.step (T' := s₁) (g' := (mkF m 24 #[.val (.ref a1), .val (.int (46 : Int32)), .val (.int (0 : Int32)), .val (.int (Int32.ofNat cs.length)), .val (.int ((46 : Int32).toInt8.toInt32)), .val (.int (Int32.ofNat i))] [(.int (Int32.ofNat i))])) (fun _ kz => XS.iload X0.here hx rfl (hb hby d_jdk_43_method_23_22) rfl  kz) ?_
        obtain ⟨fs, hr, hrun, hended, hW, hsame⟩ := X0.leave (v := some (.int (Int32.ofNat i))) (fun h => by rw [Bd.returns] at h; cases h)
        exact ⟨_, _, retOut X0 hx Bd.returns rfl (Or.inl ⟨rfl, Or.inl rfl, _, rfl⟩) (hb hby d_jdk_43_method_23_24) hr, hrun, hended, _, _, rfl, (by show Q_ixChar Z a1 kb cs h0 n0 _ s₁.heap _; rw [e0]; exact ⟨(by have h1 : IX cs = i := (by rw [hix, hd, if_pos ((own_by46 hm).mp hc19_6)]; rfl); rw [if_neg (by omega), h1]), rfl, rfl⟩), ⟨_, rfl⟩, hW, hsame.mono (by decide) (by decide)⟩
      ·
        refine Goes.step (T' := s₁) (g' := (mkF m 25 #[.val (.ref a1), .val (.int (46 : Int32)), .val (.int (0 : Int32)), .val (.int (Int32.ofNat cs.length)), .val (.int ((46 : Int32).toInt8.toInt32)), .val (.int (Int32.ofNat i))] [])) (fun _ kz => XS.icmpYes X0.here hx rfl (pc0 := 19) (pc' := 25) rfl (hb hby d_jdk_43_method_23_19) rfl (feq hc19_6).2 (by decide) (by decide) kz) ?_
        refine Goes.step (T' := s₁) (g' := (mkF m 28 #[.val (.ref a1), .val (.int (46 : Int32)), .val (.int (0 : Int32)), .val (.int (Int32.ofNat cs.length)), .val (.int ((46 : Int32).toInt8.toInt32)), .val (.int ((Int32.ofNat i) + (1 : Int32)))] [])) (fun _ kz => XS.iinc X0.here hx rfl (hb hby d_jdk_43_method_23_25) rfl (l' := #[.val (.ref a1), .val (.int (46 : Int32)), .val (.int (0 : Int32)), .val (.int (Int32.ofNat cs.length)), .val (.int ((46 : Int32).toInt8.toInt32)), .val (.int ((Int32.ofNat i) + (1 : Int32)))]) rfl kz) ?_
        refine Goes.step (T' := s₁) (g' := (mkF m 7 #[.val (.ref a1), .val (.int (46 : Int32)), .val (.int (0 : Int32)), .val (.int (Int32.ofNat cs.length)), .val (.int ((46 : Int32).toInt8.toInt32)), .val (.int ((Int32.ofNat i) + (1 : Int32)))] [])) (fun _ kz => XS.goto X0.here hx rfl (pc0 := 28) (pc' := 7) rfl (hb hby d_jdk_43_method_23_28) (by decide) (by decide) kz) ?_
        rw [if_neg (fun q => hc19_6 ((own_by46 hm).mpr q))] at hd
        have hii : Int32.ofNat i + (1 : Int32) = Int32.ofNat (i + 1) := (inc_ofNat i).symm
        rw [hii]
        exact ih (i + 1) (by omega) (by omega)
  exact loop cs.length 0 (by omega) (by simp)
theorem d_jdk_43_method_22_0 : decode jdk_43_method_22_code 0 = .ok (.iload_n 1, 1) := by decide +kernel
theorem d_jdk_43_method_22_1 : decode jdk_43_method_22_code 1 = .ok (.invokestatic 88, 3) := by decide +kernel
theorem pd_0 : parseMethodDescriptor "(I)Z" = some ⟨[.int], some .boolean⟩ := by decide +kernel
theorem d_jdk_43_method_22_4 : decode jdk_43_method_22_code 4 = .ok (.ifCond .ne 5, 3) := by decide +kernel
theorem d_jdk_43_method_22_9 : decode jdk_43_method_22_code 9 = .ok (.iload_n 2, 1) := by decide +kernel
theorem d_jdk_43_method_22_10 : decode jdk_43_method_22_code 10 = .ok (.iconst 0, 1) := by decide +kernel
theorem d_jdk_43_method_22_11 : decode jdk_43_method_22_code 11 = .ok (.invokestatic 92, 3) := by decide +kernel
theorem pd_1 : parseMethodDescriptor "(II)I" = some ⟨[.int, .int], some .int⟩ := by decide +kernel
theorem d_jdk_43_method_22_14 : decode jdk_43_method_22_code 14 = .ok (.istore_n 2, 1) := by decide +kernel
theorem d_jdk_43_method_22_15 : decode jdk_43_method_22_code 15 = .ok (.iload_n 3, 1) := by decide +kernel
theorem d_jdk_43_method_22_16 : decode jdk_43_method_22_code 16 = .ok (.aload_n 0, 1) := by decide +kernel
theorem d_jdk_43_method_22_17 : decode jdk_43_method_22_code 17 = .ok (.arraylength, 1) := by decide +kernel
theorem d_jdk_43_method_22_18 : decode jdk_43_method_22_code 18 = .ok (.invokestatic 38, 3) := by decide +kernel
theorem d_jdk_43_method_22_21 : decode jdk_43_method_22_code 21 = .ok (.istore_n 3, 1) := by decide +kernel
theorem d_jdk_43_method_22_22 : decode jdk_43_method_22_code 22 = .ok (.iload_n 2, 1) := by decide +kernel
theorem d_jdk_43_method_22_23 : decode jdk_43_method_22_code 23 = .ok (.iload_n 3, 1) := by decide +kernel
theorem d_jdk_43_method_22_24 : decode jdk_43_method_22_code 24 = .ok (.if_icmp .lt 5, 3) := by decide +kernel
theorem d_jdk_43_method_22_29 : decode jdk_43_method_22_code 29 = .ok (.aload_n 0, 1) := by decide +kernel
theorem d_jdk_43_method_22_30 : decode jdk_43_method_22_code 30 = .ok (.iload_n 1, 1) := by decide +kernel
theorem d_jdk_43_method_22_31 : decode jdk_43_method_22_code 31 = .ok (.iload_n 2, 1) := by decide +kernel
theorem d_jdk_43_method_22_32 : decode jdk_43_method_22_code 32 = .ok (.iload_n 3, 1) := by decide +kernel
theorem d_jdk_43_method_22_33 : decode jdk_43_method_22_code 33 = .ok (.invokestatic 95, 3) := by decide +kernel
theorem pd_2 : parseMethodDescriptor "([BIII)I" = some ⟨[(.array .byte), .int, .int, .int], some .int⟩ := by decide +kernel
theorem d_jdk_43_method_22_36 : decode jdk_43_method_22_code 36 = .ok (.ireturn, 1) := by decide +kernel
theorem d_jdk_43_method_22_27 : decode jdk_43_method_22_code 27 = .ok (.iconst (-1), 1) := by decide +kernel
theorem d_jdk_43_method_22_28 : decode jdk_43_method_22_code 28 = .ok (.ireturn, 1) := by decide +kernel
theorem ef_ixLat (m : MethodId) (a1 : Addr) (q3 : Int32) : entryFrame m #[(.ref a1), (.int (46 : Int32)), (.int (0 : Int32)), (.int q3)] 4 = mkF m 0 #[.val (.ref a1), .val (.int (46 : Int32)), .val (.int (0 : Int32)), .val (.int q3)] [] := by first | (simp [entryFrame, mkF, argsToLocals, Value.category, maxLocals]; done) | rfl
def Q_ixLat (Z : State) (a1 : Addr) (kb : ClassId) (cs : List Int32) (h0 : Heap) (n0 : Nat) (v : Option Value) (h : Heap) (L : List Loc) : Prop := (v = some (.int (if IX cs = cs.length then -1 else Int32.ofNat (IX cs)))) ∧ (L = []) ∧ (h = h0)
set_option maxRecDepth 65536 in
set_option maxHeartbeats 40000000 in
theorem rm_ixLat (l : Launch) (Z : State) (a0 : Array Value) (hw : ∀ d ∈ tables_1, d.before a0 Z = true) (ws : List Jvm.Cond) (a1 : Addr) (kb : ClassId) (cs : List Int32) (h0 : Heap) (n0 : Nat) (O0 : Old Z n0 h0)  (V_a1 : Arv Z h0 a1 kb .byte (Int32.ofNat cs.length) (cs.map fun c => Value.int (c.toInt8.toInt32)) (.int 0)) (hl : cs.length ≤ 4000) (hbd : ∀ c ∈ cs, ¬ c < 0 ∧ ¬ (255 : Int32) < c) :
    MetFree l (⟨"java/lang/StringLatin1", "indexOf", "([BIII)I"⟩ : MethodName) (head1 ((Jvm.Cond.code (⟨"java/lang/StringLatin1", "indexOf", "([BIII)I"⟩ : MethodName) jdk_43_method_22_code 4 (some .int)) :: ws) ({ frames := 1, cells := 0, slots := 0, locals := 17 } : Room)) (fun a U => a = #[(.ref a1), (.int (46 : Int32)), (.int (0 : Int32)), (.int (Int32.ofNat cs.length))] ∧ Z.Warmed39 U.vm ∧ U.heap = h0) (fun _ _ _ _ _ => True) (fun _ U o U' => ∃ v L, o = .returned v ∧ Q_ixLat Z a1 kb cs h0 n0 v U'.heap L ∧ FrameEnd U o U' L ({ frames := 1, cells := 0, slots := 0, locals := 17 } : Room).cells ({ frames := 1, cells := 0, slots := 0, locals := 17 } : Room).slots) := by
  refine MetFree.of_bodySF (plainFor_of_name pn_0) hisR ?_
  intro p e s m args below meth c s₁ Bd hml0 hP hK
  obtain ⟨rfl, hZ, hh⟩ := hP
  have hx := Bd.exec
  have hby := Bd.bytes
  have hml : c.maxLocals = 4 := hml0
  have hown : s.vm.findClass "java/lang/StringLatin1" = some m.cls := findClass_of_methodNamed Bd.named
  have hnm := (name_of_methodNamed Bd.named Bd.method).1
  have X0 : Stand p l e ({ frames := 1, cells := 0, slots := 0, locals := 17 } : Room) s m #[(.ref a1), (.int (46 : Int32)), (.int (0 : Int32)), (.int (Int32.ofNat cs.length))] below meth c s₁ [] 0 0 := Stand.of_body Bd
  have e0 : s₁.heap = h0 := by rw [← hh, Bd.state]; rfl
  have N0 := Fr.nil n0
  have K0 : Keep h0 h0 [] := Keep.refl _ _
  suffices hG : Goes p e below (fun o U' => ∃ v L, o = .returned v ∧ Q_ixLat Z a1 kb cs h0 n0 v U'.heap L ∧ FrameEnd s o U' L ({ frames := 1, cells := 0, slots := 0, locals := 17 } : Room).cells ({ frames := 1, cells := 0, slots := 0, locals := 17 } : Room).slots) s₁ (mkF m 0 #[.val (.ref a1), .val (.int (46 : Int32)), .val (.int (0 : Int32)), .val (.int (Int32.ofNat cs.length))] []) by
    obtain ⟨t, o, h1, h2⟩ := hG; exact ⟨t, o, castTop (ef_ixLat m a1 (Int32.ofNat cs.length)) h1, h2⟩
  refine Goes.step (T' := s₁) (g' := (mkF m 1 #[.val (.ref a1), .val (.int (46 : Int32)), .val (.int (0 : Int32)), .val (.int (Int32.ofNat cs.length))] [(.int (46 : Int32))])) (fun _ kz => XS.iloadN X0.here hx rfl (hb hby d_jdk_43_method_22_0) rfl  kz) ?_
  obtain ⟨_, _, ⟨T7, L7, k7, n7⟩, -, X7, ⟨Lc7, hQ7, l7, y7, z7⟩, st7⟩ := Jvm.LawKit.callS X0 hx (y := (⟨"java/lang/StringLatin1", "canEncode", "(I)Z"⟩ : MethodName)) hown (mvT hZ (hw _ (List.mem_of_getElem? (i := 65) rfl))) (mvT hZ (hw _ (List.mem_of_getElem? (i := 66) rfl))) (mvT hZ (hw _ (List.mem_of_getElem? (i := 11) rfl))) (mvT hZ (hw _ (List.mem_of_getElem? (i := 67) rfl))) (by decide) (backOf (W := 0) (rm_canEncI l Z a0 hw []  h0 n0 O0  ) hZ (hw _ (List.mem_of_getElem? (i := 67) rfl)) (hw _ (List.mem_of_getElem? (i := 11) rfl)) (by decide) (by decide)) (g := (mkF m 1 #[.val (.ref a1), .val (.int (46 : Int32)), .val (.int (0 : Int32)), .val (.int (Int32.ofNat cs.length))] [(.int (46 : Int32))])) rfl (by rw [hml]; rfl) (argsL := [(.int (46 : Int32))]) (rest := []) (lenOf pd_0 rfl) rfl (by show 2 * 0 + _ ≤ _; exact Nat.le_of_eq rfl) (hb hby d_jdk_43_method_22_1) (fun _ _ => ⟨rfl, e0, (by decide : 0 + 0 ≤ _), (by decide : 0 + 0 ≤ _)⟩)
  dsimp only [Pt.U, Pt.locs, Pt.cells, Pt.slots] at X7 l7 y7 z7 st7 hQ7
  subst l7 y7 z7
  obtain ⟨rfl, rfl, e7⟩ := hQ7
  replace N0 := Fr.app N0 (Fr.nil n0)
  refine Goes.step (T' := T7) (g' := (mkF m 4 #[.val (.ref a1), .val (.int (46 : Int32)), .val (.int (0 : Int32)), .val (.int (Int32.ofNat cs.length))] [(.int (1 : Int32))])) st7 ?_
  refine Goes.step (T' := T7) (g' := (mkF m 9 #[.val (.ref a1), .val (.int (46 : Int32)), .val (.int (0 : Int32)), .val (.int (Int32.ofNat cs.length))] [])) (fun _ kz => XS.ifYes X7.here hx rfl (pc0 := 4) (pc' := 9) rfl (hb hby d_jdk_43_method_22_4) rfl ((if0 _ _).trans (feq (by decide : ¬ ((1 : Int32) = (0 : Int32)))).2) (by decide) (by decide) kz) ?_
  refine Goes.step (T' := T7) (g' := (mkF m 10 #[.val (.ref a1), .val (.int (46 : Int32)), .val (.int (0 : Int32)), .val (.int (Int32.ofNat cs.length))] [(.int (0 : Int32))])) (fun _ kz => XS.iloadN X7.here hx rfl (hb hby d_jdk_43_method_22_9) rfl  kz) ?_
  refine Goes.step (T' := T7) (g' := (mkF m 11 #[.val (.ref a1), .val (.int (46 : Int32)), .val (.int (0 : Int32)), .val (.int (Int32.ofNat cs.length))] [(.int (0 : Int32)), (.int (0 : Int32))])) (fun _ kz => XS.iconst X7.here hx rfl (hb hby d_jdk_43_method_22_10) kz) ?_
  obtain ⟨_, _, ⟨T8, L8, k8, n8⟩, -, X8, ⟨Lc8, hQ8, l8, y8, z8⟩, st8⟩ := Jvm.LawKit.callS X7 hx (y := (⟨"java/lang/Math", "max", "(II)I"⟩ : MethodName)) hown (mvT hZ (hw _ (List.mem_of_getElem? (i := 68) rfl))) (mvT hZ (hw _ (List.mem_of_getElem? (i := 69) rfl))) (mvT hZ (hw _ (List.mem_of_getElem? (i := 70) rfl))) (mvT hZ (hw _ (List.mem_of_getElem? (i := 71) rfl))) (by decide) (backOf (W := 0) (rm_mathmax l Z a0 hw [] (0 : Int32) (0 : Int32) h0 n0 O0  ) hZ (hw _ (List.mem_of_getElem? (i := 71) rfl)) (hw _ (List.mem_of_getElem? (i := 70) rfl)) (by decide) (by decide)) (g := (mkF m 11 #[.val (.ref a1), .val (.int (46 : Int32)), .val (.int (0 : Int32)), .val (.int (Int32.ofNat cs.length))] [(.int (0 : Int32)), (.int (0 : Int32))])) rfl (by rw [hml]; rfl) (argsL := [(.int (0 : Int32)), (.int (0 : Int32))]) (rest := []) (lenOf pd_1 rfl) rfl (by show 2 * 0 + _ ≤ _; exact Nat.le_of_eq rfl) (hb hby d_jdk_43_method_22_11) (fun _ _ => ⟨rfl, e7, (by decide : 0 + 0 ≤ _), (by decide : 0 + 0 ≤ _)⟩)
  dsimp only [Pt.U, Pt.locs, Pt.cells, Pt.slots] at X8 l8 y8 z8 st8 hQ8
  subst l8 y8 z8
  obtain ⟨rfl, rfl, e8⟩ := hQ8
  replace N0 := Fr.app N0 (Fr.nil n0)
  refine Goes.step (T' := T8) (g' := (mkF m 14 #[.val (.ref a1), .val (.int (46 : Int32)), .val (.int (0 : Int32)), .val (.int (Int32.ofNat cs.length))] [(.int (if (0 : Int32) < (0 : Int32) then (0 : Int32) else (0 : Int32)))])) st8 ?_
  have hmx : (if (0 : Int32) < (0 : Int32) then (0 : Int32) else (0 : Int32)) = (0 : Int32) := by decide
  rw [hmx]
  refine Goes.step (T' := T8) (g' := (mkF m 15 #[.val (.ref a1), .val (.int (46 : Int32)), .val (.int (0 : Int32)), .val (.int (Int32.ofNat cs.length))] [])) (fun _ kz => XS.istoreN X8.here hx rfl (hb hby d_jdk_43_method_22_14) rfl (l' := #[.val (.ref a1), .val (.int (46 : Int32)), .val (.int (0 : Int32)), .val (.int (Int32.ofNat cs.length))]) rfl kz) ?_
  refine Goes.step (T' := T8) (g' := (mkF m 16 #[.val (.ref a1), .val (.int (46 : Int32)), .val (.int (0 : Int32)), .val (.int (Int32.ofNat cs.length))] [(.int (Int32.ofNat cs.length))])) (fun _ kz => XS.iloadN X8.here hx rfl (hb hby d_jdk_43_method_22_15) rfl  kz) ?_
  refine Goes.step (T' := T8) (g' := (mkF m 17 #[.val (.ref a1), .val (.int (46 : Int32)), .val (.int (0 : Int32)), .val (.int (Int32.ofNat cs.length))] [(.ref a1), (.int (Int32.ofNat cs.length))])) (fun _ kz => XS.aloadN X8.here hx rfl (hb hby d_jdk_43_method_22_16) rfl rfl kz) ?_
  obtain ⟨cl9, Ar9, q9, Sz9, Nn9, Hs9, Gs9⟩ := (id V_a1 : Arv Z h0 a1 kb .byte (Int32.ofNat cs.length) (cs.map fun c => Value.int (c.toInt8.toInt32)) (.int 0))
  have al9 := X8.arraylength hx (by rw [e8]; exact Ar9.1) (State.isArrayOf_alike hZ.alike Ar9.2.1) (g := (mkF m 17 #[.val (.ref a1), .val (.int (46 : Int32)), .val (.int (0 : Int32)), .val (.int (Int32.ofNat cs.length))] [(.ref a1), (.int (Int32.ofNat cs.length))])) rfl rfl (hb hby d_jdk_43_method_22_17)
  rw [len_of Sz9 Nn9] at al9
  refine Goes.step (T' := T8) (g' := (mkF m 18 #[.val (.ref a1), .val (.int (46 : Int32)), .val (.int (0 : Int32)), .val (.int (Int32.ofNat cs.length))] [(.int (Int32.ofNat cs.length)), (.int (Int32.ofNat cs.length))])) al9 ?_
  obtain ⟨_, _, ⟨T10, L10, k10, n10⟩, -, X10, ⟨Lc10, hQ10, l10, y10, z10⟩, st10⟩ := Jvm.LawKit.callS X8 hx (y := (⟨"java/lang/Math", "min", "(II)I"⟩ : MethodName)) hown (mvT hZ (hw _ (List.mem_of_getElem? (i := 72) rfl))) (mvT hZ (hw _ (List.mem_of_getElem? (i := 73) rfl))) (mvT hZ (hw _ (List.mem_of_getElem? (i := 70) rfl))) (mvT hZ (hw _ (List.mem_of_getElem? (i := 74) rfl))) (by decide) (backOf (W := 0) (rm_mathmin l Z a0 hw [] (Int32.ofNat cs.length) (Int32.ofNat cs.length) h0 n0 O0  ) hZ (hw _ (List.mem_of_getElem? (i := 74) rfl)) (hw _ (List.mem_of_getElem? (i := 70) rfl)) (by decide) (by decide)) (g := (mkF m 18 #[.val (.ref a1), .val (.int (46 : Int32)), .val (.int (0 : Int32)), .val (.int (Int32.ofNat cs.length))] [(.int (Int32.ofNat cs.length)), (.int (Int32.ofNat cs.length))])) rfl (by rw [hml]; rfl) (argsL := [(.int (Int32.ofNat cs.length)), (.int (Int32.ofNat cs.length))]) (rest := []) (lenOf pd_1 rfl) rfl (by show 2 * 0 + _ ≤ _; exact Nat.le_of_eq rfl) (hb hby d_jdk_43_method_22_18) (fun _ _ => ⟨rfl, e8, (by decide : 0 + 0 ≤ _), (by decide : 0 + 0 ≤ _)⟩)
  dsimp only [Pt.U, Pt.locs, Pt.cells, Pt.slots] at X10 l10 y10 z10 st10 hQ10
  subst l10 y10 z10
  obtain ⟨rfl, rfl, e10⟩ := hQ10
  replace N0 := Fr.app N0 (Fr.nil n0)
  refine Goes.step (T' := T10) (g' := (mkF m 21 #[.val (.ref a1), .val (.int (46 : Int32)), .val (.int (0 : Int32)), .val (.int (Int32.ofNat cs.length))] [(.int (if (Int32.ofNat cs.length) < (Int32.ofNat cs.length) then (Int32.ofNat cs.length) else (Int32.ofNat cs.length)))])) st10 ?_
  have hmi : (if (Int32.ofNat cs.length) < (Int32.ofNat cs.length) then (Int32.ofNat cs.length) else (Int32.ofNat cs.length)) = (Int32.ofNat cs.length) := by split <;> rfl
  rw [hmi]
  refine Goes.step (T' := T10) (g' := (mkF m 22 #[.val (.ref a1), .val (.int (46 : Int32)), .val (.int (0 : Int32)), .val (.int (Int32.ofNat cs.length))] [])) (fun _ kz => XS.istoreN X10.here hx rfl (hb hby d_jdk_43_method_22_21) rfl (l' := #[.val (.ref a1), .val (.int (46 : Int32)), .val (.int (0 : Int32)), .val (.int (Int32.ofNat cs.length))]) rfl kz) ?_
  refine Goes.step (T' := T10) (g' := (mkF m 23 #[.val (.ref a1), .val (.int (46 : Int32)), .val (.int (0 : Int32)), .val (.int (Int32.ofNat cs.length))] [(.int (0 : Int32))])) (fun _ kz => XS.iloadN X10.here hx rfl (hb hby d_jdk_43_method_22_22) rfl  kz) ?_
  refine Goes.step (T' := T10) (g' := (mkF m 24 #[.val (.ref a1), .val (.int (46 : Int32)), .val (.int (0 : Int32)), .val (.int (Int32.ofNat cs.length))] [(.int (Int32.ofNat cs.length)), (.int (0 : Int32))])) (fun _ kz => XS.iloadN X10.here hx rfl (hb hby d_jdk_43_method_22_23) rfl  kz) ?_
  by_cases hc24_11 : (0 : Int32) < (Int32.ofNat cs.length)
  ·
    refine Goes.step (T' := T10) (g' := (mkF m 29 #[.val (.ref a1), .val (.int (46 : Int32)), .val (.int (0 : Int32)), .val (.int (Int32.ofNat cs.length))] [])) (fun _ kz => XS.icmpYes X10.here hx rfl (pc0 := 24) (pc' := 29) rfl (hb hby d_jdk_43_method_22_24) rfl (tlt hc24_11).1 (by decide) (by decide) kz) ?_
    refine Goes.step (T' := T10) (g' := (mkF m 30 #[.val (.ref a1), .val (.int (46 : Int32)), .val (.int (0 : Int32)), .val (.int (Int32.ofNat cs.length))] [(.ref a1)])) (fun _ kz => XS.aloadN X10.here hx rfl (hb hby d_jdk_43_method_22_29) rfl rfl kz) ?_
    refine Goes.step (T' := T10) (g' := (mkF m 31 #[.val (.ref a1), .val (.int (46 : Int32)), .val (.int (0 : Int32)), .val (.int (Int32.ofNat cs.length))] [(.int (46 : Int32)), (.ref a1)])) (fun _ kz => XS.iloadN X10.here hx rfl (hb hby d_jdk_43_method_22_30) rfl  kz) ?_
    refine Goes.step (T' := T10) (g' := (mkF m 32 #[.val (.ref a1), .val (.int (46 : Int32)), .val (.int (0 : Int32)), .val (.int (Int32.ofNat cs.length))] [(.int (0 : Int32)), (.int (46 : Int32)), (.ref a1)])) (fun _ kz => XS.iloadN X10.here hx rfl (hb hby d_jdk_43_method_22_31) rfl  kz) ?_
    refine Goes.step (T' := T10) (g' := (mkF m 33 #[.val (.ref a1), .val (.int (46 : Int32)), .val (.int (0 : Int32)), .val (.int (Int32.ofNat cs.length))] [(.int (Int32.ofNat cs.length)), (.int (0 : Int32)), (.int (46 : Int32)), (.ref a1)])) (fun _ kz => XS.iloadN X10.here hx rfl (hb hby d_jdk_43_method_22_32) rfl  kz) ?_
    obtain ⟨_, _, ⟨T12, L12, k12, n12⟩, -, X12, ⟨Lc12, hQ12, l12, y12, z12⟩, st12⟩ := Jvm.LawKit.callS X10 hx (y := (⟨"java/lang/StringLatin1", "indexOfChar", "([BIII)I"⟩ : MethodName)) hown (mvT hZ (hw _ (List.mem_of_getElem? (i := 75) rfl))) (mvT hZ (hw _ (List.mem_of_getElem? (i := 76) rfl))) (mvT hZ (hw _ (List.mem_of_getElem? (i := 11) rfl))) (mvT hZ (hw _ (List.mem_of_getElem? (i := 77) rfl))) (by decide) (backOf (W := 0) (rm_ixChar l Z a0 hw [] a1 (kb) (cs) h0 n0 O0  V_a1 (by first | assumption | decide) (by first | assumption | decide)) hZ (hw _ (List.mem_of_getElem? (i := 77) rfl)) (hw _ (List.mem_of_getElem? (i := 11) rfl)) (by decide) (by decide)) (g := (mkF m 33 #[.val (.ref a1), .val (.int (46 : Int32)), .val (.int (0 : Int32)), .val (.int (Int32.ofNat cs.length))] [(.int (Int32.ofNat cs.length)), (.int (0 : Int32)), (.int (46 : Int32)), (.ref a1)])) rfl (by rw [hml]; rfl) (argsL := [(.ref a1), (.int (46 : Int32)), (.int (0 : Int32)), (.int (Int32.ofNat cs.length))]) (rest := []) (lenOf pd_2 rfl) rfl (by show 2 * 0 + _ ≤ _; exact Nat.le_of_eq rfl) (hb hby d_jdk_43_method_22_33) (fun _ _ => ⟨rfl, e10, (by decide : 0 + 0 ≤ _), (by decide : 0 + 0 ≤ _)⟩)
    dsimp only [Pt.U, Pt.locs, Pt.cells, Pt.slots] at X12 l12 y12 z12 st12 hQ12
    subst l12 y12 z12
    obtain ⟨rfl, rfl, e12⟩ := hQ12
    replace N0 := Fr.app N0 (Fr.nil n0)
    refine Goes.step (T' := T12) (g' := (mkF m 36 #[.val (.ref a1), .val (.int (46 : Int32)), .val (.int (0 : Int32)), .val (.int (Int32.ofNat cs.length))] [(.int (if IX cs = cs.length then -1 else Int32.ofNat (IX cs)))])) st12 ?_
    obtain ⟨fs, hr, hrun, hended, hW, hsame⟩ := X12.leave (v := some (.int (if IX cs = cs.length then -1 else Int32.ofNat (IX cs)))) (fun h => by rw [Bd.returns] at h; cases h)
    exact ⟨_, _, retOut X12 hx Bd.returns rfl (Or.inl ⟨rfl, Or.inl rfl, _, rfl⟩) (hb hby d_jdk_43_method_22_36) hr, hrun, hended, _, _, rfl, (by show Q_ixLat Z a1 kb cs h0 n0 _ T12.heap _; rw [e12]; exact ⟨rfl, rfl, rfl⟩), ⟨_, rfl⟩, hW, hsame.mono (by decide) (by decide)⟩
  ·
    refine Goes.step (T' := T10) (g' := (mkF m 27 #[.val (.ref a1), .val (.int (46 : Int32)), .val (.int (0 : Int32)), .val (.int (Int32.ofNat cs.length))] [])) (fun _ kz => XS.icmpNo X10.here hx rfl (hb hby d_jdk_43_method_22_24) rfl (flt hc24_11).1 kz) ?_
    refine Goes.step (T' := T10) (g' := (mkF m 28 #[.val (.ref a1), .val (.int (46 : Int32)), .val (.int (0 : Int32)), .val (.int (Int32.ofNat cs.length))] [(.int (-1 : Int32))])) (fun _ kz => XS.iconst X10.here hx rfl (hb hby d_jdk_43_method_22_27) kz) ?_
    obtain ⟨fs, hr, hrun, hended, hW, hsame⟩ := X10.leave (v := some (.int (-1 : Int32))) (fun h => by rw [Bd.returns] at h; cases h)
    exact ⟨_, _, retOut X10 hx Bd.returns rfl (Or.inl ⟨rfl, Or.inl rfl, _, rfl⟩) (hb hby d_jdk_43_method_22_28) hr, hrun, hended, _, _, rfl, (by show Q_ixLat Z a1 kb cs h0 n0 _ T10.heap _; rw [e10]; exact ⟨(by have hz : cs.length = 0 := (by have := mt (own_lt (a := 0) (by omega) hl).mpr (fun q => hc24_11 q); omega); rw [if_pos (by have := IX_le cs; omega)]), rfl, rfl⟩), ⟨_, rfl⟩, hW, hsame.mono (by decide) (by decide)⟩
theorem d_jdk_42_method_80_0 : decode jdk_42_method_80_code 0 = .ok (.aload_n 0, 1) := by decide +kernel
theorem d_jdk_42_method_80_1 : decode jdk_42_method_80_code 1 = .ok (.invokevirtual 492, 3) := by decide +kernel
theorem pd_3 : parseMethodDescriptor "()Z" = some ⟨[], some .boolean⟩ := by decide +kernel
theorem d_jdk_42_method_80_4 : decode jdk_42_method_80_code 4 = .ok (.ifCond .eq 19, 3) := by decide +kernel
theorem d_jdk_42_method_80_7 : decode jdk_42_method_80_code 7 = .ok (.aload_n 0, 1) := by decide +kernel
theorem d_jdk_42_method_80_8 : decode jdk_42_method_80_code 8 = .ok (.getfield 9, 3) := by decide +kernel
theorem d_jdk_42_method_80_11 : decode jdk_42_method_80_code 11 = .ok (.iload_n 1, 1) := by decide +kernel
theorem d_jdk_42_method_80_12 : decode jdk_42_method_80_code 12 = .ok (.iload_n 2, 1) := by decide +kernel
theorem d_jdk_42_method_80_13 : decode jdk_42_method_80_code 13 = .ok (.aload_n 0, 1) := by decide +kernel
theorem d_jdk_42_method_80_14 : decode jdk_42_method_80_code 14 = .ok (.invokevirtual 505, 3) := by decide +kernel
theorem pd_4 : parseMethodDescriptor "()I" = some ⟨[], some .int⟩ := by decide +kernel
theorem d_jdk_42_method_80_17 : decode jdk_42_method_80_code 17 = .ok (.invokestatic 637, 3) := by decide +kernel
theorem d_jdk_42_method_80_20 : decode jdk_42_method_80_code 20 = .ok (.goto 16, 3) := by decide +kernel
theorem d_jdk_42_method_80_36 : decode jdk_42_method_80_code 36 = .ok (.ireturn, 1) := by decide +kernel
theorem ef_ix2 (m : MethodId) (a1 : Addr) : entryFrame m #[(.ref a1), (.int (46 : Int32)), (.int (0 : Int32))] 3 = mkF m 0 #[.val (.ref a1), .val (.int (46 : Int32)), .val (.int (0 : Int32))] [] := by first | (simp [entryFrame, mkF, argsToLocals, Value.category, maxLocals]; done) | rfl
def Q_ix2 (Z : State) (a1 : Addr) (cs : List Int32) (h0 : Heap) (n0 : Nat) (v : Option Value) (h : Heap) (L : List Loc) : Prop := (v = some (.int (if IX cs = cs.length then -1 else Int32.ofNat (IX cs)))) ∧ (L = []) ∧ (h = h0)
set_option maxRecDepth 65536 in
set_option maxHeartbeats 40000000 in
theorem rm_ix2 (l : Launch) (Z : State) (a0 : Array Value) (hw : ∀ d ∈ tables_1, d.before a0 Z = true) (ws : List Jvm.Cond) (a1 : Addr) (cs : List Int32) (h0 : Heap) (n0 : Nat) (O0 : Old Z n0 h0) (zcs : Int32) (Scs : Sta Z Z.heap "java/lang/String" "COMPACT_STRINGS" "Z" (.int zcs)) (hz_Scs : ¬ zcs = 0) (E_a1 : Exa Z h0 a1 "java/lang/String") (G_a1 : SX Z h0 a1 cs) (hl : cs.length ≤ 4000) :
    MetFree l (⟨"java/lang/String", "indexOf", "(II)I"⟩ : MethodName) (head1 ((Jvm.Cond.code (⟨"java/lang/String", "indexOf", "(II)I"⟩ : MethodName) jdk_42_method_80_code 3 (some .int)) :: ws) ({ frames := 2, cells := 0, slots := 0, locals := 32 } : Room)) (fun a U => a = #[(.ref a1), (.int (46 : Int32)), (.int (0 : Int32))] ∧ Z.Warmed39 U.vm ∧ U.heap = h0) (fun _ _ _ _ _ => True) (fun _ U o U' => ∃ v L, o = .returned v ∧ Q_ix2 Z a1 cs h0 n0 v U'.heap L ∧ FrameEnd U o U' L ({ frames := 2, cells := 0, slots := 0, locals := 32 } : Room).cells ({ frames := 2, cells := 0, slots := 0, locals := 32 } : Room).slots) := by
  refine MetFree.of_bodySF (plainFor_of_name pn_1) hisR ?_
  intro p e s m args below meth c s₁ Bd hml0 hP hK
  obtain ⟨rfl, hZ, hh⟩ := hP
  have hx := Bd.exec
  have hby := Bd.bytes
  have hml : c.maxLocals = 3 := hml0
  have hown : s.vm.findClass "java/lang/String" = some m.cls := findClass_of_methodNamed Bd.named
  have hnm := (name_of_methodNamed Bd.named Bd.method).1
  have X0 : Stand p l e ({ frames := 2, cells := 0, slots := 0, locals := 32 } : Room) s m #[(.ref a1), (.int (46 : Int32)), (.int (0 : Int32))] below meth c s₁ [] 0 0 := Stand.of_body Bd
  have e0 : s₁.heap = h0 := by rw [← hh, Bd.state]; rfl
  have N0 := Fr.nil n0
  have K0 : Keep h0 h0 [] := Keep.refl _ _
  suffices hG : Goes p e below (fun o U' => ∃ v L, o = .returned v ∧ Q_ix2 Z a1 cs h0 n0 v U'.heap L ∧ FrameEnd s o U' L ({ frames := 2, cells := 0, slots := 0, locals := 32 } : Room).cells ({ frames := 2, cells := 0, slots := 0, locals := 32 } : Room).slots) s₁ (mkF m 0 #[.val (.ref a1), .val (.int (46 : Int32)), .val (.int (0 : Int32))] []) by
    obtain ⟨t, o, h1, h2⟩ := hG; exact ⟨t, o, castTop (ef_ix2 m a1) h1, h2⟩
  obtain ⟨E_a1, F_a1_coder, hb_a1, t_a1, kb_a1, F_a1_value, V_t_a1⟩ := (id G_a1 : SX Z h0 a1 cs)
  refine Goes.step (T' := s₁) (g' := (mkF m 1 #[.val (.ref a1), .val (.int (46 : Int32)), .val (.int (0 : Int32))] [(.ref a1)])) (fun _ kz => XS.aloadN X0.here hx rfl (hb hby d_jdk_42_method_80_0) rfl rfl kz) ?_
  obtain ⟨cq13, kq13, qa13, qb13, qc13⟩ := isOf hZ e0 E_a1
  obtain ⟨_, _, ⟨T13, L13, k13, n13⟩, -, X13, ⟨Lc13, hQ13, l13, y13, z13⟩, st13⟩ := X0.virtualBack hx (y := (⟨"java/lang/String", "isLatin1", "()Z"⟩ : MethodName)) (z := (⟨"java/lang/String", "isLatin1", "()Z"⟩ : MethodName)) hown (mvT hZ (hw _ (List.mem_of_getElem? (i := 47) rfl))) (mvT hZ (hw _ (List.mem_of_getElem? (i := 48) rfl))) (notFace_of_selects (args := #[]) (mvT hZ (hw _ (List.mem_of_getElem? (i := 50) rfl)))) (mvT hZ (hw _ (List.mem_of_getElem? (i := 50) rfl))) (mvT hZ (hw _ (List.mem_of_getElem? (i := 49) rfl))) (by decide) (backOf (W := 0) (rm_isLat l Z a0 hw [] a1 h0 n0 O0 zcs Scs hz_Scs F_a1_coder) hZ (hw _ (List.mem_of_getElem? (i := 51) rfl)) (hw _ (List.mem_of_getElem? (i := 6) rfl)) (by decide) (by decide)) qa13 qc13 (g := (mkF m 1 #[.val (.ref a1), .val (.int (46 : Int32)), .val (.int (0 : Int32))] [(.ref a1)])) rfl (by rw [hml]; rfl) (Steps.refl _) (argsL := []) (rest := []) (lenOf pd_3 rfl) rfl (by show 2 * 0 + _ ≤ _; exact Nat.le_of_eq rfl) (hb hby d_jdk_42_method_80_1) (fun _ _ => ⟨rfl, e0, (by decide : 0 + 0 ≤ _), (by decide : 0 + 0 ≤ _)⟩)
  dsimp only [Pt.U, Pt.locs, Pt.cells, Pt.slots] at X13 l13 y13 z13 st13 hQ13
  subst l13 y13 z13
  obtain ⟨rfl, rfl, e13⟩ := hQ13
  replace N0 := Fr.app N0 (Fr.nil n0)
  refine Goes.run (T' := T13) (g' := (mkF m 4 #[.val (.ref a1), .val (.int (46 : Int32)), .val (.int (0 : Int32))] [(.int (1 : Int32))])) st13 ?_
  refine Goes.step (T' := T13) (g' := (mkF m 7 #[.val (.ref a1), .val (.int (46 : Int32)), .val (.int (0 : Int32))] [])) (fun _ kz => XS.ifNo X13.here hx rfl (hb hby d_jdk_42_method_80_4) rfl ((if0 _ _).trans (feq (by decide : ¬ ((1 : Int32) = (0 : Int32)))).1) kz) ?_
  refine Goes.step (T' := T13) (g' := (mkF m 8 #[.val (.ref a1), .val (.int (46 : Int32)), .val (.int (0 : Int32))] [(.ref a1)])) (fun _ kz => XS.aloadN X13.here hx rfl (hb hby d_jdk_42_method_80_7) rfl rfl kz) ?_
  obtain ⟨T14, X14, e14, st14⟩ := getF X13 hx hZ hown (host := "") (Or.inl (hw _ (List.mem_of_getElem? (i := 26) rfl))) Via.refl e13 F_a1_value (g := (mkF m 8 #[.val (.ref a1), .val (.int (46 : Int32)), .val (.int (0 : Int32))] [(.ref a1)])) rfl rfl (hb hby d_jdk_42_method_80_8)
  refine Goes.step (T' := T14) (g' := (mkF m 11 #[.val (.ref a1), .val (.int (46 : Int32)), .val (.int (0 : Int32))] [(.ref t_a1)])) st14 ?_
  refine Goes.step (T' := T14) (g' := (mkF m 12 #[.val (.ref a1), .val (.int (46 : Int32)), .val (.int (0 : Int32))] [(.int (46 : Int32)), (.ref t_a1)])) (fun _ kz => XS.iloadN X14.here hx rfl (hb hby d_jdk_42_method_80_11) rfl  kz) ?_
  refine Goes.step (T' := T14) (g' := (mkF m 13 #[.val (.ref a1), .val (.int (46 : Int32)), .val (.int (0 : Int32))] [(.int (0 : Int32)), (.int (46 : Int32)), (.ref t_a1)])) (fun _ kz => XS.iloadN X14.here hx rfl (hb hby d_jdk_42_method_80_12) rfl  kz) ?_
  refine Goes.step (T' := T14) (g' := (mkF m 14 #[.val (.ref a1), .val (.int (46 : Int32)), .val (.int (0 : Int32))] [(.ref a1), (.int (0 : Int32)), (.int (46 : Int32)), (.ref t_a1)])) (fun _ kz => XS.aloadN X14.here hx rfl (hb hby d_jdk_42_method_80_13) rfl rfl kz) ?_
  obtain ⟨cq15, kq15, qa15, qb15, qc15⟩ := isOf hZ e14 E_a1
  obtain ⟨_, _, ⟨T15, L15, k15, n15⟩, -, X15, ⟨Lc15, hQ15, l15, y15, z15⟩, st15⟩ := X14.virtualBack hx (y := (⟨"java/lang/String", "length", "()I"⟩ : MethodName)) (z := (⟨"java/lang/String", "length", "()I"⟩ : MethodName)) hown (mvT hZ (hw _ (List.mem_of_getElem? (i := 52) rfl))) (mvT hZ (hw _ (List.mem_of_getElem? (i := 53) rfl))) (notFace_of_selects (args := #[]) (mvT hZ (hw _ (List.mem_of_getElem? (i := 55) rfl)))) (mvT hZ (hw _ (List.mem_of_getElem? (i := 55) rfl))) (mvT hZ (hw _ (List.mem_of_getElem? (i := 54) rfl))) (by decide) (own_lenW (W := 3) hZ hw (hw _ (List.mem_of_getElem? (i := 14) rfl)) G_a1 (hl) (Scs.ext O0.2) hz_Scs (by decide) (by decide)) qa15 qc15 (g := (mkF m 14 #[.val (.ref a1), .val (.int (46 : Int32)), .val (.int (0 : Int32))] [(.ref a1), (.int (0 : Int32)), (.int (46 : Int32)), (.ref t_a1)])) rfl (by rw [hml]; rfl) (Steps.refl _) (argsL := []) (rest := [(.int (0 : Int32)), (.int (46 : Int32)), (.ref t_a1)]) (lenOf pd_4 rfl) rfl (by show 2 * 0 + _ ≤ _; exact Nat.le_of_eq rfl) (hb hby d_jdk_42_method_80_14) (fun _ _ => ⟨rfl, e14, (by decide : 0 + 0 ≤ _), (by decide : 0 + 0 ≤ _)⟩)
  dsimp only [Pt.U, Pt.locs, Pt.cells, Pt.slots] at X15 l15 y15 z15 st15 hQ15
  subst l15 y15 z15
  obtain ⟨rfl, rfl, e15⟩ := hQ15
  replace N0 := Fr.app N0 (Fr.nil n0)
  refine Goes.run (T' := T15) (g' := (mkF m 17 #[.val (.ref a1), .val (.int (46 : Int32)), .val (.int (0 : Int32))] [(.int (Int32.ofNat cs.length)), (.int (0 : Int32)), (.int (46 : Int32)), (.ref t_a1)])) st15 ?_
  obtain ⟨_, _, ⟨T16, L16, k16, n16⟩, -, X16, ⟨Lc16, hQ16, l16, y16, z16⟩, st16⟩ := Jvm.LawKit.callS X15 hx (y := (⟨"java/lang/StringLatin1", "indexOf", "([BIII)I"⟩ : MethodName)) hown (mvT hZ (hw _ (List.mem_of_getElem? (i := 62) rfl))) (mvT hZ (hw _ (List.mem_of_getElem? (i := 63) rfl))) (mvT hZ (hw _ (List.mem_of_getElem? (i := 11) rfl))) (mvT hZ (hw _ (List.mem_of_getElem? (i := 64) rfl))) (by decide) (backOf (W := 0) (rm_ixLat l Z a0 hw [] t_a1 (kb_a1) (cs) h0 n0 O0  V_t_a1 (by first | assumption | decide) hb_a1) hZ (hw _ (List.mem_of_getElem? (i := 64) rfl)) (hw _ (List.mem_of_getElem? (i := 11) rfl)) (by decide) (by decide)) (g := (mkF m 17 #[.val (.ref a1), .val (.int (46 : Int32)), .val (.int (0 : Int32))] [(.int (Int32.ofNat cs.length)), (.int (0 : Int32)), (.int (46 : Int32)), (.ref t_a1)])) rfl (by rw [hml]; rfl) (argsL := [(.ref t_a1), (.int (46 : Int32)), (.int (0 : Int32)), (.int (Int32.ofNat cs.length))]) (rest := []) (lenOf pd_2 rfl) rfl (by show 2 * 0 + _ ≤ _; exact Nat.le_of_eq rfl) (hb hby d_jdk_42_method_80_17) (fun _ _ => ⟨rfl, e15, (by decide : 0 + 0 ≤ _), (by decide : 0 + 0 ≤ _)⟩)
  dsimp only [Pt.U, Pt.locs, Pt.cells, Pt.slots] at X16 l16 y16 z16 st16 hQ16
  subst l16 y16 z16
  obtain ⟨rfl, rfl, e16⟩ := hQ16
  replace N0 := Fr.app N0 (Fr.nil n0)
  refine Goes.step (T' := T16) (g' := (mkF m 20 #[.val (.ref a1), .val (.int (46 : Int32)), .val (.int (0 : Int32))] [(.int (if IX cs = cs.length then -1 else Int32.ofNat (IX cs)))])) st16 ?_
  refine Goes.step (T' := T16) (g' := (mkF m 36 #[.val (.ref a1), .val (.int (46 : Int32)), .val (.int (0 : Int32))] [(.int (if IX cs = cs.length then -1 else Int32.ofNat (IX cs)))])) (fun _ kz => XS.goto X16.here hx rfl (pc0 := 20) (pc' := 36) rfl (hb hby d_jdk_42_method_80_20) (by decide) (by decide) kz) ?_
  obtain ⟨fs, hr, hrun, hended, hW, hsame⟩ := X16.leave (v := some (.int (if IX cs = cs.length then -1 else Int32.ofNat (IX cs)))) (fun h => by rw [Bd.returns] at h; cases h)
  exact ⟨_, _, retOut X16 hx Bd.returns rfl (Or.inl ⟨rfl, Or.inl rfl, _, rfl⟩) (hb hby d_jdk_42_method_80_36) hr, hrun, hended, _, _, rfl, (by show Q_ix2 Z a1 cs h0 n0 _ T16.heap _; rw [e16]; exact ⟨rfl, rfl, rfl⟩), ⟨_, rfl⟩, hW, hsame.mono (by decide) (by decide)⟩
theorem d_jdk_42_method_79_0 : decode jdk_42_method_79_code 0 = .ok (.aload_n 0, 1) := by decide +kernel
theorem d_jdk_42_method_79_1 : decode jdk_42_method_79_code 1 = .ok (.iload_n 1, 1) := by decide +kernel
theorem d_jdk_42_method_79_2 : decode jdk_42_method_79_code 2 = .ok (.iconst 0, 1) := by decide +kernel
theorem d_jdk_42_method_79_3 : decode jdk_42_method_79_code 3 = .ok (.invokevirtual 633, 3) := by decide +kernel
theorem d_jdk_42_method_79_6 : decode jdk_42_method_79_code 6 = .ok (.ireturn, 1) := by decide +kernel
theorem ef_ix1 (m : MethodId) (a1 : Addr) : entryFrame m #[(.ref a1), (.int (46 : Int32))] 2 = mkF m 0 #[.val (.ref a1), .val (.int (46 : Int32))] [] := by first | (simp [entryFrame, mkF, argsToLocals, Value.category, maxLocals]; done) | rfl
def Q_ix1 (Z : State) (a1 : Addr) (cs : List Int32) (h0 : Heap) (n0 : Nat) (v : Option Value) (h : Heap) (L : List Loc) : Prop := (v = some (.int (if IX cs = cs.length then -1 else Int32.ofNat (IX cs)))) ∧ (L = []) ∧ (h = h0)
set_option maxRecDepth 65536 in
set_option maxHeartbeats 40000000 in
theorem rm_ix1 (l : Launch) (Z : State) (a0 : Array Value) (hw : ∀ d ∈ tables_1, d.before a0 Z = true) (ws : List Jvm.Cond) (a1 : Addr) (cs : List Int32) (h0 : Heap) (n0 : Nat) (O0 : Old Z n0 h0) (zcs : Int32) (Scs : Sta Z Z.heap "java/lang/String" "COMPACT_STRINGS" "Z" (.int zcs)) (hz_Scs : ¬ zcs = 0) (E_a1 : Exa Z h0 a1 "java/lang/String") (G_a1 : SX Z h0 a1 cs) (hl : cs.length ≤ 4000) :
    MetFree l (⟨"java/lang/String", "indexOf", "(I)I"⟩ : MethodName) (head1 ((Jvm.Cond.code (⟨"java/lang/String", "indexOf", "(I)I"⟩ : MethodName) jdk_42_method_79_code 2 (some .int)) :: ws) ({ frames := 3, cells := 0, slots := 0, locals := 46 } : Room)) (fun a U => a = #[(.ref a1), (.int (46 : Int32))] ∧ Z.Warmed39 U.vm ∧ U.heap = h0) (fun _ _ _ _ _ => True) (fun _ U o U' => ∃ v L, o = .returned v ∧ Q_ix1 Z a1 cs h0 n0 v U'.heap L ∧ FrameEnd U o U' L ({ frames := 3, cells := 0, slots := 0, locals := 46 } : Room).cells ({ frames := 3, cells := 0, slots := 0, locals := 46 } : Room).slots) := by
  refine MetFree.of_bodySF (plainFor_of_name pn_1) hisR ?_
  intro p e s m args below meth c s₁ Bd hml0 hP hK
  obtain ⟨rfl, hZ, hh⟩ := hP
  have hx := Bd.exec
  have hby := Bd.bytes
  have hml : c.maxLocals = 2 := hml0
  have hown : s.vm.findClass "java/lang/String" = some m.cls := findClass_of_methodNamed Bd.named
  have hnm := (name_of_methodNamed Bd.named Bd.method).1
  have X0 : Stand p l e ({ frames := 3, cells := 0, slots := 0, locals := 46 } : Room) s m #[(.ref a1), (.int (46 : Int32))] below meth c s₁ [] 0 0 := Stand.of_body Bd
  have e0 : s₁.heap = h0 := by rw [← hh, Bd.state]; rfl
  have N0 := Fr.nil n0
  have K0 : Keep h0 h0 [] := Keep.refl _ _
  suffices hG : Goes p e below (fun o U' => ∃ v L, o = .returned v ∧ Q_ix1 Z a1 cs h0 n0 v U'.heap L ∧ FrameEnd s o U' L ({ frames := 3, cells := 0, slots := 0, locals := 46 } : Room).cells ({ frames := 3, cells := 0, slots := 0, locals := 46 } : Room).slots) s₁ (mkF m 0 #[.val (.ref a1), .val (.int (46 : Int32))] []) by
    obtain ⟨t, o, h1, h2⟩ := hG; exact ⟨t, o, castTop (ef_ix1 m a1) h1, h2⟩
  refine Goes.step (T' := s₁) (g' := (mkF m 1 #[.val (.ref a1), .val (.int (46 : Int32))] [(.ref a1)])) (fun _ kz => XS.aloadN X0.here hx rfl (hb hby d_jdk_42_method_79_0) rfl rfl kz) ?_
  refine Goes.step (T' := s₁) (g' := (mkF m 2 #[.val (.ref a1), .val (.int (46 : Int32))] [(.int (46 : Int32)), (.ref a1)])) (fun _ kz => XS.iloadN X0.here hx rfl (hb hby d_jdk_42_method_79_1) rfl  kz) ?_
  refine Goes.step (T' := s₁) (g' := (mkF m 3 #[.val (.ref a1), .val (.int (46 : Int32))] [(.int (0 : Int32)), (.int (46 : Int32)), (.ref a1)])) (fun _ kz => XS.iconst X0.here hx rfl (hb hby d_jdk_42_method_79_2) kz) ?_
  obtain ⟨cq17, kq17, qa17, qb17, qc17⟩ := isOf hZ e0 E_a1
  obtain ⟨_, _, ⟨T17, L17, k17, n17⟩, -, X17, ⟨Lc17, hQ17, l17, y17, z17⟩, st17⟩ := X0.virtualBack hx (y := (⟨"java/lang/String", "indexOf", "(II)I"⟩ : MethodName)) (z := (⟨"java/lang/String", "indexOf", "(II)I"⟩ : MethodName)) hown (mvT hZ (hw _ (List.mem_of_getElem? (i := 42) rfl))) (mvT hZ (hw _ (List.mem_of_getElem? (i := 43) rfl))) (notFace_of_selects (args := #[]) (mvT hZ (hw _ (List.mem_of_getElem? (i := 45) rfl)))) (mvT hZ (hw _ (List.mem_of_getElem? (i := 45) rfl))) (mvT hZ (hw _ (List.mem_of_getElem? (i := 44) rfl))) (by decide) (backOf (W := 0) (rm_ix2 l Z a0 hw [] a1 (cs) h0 n0 O0 zcs Scs hz_Scs E_a1 G_a1 (by first | assumption | decide)) hZ (hw _ (List.mem_of_getElem? (i := 46) rfl)) (hw _ (List.mem_of_getElem? (i := 6) rfl)) (by decide) (by decide)) qa17 qc17 (g := (mkF m 3 #[.val (.ref a1), .val (.int (46 : Int32))] [(.int (0 : Int32)), (.int (46 : Int32)), (.ref a1)])) rfl (by rw [hml]; rfl) (Steps.refl _) (argsL := [(.int (46 : Int32)), (.int (0 : Int32))]) (rest := []) (lenOf pd_1 rfl) rfl (by show 2 * 0 + _ ≤ _; exact Nat.le_of_eq rfl) (hb hby d_jdk_42_method_79_3) (fun _ _ => ⟨rfl, e0, (by decide : 0 + 0 ≤ _), (by decide : 0 + 0 ≤ _)⟩)
  dsimp only [Pt.U, Pt.locs, Pt.cells, Pt.slots] at X17 l17 y17 z17 st17 hQ17
  subst l17 y17 z17
  obtain ⟨rfl, rfl, e17⟩ := hQ17
  replace N0 := Fr.app N0 (Fr.nil n0)
  refine Goes.run (T' := T17) (g' := (mkF m 6 #[.val (.ref a1), .val (.int (46 : Int32))] [(.int (if IX cs = cs.length then -1 else Int32.ofNat (IX cs)))])) st17 ?_
  obtain ⟨fs, hr, hrun, hended, hW, hsame⟩ := X17.leave (v := some (.int (if IX cs = cs.length then -1 else Int32.ofNat (IX cs)))) (fun h => by rw [Bd.returns] at h; cases h)
  exact ⟨_, _, retOut X17 hx Bd.returns rfl (Or.inl ⟨rfl, Or.inl rfl, _, rfl⟩) (hb hby d_jdk_42_method_79_6) hr, hrun, hended, _, _, rfl, (by show Q_ix1 Z a1 cs h0 n0 _ T17.heap _; rw [e17]; exact ⟨rfl, rfl, rfl⟩), ⟨_, rfl⟩, hW, hsame.mono (by decide) (by decide)⟩
theorem d_prog_15_method_9_0 : decode prog_15_method_9_code 0 = .ok (.aload_n 0, 1) := by decide +kernel
theorem d_prog_15_method_9_1 : decode prog_15_method_9_code 1 = .ok (.bipush 46, 2) := by decide +kernel
theorem d_prog_15_method_9_3 : decode prog_15_method_9_code 3 = .ok (.invokevirtual 83, 3) := by decide +kernel
theorem pd_5 : parseMethodDescriptor "(I)I" = some ⟨[.int], some .int⟩ := by decide +kernel
theorem d_prog_15_method_9_6 : decode prog_15_method_9_code 6 = .ok (.istore_n 1, 1) := by decide +kernel
theorem d_prog_15_method_9_7 : decode prog_15_method_9_code 7 = .ok (.iload_n 1, 1) := by decide +kernel
theorem d_prog_15_method_9_8 : decode prog_15_method_9_code 8 = .ok (.ifCond .ge 10, 3) := by decide +kernel
theorem d_prog_15_method_9_11 : decode prog_15_method_9_code 11 = .ok (.aload_n 0, 1) := by decide +kernel
theorem d_prog_15_method_9_12 : decode prog_15_method_9_code 12 = .ok (.invokevirtual 35, 3) := by decide +kernel
theorem d_prog_15_method_9_15 : decode prog_15_method_9_code 15 = .ok (.goto 4, 3) := by decide +kernel
theorem d_prog_15_method_9_19 : decode prog_15_method_9_code 19 = .ok (.ireturn, 1) := by decide +kernel
theorem d_prog_15_method_9_18 : decode prog_15_method_9_code 18 = .ok (.iload_n 1, 1) := by decide +kernel
theorem pn_2 : plainName "com/example/tariff/tariff/core/decimal/PlainDecimal" = true := by first | (simp [plainName, overriddenIn]; done) | decide +kernel
theorem ef_ptIx (m : MethodId) (a1 : Addr) : entryFrame m #[(.ref a1)] 2 = mkF m 0 #[.val (.ref a1), .unset] [] := by first | (simp [entryFrame, mkF, argsToLocals, Value.category, maxLocals]; done) | rfl
def Q_ptIx (Z : State) (a1 : Addr) (cs : List Int32) (h0 : Heap) (n0 : Nat) (v : Option Value) (h : Heap) (L : List Loc) : Prop := (v = some (.int (Int32.ofNat (IX cs)))) ∧ (L = []) ∧ (h = h0)
set_option maxRecDepth 65536 in
set_option maxHeartbeats 40000000 in
theorem rm_ptIx (l : Launch) (Z : State) (a0 : Array Value) (hw : ∀ d ∈ tables_1, d.before a0 Z = true) (ws : List Jvm.Cond) (a1 : Addr) (cs : List Int32) (h0 : Heap) (n0 : Nat) (O0 : Old Z n0 h0) (zcs : Int32) (Scs : Sta Z Z.heap "java/lang/String" "COMPACT_STRINGS" "Z" (.int zcs)) (hz_Scs : ¬ zcs = 0) (E_a1 : Exa Z h0 a1 "java/lang/String") (G_a1 : SX Z h0 a1 cs) (hl : cs.length ≤ 4000) :
    MetFree l (⟨"com/example/tariff/tariff/core/decimal/PlainDecimal", "pointIndex", "(Ljava/lang/String;)I"⟩ : MethodName) (head1 ((Jvm.Cond.code (⟨"com/example/tariff/tariff/core/decimal/PlainDecimal", "pointIndex", "(Ljava/lang/String;)I"⟩ : MethodName) prog_15_method_9_code 2 (some .int)) :: ws) ({ frames := 4, cells := 0, slots := 0, locals := 59 } : Room)) (fun a U => a = #[(.ref a1)] ∧ Z.Warmed39 U.vm ∧ U.heap = h0) (fun _ _ _ _ _ => True) (fun _ U o U' => ∃ v L, o = .returned v ∧ Q_ptIx Z a1 cs h0 n0 v U'.heap L ∧ FrameEnd U o U' L ({ frames := 4, cells := 0, slots := 0, locals := 59 } : Room).cells ({ frames := 4, cells := 0, slots := 0, locals := 59 } : Room).slots) := by
  refine MetFree.of_bodySF (plainFor_of_name pn_2) hisR ?_
  intro p e s m args below meth c s₁ Bd hml0 hP hK
  obtain ⟨rfl, hZ, hh⟩ := hP
  have hx := Bd.exec
  have hby := Bd.bytes
  have hml : c.maxLocals = 2 := hml0
  have hown : s.vm.findClass "com/example/tariff/tariff/core/decimal/PlainDecimal" = some m.cls := findClass_of_methodNamed Bd.named
  have hnm := (name_of_methodNamed Bd.named Bd.method).1
  have X0 : Stand p l e ({ frames := 4, cells := 0, slots := 0, locals := 59 } : Room) s m #[(.ref a1)] below meth c s₁ [] 0 0 := Stand.of_body Bd
  have e0 : s₁.heap = h0 := by rw [← hh, Bd.state]; rfl
  have N0 := Fr.nil n0
  have K0 : Keep h0 h0 [] := Keep.refl _ _
  suffices hG : Goes p e below (fun o U' => ∃ v L, o = .returned v ∧ Q_ptIx Z a1 cs h0 n0 v U'.heap L ∧ FrameEnd s o U' L ({ frames := 4, cells := 0, slots := 0, locals := 59 } : Room).cells ({ frames := 4, cells := 0, slots := 0, locals := 59 } : Room).slots) s₁ (mkF m 0 #[.val (.ref a1), .unset] []) by
    obtain ⟨t, o, h1, h2⟩ := hG; exact ⟨t, o, castTop (ef_ptIx m a1) h1, h2⟩
  refine Goes.step (T' := s₁) (g' := (mkF m 1 #[.val (.ref a1), .unset] [(.ref a1)])) (fun _ kz => XS.aloadN X0.here hx rfl (hb hby d_prog_15_method_9_0) rfl rfl kz) ?_
  refine Goes.step (T' := s₁) (g' := (mkF m 3 #[.val (.ref a1), .unset] [(.int (46 : Int32)), (.ref a1)])) (fun _ kz => XS.bipush X0.here hx rfl (hb hby d_prog_15_method_9_1) kz) ?_
  obtain ⟨cq18, kq18, qa18, qb18, qc18⟩ := isOf hZ e0 E_a1
  obtain ⟨_, _, ⟨T18, L18, k18, n18⟩, -, X18, ⟨Lc18, hQ18, l18, y18, z18⟩, st18⟩ := X0.virtualBack hx (y := (⟨"java/lang/String", "indexOf", "(I)I"⟩ : MethodName)) (z := (⟨"java/lang/String", "indexOf", "(I)I"⟩ : MethodName)) hown (mvT hZ (hw _ (List.mem_of_getElem? (i := 37) rfl))) (mvT hZ (hw _ (List.mem_of_getElem? (i := 38) rfl))) (notFace_of_selects (args := #[]) (mvT hZ (hw _ (List.mem_of_getElem? (i := 40) rfl)))) (mvT hZ (hw _ (List.mem_of_getElem? (i := 40) rfl))) (mvT hZ (hw _ (List.mem_of_getElem? (i := 39) rfl))) (by decide) (backOf (W := 0) (rm_ix1 l Z a0 hw [] a1 (cs) h0 n0 O0 zcs Scs hz_Scs E_a1 G_a1 (by first | assumption | decide)) hZ (hw _ (List.mem_of_getElem? (i := 41) rfl)) (hw _ (List.mem_of_getElem? (i := 6) rfl)) (by decide) (by decide)) qa18 qc18 (g := (mkF m 3 #[.val (.ref a1), .unset] [(.int (46 : Int32)), (.ref a1)])) rfl (by rw [hml]; rfl) (Steps.refl _) (argsL := [(.int (46 : Int32))]) (rest := []) (lenOf pd_5 rfl) rfl (by show 2 * 0 + _ ≤ _; exact Nat.le_of_eq rfl) (hb hby d_prog_15_method_9_3) (fun _ _ => ⟨rfl, e0, (by decide : 0 + 0 ≤ _), (by decide : 0 + 0 ≤ _)⟩)
  dsimp only [Pt.U, Pt.locs, Pt.cells, Pt.slots] at X18 l18 y18 z18 st18 hQ18
  subst l18 y18 z18
  obtain ⟨rfl, rfl, e18⟩ := hQ18
  replace N0 := Fr.app N0 (Fr.nil n0)
  refine Goes.run (T' := T18) (g' := (mkF m 6 #[.val (.ref a1), .unset] [(.int (if IX cs = cs.length then -1 else Int32.ofNat (IX cs)))])) st18 ?_
  refine Goes.step (T' := T18) (g' := (mkF m 7 #[.val (.ref a1), .val (.int (if IX cs = cs.length then -1 else Int32.ofNat (IX cs)))] [])) (fun _ kz => XS.istoreN X18.here hx rfl (hb hby d_prog_15_method_9_6) rfl (l' := #[.val (.ref a1), .val (.int (if IX cs = cs.length then -1 else Int32.ofNat (IX cs)))]) rfl kz) ?_
  refine Goes.step (T' := T18) (g' := (mkF m 8 #[.val (.ref a1), .val (.int (if IX cs = cs.length then -1 else Int32.ofNat (IX cs)))] [(.int (if IX cs = cs.length then -1 else Int32.ofNat (IX cs)))])) (fun _ kz => XS.iloadN X18.here hx rfl (hb hby d_prog_15_method_9_7) rfl  kz) ?_
  by_cases hc8_19 : (if IX cs = cs.length then -1 else Int32.ofNat (IX cs)) < (0 : Int32)
  ·
    refine Goes.step (T' := T18) (g' := (mkF m 11 #[.val (.ref a1), .val (.int (if IX cs = cs.length then -1 else Int32.ofNat (IX cs)))] [])) (fun _ kz => XS.ifNo X18.here hx rfl (hb hby d_prog_15_method_9_8) rfl ((if0 _ _).trans (tlt hc8_19).2.1) kz) ?_
    refine Goes.step (T' := T18) (g' := (mkF m 12 #[.val (.ref a1), .val (.int (if IX cs = cs.length then -1 else Int32.ofNat (IX cs)))] [(.ref a1)])) (fun _ kz => XS.aloadN X18.here hx rfl (hb hby d_prog_15_method_9_11) rfl rfl kz) ?_
    obtain ⟨cq20, kq20, qa20, qb20, qc20⟩ := isOf hZ e18 E_a1
    obtain ⟨_, _, ⟨T20, L20, k20, n20⟩, -, X20, ⟨Lc20, hQ20, l20, y20, z20⟩, st20⟩ := X18.virtualBack hx (y := (⟨"java/lang/String", "length", "()I"⟩ : MethodName)) (z := (⟨"java/lang/String", "length", "()I"⟩ : MethodName)) hown (mvT hZ (hw _ (List.mem_of_getElem? (i := 78) rfl))) (mvT hZ (hw _ (List.mem_of_getElem? (i := 53) rfl))) (notFace_of_selects (args := #[]) (mvT hZ (hw _ (List.mem_of_getElem? (i := 55) rfl)))) (mvT hZ (hw _ (List.mem_of_getElem? (i := 55) rfl))) (mvT hZ (hw _ (List.mem_of_getElem? (i := 54) rfl))) (by decide) (own_lenW (W := 0) hZ hw (hw _ (List.mem_of_getElem? (i := 14) rfl)) G_a1 (hl) (Scs.ext O0.2) hz_Scs (by decide) (by decide)) qa20 qc20 (g := (mkF m 12 #[.val (.ref a1), .val (.int (if IX cs = cs.length then -1 else Int32.ofNat (IX cs)))] [(.ref a1)])) rfl (by rw [hml]; rfl) (Steps.refl _) (argsL := []) (rest := []) (lenOf pd_4 rfl) rfl (by show 2 * 0 + _ ≤ _; exact Nat.le_of_eq rfl) (hb hby d_prog_15_method_9_12) (fun _ _ => ⟨rfl, e18, (by decide : 0 + 0 ≤ _), (by decide : 0 + 0 ≤ _)⟩)
    dsimp only [Pt.U, Pt.locs, Pt.cells, Pt.slots] at X20 l20 y20 z20 st20 hQ20
    subst l20 y20 z20
    obtain ⟨rfl, rfl, e20⟩ := hQ20
    replace N0 := Fr.app N0 (Fr.nil n0)
    refine Goes.run (T' := T20) (g' := (mkF m 15 #[.val (.ref a1), .val (.int (if IX cs = cs.length then -1 else Int32.ofNat (IX cs)))] [(.int (Int32.ofNat cs.length))])) st20 ?_
    refine Goes.step (T' := T20) (g' := (mkF m 19 #[.val (.ref a1), .val (.int (if IX cs = cs.length then -1 else Int32.ofNat (IX cs)))] [(.int (Int32.ofNat cs.length))])) (fun _ kz => XS.goto X20.here hx rfl (pc0 := 15) (pc' := 19) rfl (hb hby d_prog_15_method_9_15) (by decide) (by decide) kz) ?_
    obtain ⟨fs, hr, hrun, hended, hW, hsame⟩ := X20.leave (v := some (.int (Int32.ofNat cs.length))) (fun h => by rw [Bd.returns] at h; cases h)
    exact ⟨_, _, retOut X20 hx Bd.returns rfl (Or.inl ⟨rfl, Or.inl rfl, _, rfl⟩) (hb hby d_prog_15_method_9_19) hr, hrun, hended, _, _, rfl, (by show Q_ptIx Z a1 cs h0 n0 _ T20.heap _; rw [e20]; exact ⟨(by by_cases q : IX cs = cs.length; rw [q]; rw [if_neg q] at hc8_19; exact absurd hc8_19 (own_nn (by have := IX_le cs; omega))), rfl, rfl⟩), ⟨_, rfl⟩, hW, hsame.mono (by decide) (by decide)⟩
  ·
    refine Goes.step (T' := T18) (g' := (mkF m 18 #[.val (.ref a1), .val (.int (if IX cs = cs.length then -1 else Int32.ofNat (IX cs)))] [])) (fun _ kz => XS.ifYes X18.here hx rfl (pc0 := 8) (pc' := 18) rfl (hb hby d_prog_15_method_9_8) rfl ((if0 _ _).trans (flt hc8_19).2.1) (by decide) (by decide) kz) ?_
    refine Goes.step (T' := T18) (g' := (mkF m 19 #[.val (.ref a1), .val (.int (if IX cs = cs.length then -1 else Int32.ofNat (IX cs)))] [(.int (if IX cs = cs.length then -1 else Int32.ofNat (IX cs)))])) (fun _ kz => XS.iloadN X18.here hx rfl (hb hby d_prog_15_method_9_18) rfl  kz) ?_
    obtain ⟨fs, hr, hrun, hended, hW, hsame⟩ := X18.leave (v := some (.int (if IX cs = cs.length then -1 else Int32.ofNat (IX cs)))) (fun h => by rw [Bd.returns] at h; cases h)
    exact ⟨_, _, retOut X18 hx Bd.returns rfl (Or.inl ⟨rfl, Or.inl rfl, _, rfl⟩) (hb hby d_prog_15_method_9_19) hr, hrun, hended, _, _, rfl, (by show Q_ptIx Z a1 cs h0 n0 _ T18.heap _; rw [e18]; exact ⟨(by by_cases q : IX cs = cs.length; rw [if_pos q] at hc8_19; exact absurd (by decide) hc8_19; rw [if_neg q]), rfl, rfl⟩), ⟨_, rfl⟩, hW, hsame.mono (by decide) (by decide)⟩
theorem d_prog_15_method_3_0 : decode prog_15_method_3_code 0 = .ok (.aload_n 0, 1) := by decide +kernel
theorem d_prog_15_method_3_1 : decode prog_15_method_3_code 1 = .ok (.invokestatic 25, 3) := by decide +kernel
theorem pd_6 : parseMethodDescriptor "(Ljava/lang/String;)I" = some ⟨[(.object "java/lang/String")], some .int⟩ := by decide +kernel
theorem d_prog_15_method_3_4 : decode prog_15_method_3_code 4 = .ok (.istore_n 1, 1) := by decide +kernel
theorem d_prog_15_method_3_5 : decode prog_15_method_3_code 5 = .ok (.iconst 0, 1) := by decide +kernel
theorem d_prog_15_method_3_6 : decode prog_15_method_3_code 6 = .ok (.istore_n 2, 1) := by decide +kernel
theorem d_prog_15_method_3_7 : decode prog_15_method_3_code 7 = .ok (.iload_n 2, 1) := by decide +kernel
theorem d_prog_15_method_3_8 : decode prog_15_method_3_code 8 = .ok (.iload_n 1, 1) := by decide +kernel
theorem d_prog_15_method_3_9 : decode prog_15_method_3_code 9 = .ok (.if_icmp .ge 19, 3) := by decide +kernel
theorem d_prog_15_method_3_28 : decode prog_15_method_3_code 28 = .ok (.iload_n 1, 1) := by decide +kernel
theorem d_prog_15_method_3_29 : decode prog_15_method_3_code 29 = .ok (.iload_n 2, 1) := by decide +kernel
theorem d_prog_15_method_3_30 : decode prog_15_method_3_code 30 = .ok (.isub, 1) := by decide +kernel
theorem d_prog_15_method_3_31 : decode prog_15_method_3_code 31 = .ok (.ireturn, 1) := by decide +kernel
theorem d_prog_15_method_3_12 : decode prog_15_method_3_code 12 = .ok (.aload_n 0, 1) := by decide +kernel
theorem d_prog_15_method_3_13 : decode prog_15_method_3_code 13 = .ok (.iload_n 2, 1) := by decide +kernel
theorem d_prog_15_method_3_14 : decode prog_15_method_3_code 14 = .ok (.invokevirtual 29, 3) := by decide +kernel
theorem pd_7 : parseMethodDescriptor "(I)C" = some ⟨[.int], some .char⟩ := by decide +kernel
theorem d_prog_15_method_3_17 : decode prog_15_method_3_code 17 = .ok (.bipush 48, 2) := by decide +kernel
theorem d_prog_15_method_3_19 : decode prog_15_method_3_code 19 = .ok (.if_icmp .ne 9, 3) := by decide +kernel
theorem d_prog_15_method_3_22 : decode prog_15_method_3_code 22 = .ok (.iinc 2 1, 3) := by decide +kernel
theorem d_prog_15_method_3_25 : decode prog_15_method_3_code 25 = .ok (.goto (-18), 3) := by decide +kernel
theorem ef_intD (m : MethodId) (a1 : Addr) : entryFrame m #[(.ref a1)] 3 = mkF m 0 #[.val (.ref a1), .unset, .unset] [] := by first | (simp [entryFrame, mkF, argsToLocals, Value.category, maxLocals]; done) | rfl
def Q_intD (Z : State) (a1 : Addr) (cs : List Int32) (h0 : Heap) (n0 : Nat) (v : Option Value) (h : Heap) (L : List Loc) : Prop := (v = some (.int (Int32.ofNat (IX cs) - Int32.ofNat (LZ cs)))) ∧ (L = []) ∧ (h = h0)
set_option maxRecDepth 65536 in
set_option maxHeartbeats 40000000 in
theorem rm_intD (l : Launch) (Z : State) (a0 : Array Value) (hw : ∀ d ∈ tables_1, d.before a0 Z = true) (ws : List Jvm.Cond) (a1 : Addr) (cs : List Int32) (h0 : Heap) (n0 : Nat) (O0 : Old Z n0 h0) (zcs : Int32) (Scs : Sta Z Z.heap "java/lang/String" "COMPACT_STRINGS" "Z" (.int zcs)) (hz_Scs : ¬ zcs = 0) (fmt : Value) (Sfm : Sta Z Z.heap "jdk/internal/util/Preconditions" "SIOOBE_FORMATTER" "Ljava/util/function/BiFunction;" fmt) (hz_Sfm : fmt.isRef = true) (E_a1 : Exa Z h0 a1 "java/lang/String") (G_a1 : SX Z h0 a1 cs) (hl : cs.length ≤ 4000) :
    MetFree l (⟨"com/example/tariff/tariff/core/decimal/PlainDecimal", "integerDigits", "(Ljava/lang/String;)I"⟩ : MethodName) (head1 ((Jvm.Cond.code (⟨"com/example/tariff/tariff/core/decimal/PlainDecimal", "integerDigits", "(Ljava/lang/String;)I"⟩ : MethodName) prog_15_method_3_code 3 (some .int)) :: ws) ({ frames := 5, cells := 0, slots := 0, locals := 72 } : Room)) (fun a U => a = #[(.ref a1)] ∧ Z.Warmed39 U.vm ∧ U.heap = h0) (fun _ _ _ _ _ => True) (fun _ U o U' => ∃ v L, o = .returned v ∧ Q_intD Z a1 cs h0 n0 v U'.heap L ∧ FrameEnd U o U' L ({ frames := 5, cells := 0, slots := 0, locals := 72 } : Room).cells ({ frames := 5, cells := 0, slots := 0, locals := 72 } : Room).slots) := by
  refine MetFree.of_bodySF (plainFor_of_name pn_2) hisR ?_
  intro p e s m args below meth c s₁ Bd hml0 hP hK
  obtain ⟨rfl, hZ, hh⟩ := hP
  have hx := Bd.exec
  have hby := Bd.bytes
  have hml : c.maxLocals = 3 := hml0
  have hown : s.vm.findClass "com/example/tariff/tariff/core/decimal/PlainDecimal" = some m.cls := findClass_of_methodNamed Bd.named
  have hnm := (name_of_methodNamed Bd.named Bd.method).1
  have X0 : Stand p l e ({ frames := 5, cells := 0, slots := 0, locals := 72 } : Room) s m #[(.ref a1)] below meth c s₁ [] 0 0 := Stand.of_body Bd
  have e0 : s₁.heap = h0 := by rw [← hh, Bd.state]; rfl
  have N0 := Fr.nil n0
  have K0 : Keep h0 h0 [] := Keep.refl _ _
  suffices hG : Goes p e below (fun o U' => ∃ v L, o = .returned v ∧ Q_intD Z a1 cs h0 n0 v U'.heap L ∧ FrameEnd s o U' L ({ frames := 5, cells := 0, slots := 0, locals := 72 } : Room).cells ({ frames := 5, cells := 0, slots := 0, locals := 72 } : Room).slots) s₁ (mkF m 0 #[.val (.ref a1), .unset, .unset] []) by
    obtain ⟨t, o, h1, h2⟩ := hG; exact ⟨t, o, castTop (ef_intD m a1) h1, h2⟩
  refine Goes.step (T' := s₁) (g' := (mkF m 1 #[.val (.ref a1), .unset, .unset] [(.ref a1)])) (fun _ kz => XS.aloadN X0.here hx rfl (hb hby d_prog_15_method_3_0) rfl rfl kz) ?_
  obtain ⟨_, _, ⟨T21, L21, k21, n21⟩, -, X21, ⟨Lc21, hQ21, l21, y21, z21⟩, st21⟩ := Jvm.LawKit.callS X0 hx (y := (⟨"com/example/tariff/tariff/core/decimal/PlainDecimal", "pointIndex", "(Ljava/lang/String;)I"⟩ : MethodName)) hown (mvT hZ (hw _ (List.mem_of_getElem? (i := 34) rfl))) (mvT hZ (hw _ (List.mem_of_getElem? (i := 35) rfl))) (mvT hZ (hw _ (List.mem_of_getElem? (i := 32) rfl))) (mvT hZ (hw _ (List.mem_of_getElem? (i := 36) rfl))) (by decide) (backOf (W := 0) (rm_ptIx l Z a0 hw [] a1 (cs) h0 n0 O0 zcs Scs hz_Scs E_a1 G_a1 (by first | assumption | decide)) hZ (hw _ (List.mem_of_getElem? (i := 36) rfl)) (hw _ (List.mem_of_getElem? (i := 32) rfl)) (by decide) (by decide)) (g := (mkF m 1 #[.val (.ref a1), .unset, .unset] [(.ref a1)])) rfl (by rw [hml]; rfl) (argsL := [(.ref a1)]) (rest := []) (lenOf pd_6 rfl) rfl (by show 2 * 0 + _ ≤ _; exact Nat.le_of_eq rfl) (hb hby d_prog_15_method_3_1) (fun _ _ => ⟨rfl, e0, (by decide : 0 + 0 ≤ _), (by decide : 0 + 0 ≤ _)⟩)
  dsimp only [Pt.U, Pt.locs, Pt.cells, Pt.slots] at X21 l21 y21 z21 st21 hQ21
  subst l21 y21 z21
  obtain ⟨rfl, rfl, e21⟩ := hQ21
  replace N0 := Fr.app N0 (Fr.nil n0)
  refine Goes.step (T' := T21) (g' := (mkF m 4 #[.val (.ref a1), .unset, .unset] [(.int (Int32.ofNat (IX cs)))])) st21 ?_
  refine Goes.step (T' := T21) (g' := (mkF m 5 #[.val (.ref a1), .val (.int (Int32.ofNat (IX cs))), .unset] [])) (fun _ kz => XS.istoreN X21.here hx rfl (hb hby d_prog_15_method_3_4) rfl (l' := #[.val (.ref a1), .val (.int (Int32.ofNat (IX cs))), .unset]) rfl kz) ?_
  refine Goes.step (T' := T21) (g' := (mkF m 6 #[.val (.ref a1), .val (.int (Int32.ofNat (IX cs))), .unset] [(.int (0 : Int32))])) (fun _ kz => XS.iconst X21.here hx rfl (hb hby d_prog_15_method_3_5) kz) ?_
  refine Goes.step (T' := T21) (g' := (mkF m 7 #[.val (.ref a1), .val (.int (Int32.ofNat (IX cs))), .val (.int (0 : Int32))] [])) (fun _ kz => XS.istoreN X21.here hx rfl (hb hby d_prog_15_method_3_6) rfl (l' := #[.val (.ref a1), .val (.int (Int32.ofNat (IX cs))), .val (.int (0 : Int32))]) rfl kz) ?_
  have hIl := IX_le cs
  have hLI := LZ_le cs
  have loop : ∀ (k i : Nat) (TL : State) (XL : Stand p l e ({ frames := 5, cells := 0, slots := 0, locals := 72 } : Room) s m #[(.ref a1)] below meth c TL [] 0 0) (eL : TL.heap = h0), i + k = IX cs → LZ cs = i + LZ (cs.drop i) → Goes p e below (fun o U' => ∃ v L, o = .returned v ∧ Q_intD Z a1 cs h0 n0 v U'.heap L ∧ FrameEnd s o U' L ({ frames := 5, cells := 0, slots := 0, locals := 72 } : Room).cells ({ frames := 5, cells := 0, slots := 0, locals := 72 } : Room).slots) TL (mkF m 7 #[.val (.ref a1), .val (.int (Int32.ofNat (IX cs))), .val (.int (Int32.ofNat i))] []) := by
    intro k; induction k with
    | zero =>
      intro i TL XL eL hik hlz
      refine Goes.step (T' := TL) (g' := (mkF m 8 #[.val (.ref a1), .val (.int (Int32.ofNat (IX cs))), .val (.int (Int32.ofNat i))] [(.int (Int32.ofNat i))])) (fun _ kz => XS.iloadN XL.here hx rfl (hb hby d_prog_15_method_3_7) rfl  kz) ?_
      refine Goes.step (T' := TL) (g' := (mkF m 9 #[.val (.ref a1), .val (.int (Int32.ofNat (IX cs))), .val (.int (Int32.ofNat i))] [(.int (Int32.ofNat (IX cs))), (.int (Int32.ofNat i))])) (fun _ kz => XS.iloadN XL.here hx rfl (hb hby d_prog_15_method_3_8) rfl  kz) ?_
      refine Goes.step (T' := TL) (g' := (mkF m 28 #[.val (.ref a1), .val (.int (Int32.ofNat (IX cs))), .val (.int (Int32.ofNat i))] [])) (fun _ kz => XS.icmpYes XL.here hx rfl (pc0 := 9) (pc' := 28) rfl (hb hby d_prog_15_method_3_9) rfl (flt (fun q => absurd ((own_lt (by omega) (by omega)).mp q) (by omega) : ¬ Int32.ofNat i < Int32.ofNat (IX cs))).2.1 (by decide) (by decide) kz) ?_
      refine Goes.step (T' := TL) (g' := (mkF m 29 #[.val (.ref a1), .val (.int (Int32.ofNat (IX cs))), .val (.int (Int32.ofNat i))] [(.int (Int32.ofNat (IX cs)))])) (fun _ kz => XS.iloadN XL.here hx rfl (hb hby d_prog_15_method_3_28) rfl  kz) ?_
      refine Goes.step (T' := TL) (g' := (mkF m 30 #[.val (.ref a1), .val (.int (Int32.ofNat (IX cs))), .val (.int (Int32.ofNat i))] [(.int (Int32.ofNat i)), (.int (Int32.ofNat (IX cs)))])) (fun _ kz => XS.iloadN XL.here hx rfl (hb hby d_prog_15_method_3_29) rfl  kz) ?_
      refine Goes.step (T' := TL) (g' := (mkF m 31 #[.val (.ref a1), .val (.int (Int32.ofNat (IX cs))), .val (.int (Int32.ofNat i))] [(.int ((Int32.ofNat (IX cs)) - (Int32.ofNat i)))])) (fun _ kz => XS.isub XL.here hx rfl (hb hby d_prog_15_method_3_30) rfl kz) ?_
      obtain ⟨fs, hr, hrun, hended, hW, hsame⟩ := XL.leave (v := some (.int ((Int32.ofNat (IX cs)) - (Int32.ofNat i)))) (fun h => by rw [Bd.returns] at h; cases h)
      exact ⟨_, _, retOut XL hx Bd.returns rfl (Or.inl ⟨rfl, Or.inl rfl, _, rfl⟩) (hb hby d_prog_15_method_3_31) hr, hrun, hended, _, _, rfl, (by show Q_intD Z a1 cs h0 n0 _ TL.heap _; rw [eL]; exact ⟨(by rw [show LZ cs = i by omega]), rfl, rfl⟩), ⟨_, rfl⟩, hW, hsame.mono (by decide) (by decide)⟩
    | succ k ih =>
      intro i TL XL eL hik hlz
      have hi : i < cs.length := by omega
      have hd := LZ_drop hi
      refine Goes.step (T' := TL) (g' := (mkF m 8 #[.val (.ref a1), .val (.int (Int32.ofNat (IX cs))), .val (.int (Int32.ofNat i))] [(.int (Int32.ofNat i))])) (fun _ kz => XS.iloadN XL.here hx rfl (hb hby d_prog_15_method_3_7) rfl  kz) ?_
      refine Goes.step (T' := TL) (g' := (mkF m 9 #[.val (.ref a1), .val (.int (Int32.ofNat (IX cs))), .val (.int (Int32.ofNat i))] [(.int (Int32.ofNat (IX cs))), (.int (Int32.ofNat i))])) (fun _ kz => XS.iloadN XL.here hx rfl (hb hby d_prog_15_method_3_8) rfl  kz) ?_
      refine Goes.step (T' := TL) (g' := (mkF m 12 #[.val (.ref a1), .val (.int (Int32.ofNat (IX cs))), .val (.int (Int32.ofNat i))] [])) (fun _ kz => XS.icmpNo XL.here hx rfl (hb hby d_prog_15_method_3_9) rfl (tlt ((own_lt (by omega) (by omega)).mpr (by omega))).2.1 kz) ?_
      refine Goes.step (T' := TL) (g' := (mkF m 13 #[.val (.ref a1), .val (.int (Int32.ofNat (IX cs))), .val (.int (Int32.ofNat i))] [(.ref a1)])) (fun _ kz => XS.aloadN XL.here hx rfl (hb hby d_prog_15_method_3_12) rfl rfl kz) ?_
      refine Goes.step (T' := TL) (g' := (mkF m 14 #[.val (.ref a1), .val (.int (Int32.ofNat (IX cs))), .val (.int (Int32.ofNat i))] [(.int (Int32.ofNat i)), (.ref a1)])) (fun _ kz => XS.iloadN XL.here hx rfl (hb hby d_prog_15_method_3_13) rfl  kz) ?_
      obtain ⟨cq22, kq22, qa22, qb22, qc22⟩ := isOf hZ eL E_a1
      obtain ⟨_, _, ⟨T22, L22, k22, n22⟩, -, X22, ⟨Lc22, hQ22, l22, y22, z22⟩, st22⟩ := XL.virtualBack hx (y := (⟨"java/lang/String", "charAt", "(I)C"⟩ : MethodName)) (z := (⟨"java/lang/String", "charAt", "(I)C"⟩ : MethodName)) hown (mvT hZ (hw _ (List.mem_of_getElem? (i := 79) rfl))) (mvT hZ (hw _ (List.mem_of_getElem? (i := 80) rfl))) (notFace_of_selects (args := #[]) (mvT hZ (hw _ (List.mem_of_getElem? (i := 82) rfl)))) (mvT hZ (hw _ (List.mem_of_getElem? (i := 82) rfl))) (mvT hZ (hw _ (List.mem_of_getElem? (i := 81) rfl))) (by decide) (own_chN (W := 0) hZ hw (hw _ (List.mem_of_getElem? (i := 14) rfl)) G_a1 (hl) (Scs.ext O0.2) hz_Scs (Sfm.ext O0.2) hz_Sfm (i := i) hi rfl (by decide) (by decide)) qa22 qc22 (g := (mkF m 14 #[.val (.ref a1), .val (.int (Int32.ofNat (IX cs))), .val (.int (Int32.ofNat i))] [(.int (Int32.ofNat i)), (.ref a1)])) rfl (by rw [hml]; rfl) (Steps.refl _) (argsL := [(.int (Int32.ofNat i))]) (rest := []) (lenOf pd_7 rfl) rfl (by show 2 * 0 + _ ≤ _; exact Nat.le_of_eq rfl) (hb hby d_prog_15_method_3_14) (fun _ _ => ⟨rfl, eL, (by decide : 0 + 0 ≤ _), (by decide : 0 + 0 ≤ _)⟩)
      dsimp only [Pt.U, Pt.locs, Pt.cells, Pt.slots] at X22 l22 y22 z22 st22 hQ22
      subst l22 y22 z22
      obtain ⟨rfl, rfl, e22⟩ := hQ22
      replace N0 := Fr.app N0 (Fr.nil n0)
      refine Goes.run (T' := T22) (g' := (mkF m 17 #[.val (.ref a1), .val (.int (Int32.ofNat (IX cs))), .val (.int (Int32.ofNat i))] [(.int (cs.getD i 0))])) st22 ?_
      refine Goes.step (T' := T22) (g' := (mkF m 19 #[.val (.ref a1), .val (.int (Int32.ofNat (IX cs))), .val (.int (Int32.ofNat i))] [(.int (48 : Int32)), (.int (cs.getD i 0))])) (fun _ kz => XS.bipush X22.here hx rfl (hb hby d_prog_15_method_3_17) kz) ?_
      by_cases hc19_23 : (cs.getD i 0) = (48 : Int32)
      ·
        refine Goes.step (T' := T22) (g' := (mkF m 22 #[.val (.ref a1), .val (.int (Int32.ofNat (IX cs))), .val (.int (Int32.ofNat i))] [])) (fun _ kz => XS.icmpNo X22.here hx rfl (hb hby d_prog_15_method_3_19) rfl (teq hc19_23).2 kz) ?_
        refine Goes.step (T' := T22) (g' := (mkF m 25 #[.val (.ref a1), .val (.int (Int32.ofNat (IX cs))), .val (.int ((Int32.ofNat i) + (1 : Int32)))] [])) (fun _ kz => XS.iinc X22.here hx rfl (hb hby d_prog_15_method_3_22) rfl (l' := #[.val (.ref a1), .val (.int (Int32.ofNat (IX cs))), .val (.int ((Int32.ofNat i) + (1 : Int32)))]) rfl kz) ?_
        refine Goes.step (T' := T22) (g' := (mkF m 7 #[.val (.ref a1), .val (.int (Int32.ofNat (IX cs))), .val (.int ((Int32.ofNat i) + (1 : Int32)))] [])) (fun _ kz => XS.goto X22.here hx rfl (pc0 := 25) (pc' := 7) rfl (hb hby d_prog_15_method_3_25) (by decide) (by decide) kz) ?_
        rw [if_pos hc19_23] at hd
        have hii : Int32.ofNat i + (1 : Int32) = Int32.ofNat (i + 1) := (inc_ofNat i).symm
        rw [hii]
        exact ih (i + 1) _ X22 e22 (by omega) (by omega)
      ·
        refine Goes.step (T' := T22) (g' := (mkF m 28 #[.val (.ref a1), .val (.int (Int32.ofNat (IX cs))), .val (.int (Int32.ofNat i))] [])) (fun _ kz => XS.icmpYes X22.here hx rfl (pc0 := 19) (pc' := 28) rfl (hb hby d_prog_15_method_3_19) rfl (feq hc19_23).2 (by decide) (by decide) kz) ?_
        refine Goes.step (T' := T22) (g' := (mkF m 29 #[.val (.ref a1), .val (.int (Int32.ofNat (IX cs))), .val (.int (Int32.ofNat i))] [(.int (Int32.ofNat (IX cs)))])) (fun _ kz => XS.iloadN X22.here hx rfl (hb hby d_prog_15_method_3_28) rfl  kz) ?_
        refine Goes.step (T' := T22) (g' := (mkF m 30 #[.val (.ref a1), .val (.int (Int32.ofNat (IX cs))), .val (.int (Int32.ofNat i))] [(.int (Int32.ofNat i)), (.int (Int32.ofNat (IX cs)))])) (fun _ kz => XS.iloadN X22.here hx rfl (hb hby d_prog_15_method_3_29) rfl  kz) ?_
        refine Goes.step (T' := T22) (g' := (mkF m 31 #[.val (.ref a1), .val (.int (Int32.ofNat (IX cs))), .val (.int (Int32.ofNat i))] [(.int ((Int32.ofNat (IX cs)) - (Int32.ofNat i)))])) (fun _ kz => XS.isub X22.here hx rfl (hb hby d_prog_15_method_3_30) rfl kz) ?_
        obtain ⟨fs, hr, hrun, hended, hW, hsame⟩ := X22.leave (v := some (.int ((Int32.ofNat (IX cs)) - (Int32.ofNat i)))) (fun h => by rw [Bd.returns] at h; cases h)
        exact ⟨_, _, retOut X22 hx Bd.returns rfl (Or.inl ⟨rfl, Or.inl rfl, _, rfl⟩) (hb hby d_prog_15_method_3_31) hr, hrun, hended, _, _, rfl, (by show Q_intD Z a1 cs h0 n0 _ T22.heap _; rw [e22]; exact ⟨(by rw [if_neg hc19_23] at hd; rw [show LZ cs = i by omega]), rfl, rfl⟩), ⟨_, rfl⟩, hW, hsame.mono (by decide) (by decide)⟩
  exact loop (IX cs) 0 _ X21 e21 (by omega) (by simp)
theorem d_jdk_43_method_3_0 : decode jdk_43_method_3_code 0 = .ok (.iload_n 0, 1) := by decide +kernel
theorem d_jdk_43_method_3_1 : decode jdk_43_method_3_code 1 = .ok (.sipush 255, 3) := by decide +kernel
theorem d_jdk_43_method_3_4 : decode jdk_43_method_3_code 4 = .ok (.if_icmp .gt 7, 3) := by decide +kernel
theorem d_jdk_43_method_3_7 : decode jdk_43_method_3_code 7 = .ok (.iconst 1, 1) := by decide +kernel
theorem d_jdk_43_method_3_8 : decode jdk_43_method_3_code 8 = .ok (.goto 4, 3) := by decide +kernel
theorem d_jdk_43_method_3_12 : decode jdk_43_method_3_code 12 = .ok (.ireturn, 1) := by decide +kernel
theorem ef_canEnc (m : MethodId) (p1 : Int32) : entryFrame m #[(.int p1)] 1 = mkF m 0 #[.val (.int p1)] [] := by first | (simp [entryFrame, mkF, argsToLocals, Value.category, maxLocals]; done) | rfl
def Q_canEnc (Z : State) (p1 : Int32) (h0 : Heap) (n0 : Nat) (v : Option Value) (h : Heap) (L : List Loc) : Prop := (v = some (.int (1 : Int32))) ∧ (L = []) ∧ (h = h0)
set_option maxRecDepth 65536 in
set_option maxHeartbeats 40000000 in
theorem rm_canEnc (l : Launch) (Z : State) (a0 : Array Value) (hw : ∀ d ∈ tables_1, d.before a0 Z = true) (ws : List Jvm.Cond) (p1 : Int32) (h0 : Heap) (n0 : Nat) (O0 : Old Z n0 h0)  (hr1 : ¬ (255 : Int32) < p1) :
    MetFree l (⟨"java/lang/StringLatin1", "canEncode", "(C)Z"⟩ : MethodName) (head1 ((Jvm.Cond.code (⟨"java/lang/StringLatin1", "canEncode", "(C)Z"⟩ : MethodName) jdk_43_method_3_code 1 (some .boolean)) :: ws) ({ frames := 0, cells := 0, slots := 0, locals := 0 } : Room)) (fun a U => a = #[(.int p1)] ∧ Z.Warmed39 U.vm ∧ U.heap = h0) (fun _ _ _ _ _ => True) (fun _ U o U' => ∃ v L, o = .returned v ∧ Q_canEnc Z p1 h0 n0 v U'.heap L ∧ FrameEnd U o U' L ({ frames := 0, cells := 0, slots := 0, locals := 0 } : Room).cells ({ frames := 0, cells := 0, slots := 0, locals := 0 } : Room).slots) := by
  refine MetFree.of_bodySF (plainFor_of_name pn_0) hisR ?_
  intro p e s m args below meth c s₁ Bd hml0 hP hK
  obtain ⟨rfl, hZ, hh⟩ := hP
  have hx := Bd.exec
  have hby := Bd.bytes
  have hml : c.maxLocals = 1 := hml0
  have hown : s.vm.findClass "java/lang/StringLatin1" = some m.cls := findClass_of_methodNamed Bd.named
  have hnm := (name_of_methodNamed Bd.named Bd.method).1
  have X0 : Stand p l e ({ frames := 0, cells := 0, slots := 0, locals := 0 } : Room) s m #[(.int p1)] below meth c s₁ [] 0 0 := Stand.of_body Bd
  have e0 : s₁.heap = h0 := by rw [← hh, Bd.state]; rfl
  have N0 := Fr.nil n0
  have K0 : Keep h0 h0 [] := Keep.refl _ _
  suffices hG : Goes p e below (fun o U' => ∃ v L, o = .returned v ∧ Q_canEnc Z p1 h0 n0 v U'.heap L ∧ FrameEnd s o U' L ({ frames := 0, cells := 0, slots := 0, locals := 0 } : Room).cells ({ frames := 0, cells := 0, slots := 0, locals := 0 } : Room).slots) s₁ (mkF m 0 #[.val (.int p1)] []) by
    obtain ⟨t, o, h1, h2⟩ := hG; exact ⟨t, o, castTop (ef_canEnc m p1) h1, h2⟩
  refine Goes.step (T' := s₁) (g' := (mkF m 1 #[.val (.int p1)] [(.int p1)])) (fun _ kz => XS.iloadN X0.here hx rfl (hb hby d_jdk_43_method_3_0) rfl  kz) ?_
  refine Goes.step (T' := s₁) (g' := (mkF m 4 #[.val (.int p1)] [(.int (255 : Int32)), (.int p1)])) (fun _ kz => XS.sipush X0.here hx rfl (hb hby d_jdk_43_method_3_1) kz) ?_
  refine Goes.step (T' := s₁) (g' := (mkF m 7 #[.val (.int p1)] [])) (fun _ kz => XS.icmpNo X0.here hx rfl (hb hby d_jdk_43_method_3_4) rfl (flt hr1).2.2.1 kz) ?_
  refine Goes.step (T' := s₁) (g' := (mkF m 8 #[.val (.int p1)] [(.int (1 : Int32))])) (fun _ kz => XS.iconst X0.here hx rfl (hb hby d_jdk_43_method_3_7) kz) ?_
  refine Goes.step (T' := s₁) (g' := (mkF m 12 #[.val (.int p1)] [(.int (1 : Int32))])) (fun _ kz => XS.goto X0.here hx rfl (pc0 := 8) (pc' := 12) rfl (hb hby d_jdk_43_method_3_8) (by decide) (by decide) kz) ?_
  obtain ⟨fs, hr, hrun, hended, hW, hsame⟩ := X0.leave (v := some (.int (nar .boolean (1 : Int32)))) (fun h => by rw [Bd.returns] at h; cases h)
  exact ⟨_, _, retN X0 hx (t := .boolean) Bd.returns (by simp) (hb hby d_jdk_43_method_3_12) hr, hrun, hended, _, _, rfl, (by show Q_canEnc Z p1 h0 n0 _ s₁.heap _; rw [e0]; exact ⟨rfl, rfl, rfl⟩), ⟨_, rfl⟩, hW, hsame.mono (by decide) (by decide)⟩
theorem d_jdk_43_method_46_0 : decode jdk_43_method_46_code 0 = .ok (.iconst 1, 1) := by decide +kernel
theorem d_jdk_43_method_46_1 : decode jdk_43_method_46_code 1 = .ok (.newarray .byte, 2) := by decide +kernel
theorem d_jdk_43_method_46_3 : decode jdk_43_method_46_code 3 = .ok (.dup, 1) := by decide +kernel
theorem d_jdk_43_method_46_4 : decode jdk_43_method_46_code 4 = .ok (.iconst 0, 1) := by decide +kernel
theorem d_jdk_43_method_46_5 : decode jdk_43_method_46_code 5 = .ok (.iload_n 0, 1) := by decide +kernel
theorem d_jdk_43_method_46_6 : decode jdk_43_method_46_code 6 = .ok (.i2b, 1) := by decide +kernel
theorem d_jdk_43_method_46_7 : decode jdk_43_method_46_code 7 = .ok (.bastore, 1) := by decide +kernel
theorem d_jdk_43_method_46_8 : decode jdk_43_method_46_code 8 = .ok (.areturn, 1) := by decide +kernel
theorem ef_toBy (m : MethodId) (p1 : Int32) : entryFrame m #[(.int p1)] 1 = mkF m 0 #[.val (.int p1)] [] := by first | (simp [entryFrame, mkF, argsToLocals, Value.category, maxLocals]; done) | rfl
def Q_toBy (Z : State) (p1 : Int32) (h0 : Heap) (n0 : Nat) (v : Option Value) (h : Heap) (L : List Loc) : Prop := ∃ t : Addr, ∃ kt : ClassId, (v = some (.ref t)) ∧ (Fr n0 L) ∧ (Keep h0 h []) ∧ (h0.size ≤ t) ∧ (Arv Z h t kt .byte (1 : Int32) [(.int (p1.toInt8.toInt32).toInt8.toInt32)] (.int (0 : Int32)))
set_option maxRecDepth 65536 in
set_option maxHeartbeats 40000000 in
theorem rm_toBy (l : Launch) (Z : State) (a0 : Array Value) (hw : ∀ d ∈ tables_1, d.before a0 Z = true) (ws : List Jvm.Cond) (p1 : Int32) (h0 : Heap) (n0 : Nat) (O0 : Old Z n0 h0)   :
    MetFree l (⟨"java/lang/StringLatin1", "toBytes", "(C)[B"⟩ : MethodName) (head1 ((Jvm.Cond.code (⟨"java/lang/StringLatin1", "toBytes", "(C)[B"⟩ : MethodName) jdk_43_method_46_code 1 (some (.array .byte))) :: ws) ({ frames := 0, cells := 1, slots := 1, locals := 0 } : Room)) (fun a U => a = #[(.int p1)] ∧ Z.Warmed39 U.vm ∧ U.heap = h0) (fun _ _ _ _ _ => True) (fun _ U o U' => ∃ v L, o = .returned v ∧ Q_toBy Z p1 h0 n0 v U'.heap L ∧ FrameEnd U o U' L ({ frames := 0, cells := 1, slots := 1, locals := 0 } : Room).cells ({ frames := 0, cells := 1, slots := 1, locals := 0 } : Room).slots) := by
  refine MetFree.of_bodySF (plainFor_of_name pn_0) hisR ?_
  intro p e s m args below meth c s₁ Bd hml0 hP hK
  obtain ⟨rfl, hZ, hh⟩ := hP
  have hx := Bd.exec
  have hby := Bd.bytes
  have hml : c.maxLocals = 1 := hml0
  have hown : s.vm.findClass "java/lang/StringLatin1" = some m.cls := findClass_of_methodNamed Bd.named
  have hnm := (name_of_methodNamed Bd.named Bd.method).1
  have X0 : Stand p l e ({ frames := 0, cells := 1, slots := 1, locals := 0 } : Room) s m #[(.int p1)] below meth c s₁ [] 0 0 := Stand.of_body Bd
  have e0 : s₁.heap = h0 := by rw [← hh, Bd.state]; rfl
  have N0 := Fr.nil n0
  have K0 : Keep h0 h0 [] := Keep.refl _ _
  suffices hG : Goes p e below (fun o U' => ∃ v L, o = .returned v ∧ Q_toBy Z p1 h0 n0 v U'.heap L ∧ FrameEnd s o U' L ({ frames := 0, cells := 1, slots := 1, locals := 0 } : Room).cells ({ frames := 0, cells := 1, slots := 1, locals := 0 } : Room).slots) s₁ (mkF m 0 #[.val (.int p1)] []) by
    obtain ⟨t, o, h1, h2⟩ := hG; exact ⟨t, o, castTop (ef_toBy m p1) h1, h2⟩
  refine Goes.step (T' := s₁) (g' := (mkF m 1 #[.val (.int p1)] [(.int (1 : Int32))])) (fun _ kz => XS.iconst X0.here hx rfl (hb hby d_jdk_43_method_46_0) kz) ?_
  obtain ⟨T24, h24, kc24, X24, e24, Ex24, A24, st24⟩ := newP X0 hx hZ (hw _ (List.mem_of_getElem? (i := 18) rfl)) e0 (g := (mkF m 1 #[.val (.int p1)] [(.int (1 : Int32))])) rfl (hb hby d_jdk_43_method_46_1) rfl (by decide) (cap := 1) (by decide) (by decide) (by decide) (by decide)
  obtain ⟨b24, gg24⟩ : ∃ z, z = h0.size := ⟨_, rfl⟩
  rw [← gg24] at A24 st24
  have g_b24 : n0 ≤ b24 := Nat.le_trans (own_n0 O0) (Nat.le_of_eq gg24.symm)
  have sz_b24 : h0.size ≤ b24 := Nat.le_trans K0.1 (Nat.le_of_eq gg24.symm)
  replace O0 := O0.ext Ex24
  replace K0 := K0.ext Ex24
  have V_b24 : Arv Z h24 b24 kc24 .byte (1 : Int32) [(.int (0 : Int32))] (.int (0 : Int32)) := (Arv.new A24 (by decide)).pad (pad_rep [] (.int (0 : Int32)) 1)
  refine Goes.step (T' := T24) (g' := (mkF m 3 #[.val (.int p1)] [(.ref b24)])) st24 ?_
  refine Goes.step (T' := T24) (g' := (mkF m 4 #[.val (.int p1)] [(.ref b24), (.ref b24)])) (fun _ kz => XS.dup X24.here hx rfl (hb hby d_jdk_43_method_46_3) rfl rfl kz) ?_
  refine Goes.step (T' := T24) (g' := (mkF m 5 #[.val (.int p1)] [(.int (0 : Int32)), (.ref b24), (.ref b24)])) (fun _ kz => XS.iconst X24.here hx rfl (hb hby d_jdk_43_method_46_4) kz) ?_
  refine Goes.step (T' := T24) (g' := (mkF m 6 #[.val (.int p1)] [(.int p1), (.int (0 : Int32)), (.ref b24), (.ref b24)])) (fun _ kz => XS.iloadN X24.here hx rfl (hb hby d_jdk_43_method_46_5) rfl  kz) ?_
  refine Goes.step (T' := T24) (g' := (mkF m 7 #[.val (.int p1)] [(.int (p1.toInt8.toInt32)), (.int (0 : Int32)), (.ref b24), (.ref b24)])) (fun _ kz => XS.i2b X24.here hx rfl (hb hby d_jdk_43_method_46_6) rfl kz) ?_
  obtain ⟨cl25, Ar25, q25, Sz25, Nn25, Hs25, Gs25⟩ := (id V_b24 : Arv Z h24 b24 kc24 .byte (1 : Int32) [(.int (0 : Int32))] (.int (0 : Int32)))
  obtain ⟨T25, h25, X25, e25, W25, st25⟩ := stB X24 hx hZ e24 Ar25 (j := (0 : Int32)) (inb_of Sz25 ⟨by decide, by decide⟩) (g := (mkF m 7 #[.val (.int p1)] [(.int (p1.toInt8.toInt32)), (.int (0 : Int32)), (.ref b24), (.ref b24)])) rfl rfl (hb hby d_jdk_43_method_46_7)
  replace V_b24 : Arv Z h25 b24 kc24 .byte (1 : Int32) [(.int ((p1.toInt8.toInt32)).toInt8.toInt32)] (.int (0 : Int32)) := Arv.set Ar25 q25 Sz25 Nn25 Hs25 Gs25 (fits_nar_byte _) W25 0 rfl (Nat.le_of_ble_eq_true rfl)
  replace N0 := Fr.snoc X25 N0 g_b24
  replace O0 := O0.wr W25 g_b24
  replace K0 := K0.wr W25 (Or.inr sz_b24)
  refine Goes.step (T' := T25) (g' := (mkF m 8 #[.val (.int p1)] [(.ref b24)])) st25 ?_
  obtain ⟨fs, hr, hrun, hended, hW, hsame⟩ := X25.leave (v := some (.ref b24)) (fun h => by rw [Bd.returns] at h; cases h)
  exact ⟨_, _, retOut X25 hx Bd.returns rfl (Or.inr (Or.inr (Or.inr (Or.inr ⟨rfl, rfl, rfl⟩)))) (hb hby d_jdk_43_method_46_8) hr, hrun, hended, _, _, rfl, (by show Q_toBy Z p1 h0 n0 _ T25.heap _; rw [e25]; exact ⟨b24, kc24, rfl, N0, K0, sz_b24, V_b24⟩), ⟨_, rfl⟩, hW, hsame.mono (by decide) (by decide)⟩
theorem d_jdk_42_method_151_0 : decode jdk_42_method_151_code 0 = .ok (.aload_n 0, 1) := by decide +kernel
theorem d_jdk_42_method_151_1 : decode jdk_42_method_151_code 1 = .ok (.invokespecial 1, 3) := by decide +kernel
theorem d_jdk_42_method_151_4 : decode jdk_42_method_151_code 4 = .ok (.aload_n 0, 1) := by decide +kernel
theorem d_jdk_42_method_151_5 : decode jdk_42_method_151_code 5 = .ok (.aload_n 1, 1) := by decide +kernel
theorem d_jdk_42_method_151_6 : decode jdk_42_method_151_code 6 = .ok (.putfield 9, 3) := by decide +kernel
theorem d_jdk_42_method_151_9 : decode jdk_42_method_151_code 9 = .ok (.aload_n 0, 1) := by decide +kernel
theorem d_jdk_42_method_151_10 : decode jdk_42_method_151_code 10 = .ok (.iload_n 2, 1) := by decide +kernel
theorem d_jdk_42_method_151_11 : decode jdk_42_method_151_code 11 = .ok (.putfield 15, 3) := by decide +kernel
theorem d_jdk_42_method_151_14 : decode jdk_42_method_151_code 14 = .ok (.return_, 1) := by decide +kernel
theorem ef_initBB (m : MethodId) (a1 : Addr) (a2 : Addr) : entryFrame m #[(.ref a1), (.ref a2), (.int (0 : Int32))] 3 = mkF m 0 #[.val (.ref a1), .val (.ref a2), .val (.int (0 : Int32))] [] := by first | (simp [entryFrame, mkF, argsToLocals, Value.category, maxLocals]; done) | rfl
def Q_initBB (Z : State) (a1 : Addr) (a2 : Addr) (h0 : Heap) (n0 : Nat) (v : Option Value) (h : Heap) (L : List Loc) : Prop := (v = none) ∧ (Fr n0 L) ∧ (Keep h0 h [a1]) ∧ (Exa Z h a1 "java/lang/String") ∧ (Fld Z h a1 "java/lang/String" "value" "[B" (.ref a2)) ∧ (Fld Z h a1 "java/lang/String" "coder" "B" (.int (0 : Int32)))
set_option maxRecDepth 65536 in
set_option maxHeartbeats 40000000 in
theorem rm_initBB (l : Launch) (Z : State) (a0 : Array Value) (hw : ∀ d ∈ tables_1, d.before a0 Z = true) (ws : List Jvm.Cond) (a1 : Addr) (a2 : Addr) (h0 : Heap) (n0 : Nat) (O0 : Old Z n0 h0)  (E_a1 : Exa Z h0 a1 "java/lang/String") (F_a1_value : Fld Z h0 a1 "java/lang/String" "value" "[B" .null) (F_a1_coder : Fld Z h0 a1 "java/lang/String" "coder" "B" (.int (0 : Int32))) (g_a1 : n0 ≤ a1) :
    MetFree l (⟨"java/lang/String", "<init>", "([BB)V"⟩ : MethodName) (head1 ((Jvm.Cond.code (⟨"java/lang/String", "<init>", "([BB)V"⟩ : MethodName) jdk_42_method_151_code 3 none) :: ws) ({ frames := 1, cells := 0, slots := 0, locals := 12 } : Room)) (fun a U => a = #[(.ref a1), (.ref a2), (.int (0 : Int32))] ∧ Z.Warmed39 U.vm ∧ U.heap = h0) (fun _ _ _ _ _ => True) (fun _ U o U' => ∃ v L, o = .returned v ∧ Q_initBB Z a1 a2 h0 n0 v U'.heap L ∧ FrameEnd U o U' L ({ frames := 1, cells := 0, slots := 0, locals := 12 } : Room).cells ({ frames := 1, cells := 0, slots := 0, locals := 12 } : Room).slots) := by
  refine MetFree.of_bodySF (plainFor_of_name pn_1) hisR ?_
  intro p e s m args below meth c s₁ Bd hml0 hP hK
  obtain ⟨rfl, hZ, hh⟩ := hP
  have hx := Bd.exec
  have hby := Bd.bytes
  have hml : c.maxLocals = 3 := hml0
  have hown : s.vm.findClass "java/lang/String" = some m.cls := findClass_of_methodNamed Bd.named
  have hnm := (name_of_methodNamed Bd.named Bd.method).1
  have X0 : Stand p l e ({ frames := 1, cells := 0, slots := 0, locals := 12 } : Room) s m #[(.ref a1), (.ref a2), (.int (0 : Int32))] below meth c s₁ [] 0 0 := Stand.of_body Bd
  have e0 : s₁.heap = h0 := by rw [← hh, Bd.state]; rfl
  have N0 := Fr.nil n0
  have K0 : Keep h0 h0 [a1] := Keep.refl _ _
  suffices hG : Goes p e below (fun o U' => ∃ v L, o = .returned v ∧ Q_initBB Z a1 a2 h0 n0 v U'.heap L ∧ FrameEnd s o U' L ({ frames := 1, cells := 0, slots := 0, locals := 12 } : Room).cells ({ frames := 1, cells := 0, slots := 0, locals := 12 } : Room).slots) s₁ (mkF m 0 #[.val (.ref a1), .val (.ref a2), .val (.int (0 : Int32))] []) by
    obtain ⟨t, o, h1, h2⟩ := hG; exact ⟨t, o, castTop (ef_initBB m a1 a2) h1, h2⟩
  refine Goes.step (T' := s₁) (g' := (mkF m 1 #[.val (.ref a1), .val (.ref a2), .val (.int (0 : Int32))] [(.ref a1)])) (fun _ kz => XS.aloadN X0.here hx rfl (hb hby d_jdk_42_method_151_0) rfl rfl kz) ?_
  obtain ⟨T26, X26, e26, st26⟩ := initO X0 hx hZ hown (hw _ (List.mem_of_getElem? (i := 23) rfl)) (hw _ (List.mem_of_getElem? (i := 24) rfl)) (hw _ (List.mem_of_getElem? (i := 25) rfl)) e0 (g := (mkF m 1 #[.val (.ref a1), .val (.ref a2), .val (.int (0 : Int32))] [(.ref a1)])) rfl (by rw [hml]; rfl) rfl (hb hby d_jdk_42_method_151_1) (by decide) (W := 0) (by show 2 * 0 + _ ≤ _; exact Nat.le_of_eq rfl) (by decide)
  refine Goes.step (T' := T26) (g' := (mkF m 4 #[.val (.ref a1), .val (.ref a2), .val (.int (0 : Int32))] [])) st26 ?_
  refine Goes.step (T' := T26) (g' := (mkF m 5 #[.val (.ref a1), .val (.ref a2), .val (.int (0 : Int32))] [(.ref a1)])) (fun _ kz => XS.aloadN X26.here hx rfl (hb hby d_jdk_42_method_151_4) rfl rfl kz) ?_
  refine Goes.step (T' := T26) (g' := (mkF m 6 #[.val (.ref a1), .val (.ref a2), .val (.int (0 : Int32))] [(.ref a2), (.ref a1)])) (fun _ kz => XS.aloadN X26.here hx rfl (hb hby d_jdk_42_method_151_5) rfl rfl kz) ?_
  obtain ⟨T27, h27, X27, e27, W27, st27⟩ := putF X26 hx hZ hown (host := "") (Or.inl (hw _ (List.mem_of_getElem? (i := 26) rfl))) Via.refl e26 F_a1_value E_a1 (Or.inr ⟨(hw _ (List.mem_of_getElem? (i := 27) rfl)), rfl, hnm⟩) (hw _ (List.mem_of_getElem? (i := 14) rfl)) (ty := (.array .byte)) (by decide) rfl rfl (g := (mkF m 6 #[.val (.ref a1), .val (.ref a2), .val (.int (0 : Int32))] [(.ref a2), (.ref a1)])) rfl rfl (hb hby d_jdk_42_method_151_6)
  replace N0 := Fr.snoc X27 N0 g_a1
  replace E_a1 := E_a1.wr W27
  replace F_a1_value := F_a1_value.same W27
  replace F_a1_coder := F_a1_coder.other W27 (Or.inr (slot_ne (Or.inr (hw _ (List.mem_of_getElem? (i := 29) rfl))) (Or.inr (hw _ (List.mem_of_getElem? (i := 27) rfl))) (by decide) (t := .byte) (t' := (.array .byte)) (by decide) (by decide)))
  replace O0 := O0.wr W27 g_a1
  replace K0 := K0.wr W27 (Or.inl (List.mem_of_getElem? (i := 0) rfl))
  refine Goes.step (T' := T27) (g' := (mkF m 9 #[.val (.ref a1), .val (.ref a2), .val (.int (0 : Int32))] [])) st27 ?_
  refine Goes.step (T' := T27) (g' := (mkF m 10 #[.val (.ref a1), .val (.ref a2), .val (.int (0 : Int32))] [(.ref a1)])) (fun _ kz => XS.aloadN X27.here hx rfl (hb hby d_jdk_42_method_151_9) rfl rfl kz) ?_
  refine Goes.step (T' := T27) (g' := (mkF m 11 #[.val (.ref a1), .val (.ref a2), .val (.int (0 : Int32))] [(.int (0 : Int32)), (.ref a1)])) (fun _ kz => XS.iloadN X27.here hx rfl (hb hby d_jdk_42_method_151_10) rfl  kz) ?_
  obtain ⟨T28, h28, X28, e28, W28, st28⟩ := putF X27 hx hZ hown (host := "") (Or.inl (hw _ (List.mem_of_getElem? (i := 28) rfl))) Via.refl e27 F_a1_coder E_a1 (Or.inr ⟨(hw _ (List.mem_of_getElem? (i := 29) rfl)), rfl, hnm⟩) (hw _ (List.mem_of_getElem? (i := 14) rfl)) (ty := .byte) (by decide) rfl rfl (g := (mkF m 11 #[.val (.ref a1), .val (.ref a2), .val (.int (0 : Int32))] [(.int (0 : Int32)), (.ref a1)])) rfl rfl (hb hby d_jdk_42_method_151_11)
  replace N0 := Fr.snoc X28 N0 g_a1
  replace E_a1 := E_a1.wr W28
  replace F_a1_value := F_a1_value.other W28 (Or.inr (slot_ne (Or.inr (hw _ (List.mem_of_getElem? (i := 27) rfl))) (Or.inr (hw _ (List.mem_of_getElem? (i := 29) rfl))) (by decide) (t := (.array .byte)) (t' := .byte) (by decide) (by decide)))
  replace F_a1_coder := F_a1_coder.same W28
  replace O0 := O0.wr W28 g_a1
  replace K0 := K0.wr W28 (Or.inl (List.mem_of_getElem? (i := 0) rfl))
  refine Goes.step (T' := T28) (g' := (mkF m 14 #[.val (.ref a1), .val (.ref a2), .val (.int (0 : Int32))] [])) st28 ?_
  obtain ⟨fs, hr, hrun, hended, hW, hsame⟩ := X28.leave (v := none) (fun _ => rfl)
  exact ⟨_, _, X28.returnOut hx Bd.returns (hb hby d_jdk_42_method_151_14) hr, hrun, hended, _, _, rfl, (by show Q_initBB Z a1 a2 h0 n0 _ T28.heap _; rw [e28]; exact ⟨rfl, N0, K0, E_a1, F_a1_value, F_a1_coder⟩), ⟨_, rfl⟩, hW, hsame.mono (by decide) (by decide)⟩
theorem d_jdk_42_method_139_0 : decode jdk_42_method_139_code 0 = .ok (.getstatic 38, 3) := by decide +kernel
theorem d_jdk_42_method_139_3 : decode jdk_42_method_139_code 3 = .ok (.ifCond .eq 23, 3) := by decide +kernel
theorem d_jdk_42_method_139_6 : decode jdk_42_method_139_code 6 = .ok (.iload_n 0, 1) := by decide +kernel
theorem d_jdk_42_method_139_7 : decode jdk_42_method_139_code 7 = .ok (.invokestatic 1015, 3) := by decide +kernel
theorem pd_8 : parseMethodDescriptor "(C)Z" = some ⟨[.char], some .boolean⟩ := by decide +kernel
theorem d_jdk_42_method_139_10 : decode jdk_42_method_139_code 10 = .ok (.ifCond .eq 16, 3) := by decide +kernel
theorem d_jdk_42_method_139_13 : decode jdk_42_method_139_code 13 = .ok (.new 10, 3) := by decide +kernel
theorem d_jdk_42_method_139_16 : decode jdk_42_method_139_code 16 = .ok (.dup, 1) := by decide +kernel
theorem d_jdk_42_method_139_17 : decode jdk_42_method_139_code 17 = .ok (.iload_n 0, 1) := by decide +kernel
theorem d_jdk_42_method_139_18 : decode jdk_42_method_139_code 18 = .ok (.invokestatic 1018, 3) := by decide +kernel
theorem pd_9 : parseMethodDescriptor "(C)[B" = some ⟨[.char], some (.array .byte)⟩ := by decide +kernel
theorem d_jdk_42_method_139_21 : decode jdk_42_method_139_code 21 = .ok (.iconst 0, 1) := by decide +kernel
theorem d_jdk_42_method_139_22 : decode jdk_42_method_139_code 22 = .ok (.invokespecial 209, 3) := by decide +kernel
theorem pd_10 : parseMethodDescriptor "([BB)V" = some ⟨[(.array .byte), .byte], none⟩ := by decide +kernel
theorem d_jdk_42_method_139_25 : decode jdk_42_method_139_code 25 = .ok (.areturn, 1) := by decide +kernel
theorem ef_valueOfC (m : MethodId) (p1 : Int32) : entryFrame m #[(.int p1)] 1 = mkF m 0 #[.val (.int p1)] [] := by first | (simp [entryFrame, mkF, argsToLocals, Value.category, maxLocals]; done) | rfl
def Q_valueOfC (Z : State) (p1 : Int32) (h0 : Heap) (n0 : Nat) (v : Option Value) (h : Heap) (L : List Loc) : Prop := ∃ b : Addr, ∃ t : Addr, ∃ kt : ClassId, (v = some (.ref b)) ∧ (Fr n0 L) ∧ (Keep h0 h []) ∧ (h0.size ≤ b) ∧ (h0.size ≤ t) ∧ (Exa Z h b "java/lang/String") ∧ (Fld Z h b "java/lang/String" "value" "[B" (.ref t)) ∧ (Fld Z h b "java/lang/String" "coder" "B" (.int (0 : Int32))) ∧ (Arv Z h t kt .byte (1 : Int32) [(.int (p1.toInt8.toInt32).toInt8.toInt32)] (.int (0 : Int32)))
set_option maxRecDepth 65536 in
set_option maxHeartbeats 40000000 in
theorem rm_valueOfC (l : Launch) (Z : State) (a0 : Array Value) (hw : ∀ d ∈ tables_1, d.before a0 Z = true) (ws : List Jvm.Cond) (p1 : Int32) (h0 : Heap) (n0 : Nat) (O0 : Old Z n0 h0) (zcs : Int32) (Scs : Sta Z Z.heap "java/lang/String" "COMPACT_STRINGS" "Z" (.int zcs)) (hz_Scs : ¬ zcs = 0) (hr1 : ¬ (255 : Int32) < p1) :
    MetFree l (⟨"java/lang/String", "valueOf", "(C)Ljava/lang/String;"⟩ : MethodName) (head1 ((Jvm.Cond.code (⟨"java/lang/String", "valueOf", "(C)Ljava/lang/String;"⟩ : MethodName) jdk_42_method_139_code 1 (some (.object "java/lang/String"))) :: ws) ({ frames := 2, cells := 2, slots := 5, locals := 27 } : Room)) (fun a U => a = #[(.int p1)] ∧ Z.Warmed39 U.vm ∧ U.heap = h0) (fun _ _ _ _ _ => True) (fun _ U o U' => ∃ v L, o = .returned v ∧ Q_valueOfC Z p1 h0 n0 v U'.heap L ∧ FrameEnd U o U' L ({ frames := 2, cells := 2, slots := 5, locals := 27 } : Room).cells ({ frames := 2, cells := 2, slots := 5, locals := 27 } : Room).slots) := by
  refine MetFree.of_bodySF (plainFor_of_name pn_1) hisR ?_
  intro p e s m args below meth c s₁ Bd hml0 hP hK
  obtain ⟨rfl, hZ, hh⟩ := hP
  have hx := Bd.exec
  have hby := Bd.bytes
  have hml : c.maxLocals = 1 := hml0
  have hown : s.vm.findClass "java/lang/String" = some m.cls := findClass_of_methodNamed Bd.named
  have hnm := (name_of_methodNamed Bd.named Bd.method).1
  have X0 : Stand p l e ({ frames := 2, cells := 2, slots := 5, locals := 27 } : Room) s m #[(.int p1)] below meth c s₁ [] 0 0 := Stand.of_body Bd
  have e0 : s₁.heap = h0 := by rw [← hh, Bd.state]; rfl
  have N0 := Fr.nil n0
  have K0 : Keep h0 h0 [] := Keep.refl _ _
  suffices hG : Goes p e below (fun o U' => ∃ v L, o = .returned v ∧ Q_valueOfC Z p1 h0 n0 v U'.heap L ∧ FrameEnd s o U' L ({ frames := 2, cells := 2, slots := 5, locals := 27 } : Room).cells ({ frames := 2, cells := 2, slots := 5, locals := 27 } : Room).slots) s₁ (mkF m 0 #[.val (.int p1)] []) by
    obtain ⟨t, o, h1, h2⟩ := hG; exact ⟨t, o, castTop (ef_valueOfC m p1) h1, h2⟩
  obtain ⟨T29, X29, e29, st29⟩ := getS2 X0 hx hZ hown (host := "") (Or.inl (hw _ (List.mem_of_getElem? (i := 8) rfl))) Via.refl e0 (Scs.ext O0.2) (g := (mkF m 0 #[.val (.int p1)] [])) rfl (hb hby d_jdk_42_method_139_0)
  refine Goes.step (T' := T29) (g' := (mkF m 3 #[.val (.int p1)] [(.int zcs)])) st29 ?_
  refine Goes.step (T' := T29) (g' := (mkF m 6 #[.val (.int p1)] [])) (fun _ kz => XS.ifNo X29.here hx rfl (hb hby d_jdk_42_method_139_3) rfl ((if0 _ _).trans (feq hz_Scs).1) kz) ?_
  refine Goes.step (T' := T29) (g' := (mkF m 7 #[.val (.int p1)] [(.int p1)])) (fun _ kz => XS.iloadN X29.here hx rfl (hb hby d_jdk_42_method_139_6) rfl  kz) ?_
  obtain ⟨_, _, ⟨T30, L30, k30, n30⟩, -, X30, ⟨Lc30, hQ30, l30, y30, z30⟩, st30⟩ := Jvm.LawKit.callS X29 hx (y := (⟨"java/lang/StringLatin1", "canEncode", "(C)Z"⟩ : MethodName)) hown (mvT hZ (hw _ (List.mem_of_getElem? (i := 9) rfl))) (mvT hZ (hw _ (List.mem_of_getElem? (i := 10) rfl))) (mvT hZ (hw _ (List.mem_of_getElem? (i := 11) rfl))) (mvT hZ (hw _ (List.mem_of_getElem? (i := 12) rfl))) (by decide) (backOf (W := 0) (rm_canEnc l Z a0 hw [] p1 h0 n0 O0  (by first | assumption | decide)) hZ (hw _ (List.mem_of_getElem? (i := 12) rfl)) (hw _ (List.mem_of_getElem? (i := 11) rfl)) (by decide) (by decide)) (g := (mkF m 7 #[.val (.int p1)] [(.int p1)])) rfl (by rw [hml]; rfl) (argsL := [(.int p1)]) (rest := []) (lenOf pd_8 rfl) rfl (by show 2 * 0 + _ ≤ _; exact Nat.le_of_eq rfl) (hb hby d_jdk_42_method_139_7) (fun _ _ => ⟨rfl, e29, (by decide : 0 + 0 ≤ _), (by decide : 0 + 0 ≤ _)⟩)
  dsimp only [Pt.U, Pt.locs, Pt.cells, Pt.slots] at X30 l30 y30 z30 st30 hQ30
  subst l30 y30 z30
  obtain ⟨rfl, rfl, e30⟩ := hQ30
  replace N0 := Fr.app N0 (Fr.nil n0)
  refine Goes.step (T' := T30) (g' := (mkF m 10 #[.val (.int p1)] [(.int (1 : Int32))])) st30 ?_
  refine Goes.step (T' := T30) (g' := (mkF m 13 #[.val (.int p1)] [])) (fun _ kz => XS.ifNo X30.here hx rfl (hb hby d_jdk_42_method_139_10) rfl ((if0 _ _).trans (feq (by decide : ¬ ((1 : Int32) = (0 : Int32)))).1) kz) ?_
  obtain ⟨T31, h31, X31, e31, Ex31, A31, D31, -, st31⟩ := newO X30 hx hZ hown (hw _ (List.mem_of_getElem? (i := 13) rfl)) (hw _ (List.mem_of_getElem? (i := 14) rfl)) (hw _ (List.mem_of_getElem? (i := 6) rfl)) e30 (g := (mkF m 13 #[.val (.int p1)] [])) rfl (hb hby d_jdk_42_method_139_13) (by decide) (by decide)
  obtain ⟨b31, gg31⟩ : ∃ z, z = h0.size := ⟨_, rfl⟩
  rw [← gg31] at A31 D31 st31
  have g_b31 : n0 ≤ b31 := Nat.le_trans (own_n0 O0) (Nat.le_of_eq gg31.symm)
  have sz_b31 : h0.size ≤ b31 := Nat.le_trans K0.1 (Nat.le_of_eq gg31.symm)
  replace O0 := O0.ext Ex31
  replace K0 := K0.ext Ex31
  have E_b31 := A31
  have F_b31_value : Fld Z h31 b31 "java/lang/String" "value" "[B" .null := D31 (Or.inr (hw _ (List.mem_of_getElem? (i := 27) rfl))) (ty := (.array .byte)) (by decide)
  have F_b31_coder : Fld Z h31 b31 "java/lang/String" "coder" "B" (.int (0 : Int32)) := D31 (Or.inr (hw _ (List.mem_of_getElem? (i := 29) rfl))) (ty := .byte) (by decide)
  refine Goes.step (T' := T31) (g' := (mkF m 16 #[.val (.int p1)] [(.ref b31)])) st31 ?_
  clear D31 A31
  refine Goes.step (T' := T31) (g' := (mkF m 17 #[.val (.int p1)] [(.ref b31), (.ref b31)])) (fun _ kz => XS.dup X31.here hx rfl (hb hby d_jdk_42_method_139_16) rfl rfl kz) ?_
  refine Goes.step (T' := T31) (g' := (mkF m 18 #[.val (.int p1)] [(.int p1), (.ref b31), (.ref b31)])) (fun _ kz => XS.iloadN X31.here hx rfl (hb hby d_jdk_42_method_139_17) rfl  kz) ?_
  obtain ⟨_, _, ⟨T32, L32, k32, n32⟩, -, X32, ⟨Lc32, hQ32, l32, y32, z32⟩, st32⟩ := Jvm.LawKit.callS X31 hx (y := (⟨"java/lang/StringLatin1", "toBytes", "(C)[B"⟩ : MethodName)) hown (mvT hZ (hw _ (List.mem_of_getElem? (i := 15) rfl))) (mvT hZ (hw _ (List.mem_of_getElem? (i := 16) rfl))) (mvT hZ (hw _ (List.mem_of_getElem? (i := 11) rfl))) (mvT hZ (hw _ (List.mem_of_getElem? (i := 17) rfl))) (by decide) (backOf (W := 2) (rm_toBy l Z a0 hw [] p1 h31 n0 O0  ) hZ (hw _ (List.mem_of_getElem? (i := 17) rfl)) (hw _ (List.mem_of_getElem? (i := 11) rfl)) (by decide) (by decide)) (g := (mkF m 18 #[.val (.int p1)] [(.int p1), (.ref b31), (.ref b31)])) rfl (by rw [hml]; rfl) (argsL := [(.int p1)]) (rest := [(.ref b31), (.ref b31)]) (lenOf pd_9 rfl) rfl (by show 2 * 0 + _ ≤ _; exact Nat.le_of_eq rfl) (hb hby d_jdk_42_method_139_18) (fun _ _ => ⟨rfl, e31, (by decide : 1 + 1 ≤ _), (by decide : 4 + 1 ≤ _)⟩)
  dsimp only [Pt.U, Pt.locs, Pt.cells, Pt.slots] at X32 l32 y32 z32 st32 hQ32
  subst l32 y32 z32
  obtain ⟨h32, e32⟩ : ∃ z, T32.heap = z := ⟨_, rfl⟩
  rw [e32] at hQ32
  obtain ⟨t_32, kt_32, rfl, Nq32, Kq32, fr32_t_32, V_t_32_q32⟩ := hQ32
  replace N0 := Fr.app N0 Nq32
  have g_t_32 : n0 ≤ t_32 := Nat.le_trans (own_n0 O0) fr32_t_32
  have sz_t_32 : h0.size ≤ t_32 := Nat.le_trans K0.1 fr32_t_32
  have ne_b31_t_32 : b31 ≠ t_32 := Nat.ne_of_lt (Nat.lt_of_lt_of_le E_b31.lt fr32_t_32)
  replace E_b31 := E_b31.keep Kq32
  replace F_b31_value := F_b31_value.keep Kq32 nin0
  replace F_b31_coder := F_b31_coder.keep Kq32 nin0
  replace O0 := O0.keep Kq32 all0
  replace K0 := K0.trans Kq32 all0
  have V_t_32 := V_t_32_q32
  refine Goes.step (T' := T32) (g' := (mkF m 21 #[.val (.int p1)] [(.ref t_32), (.ref b31), (.ref b31)])) st32 ?_
  refine Goes.step (T' := T32) (g' := (mkF m 22 #[.val (.int p1)] [(.int (0 : Int32)), (.ref t_32), (.ref b31), (.ref b31)])) (fun _ kz => XS.iconst X32.here hx rfl (hb hby d_jdk_42_method_139_21) kz) ?_
  obtain ⟨_, _, ⟨T33, L33, k33, n33⟩, -, X33, ⟨Lc33, hQ33, l33, y33, z33⟩, st33⟩ := X32.specialBack hx (y := (⟨"java/lang/String", "<init>", "([BB)V"⟩ : MethodName)) rfl hown (mvT hZ (hw _ (List.mem_of_getElem? (i := 19) rfl))) (mvT hZ (hw _ (List.mem_of_getElem? (i := 20) rfl))) (mvT hZ (hw _ (List.mem_of_getElem? (i := 22) rfl))) (by decide) (backOf (W := 1) (rm_initBB l Z a0 hw [] b31 t_32 h32 n0 O0  E_b31 F_b31_value F_b31_coder g_b31) hZ (hw _ (List.mem_of_getElem? (i := 22) rfl)) (hw _ (List.mem_of_getElem? (i := 6) rfl)) (by decide) (by decide)) (g := (mkF m 22 #[.val (.int p1)] [(.int (0 : Int32)), (.ref t_32), (.ref b31), (.ref b31)])) rfl (by rw [hml]; rfl) (Steps.refl _) (a := b31) (argsL := [(.ref t_32), (.int (0 : Int32))]) (rest := [(.ref b31)]) (lenOf pd_10 rfl) rfl (by show 2 * 0 + _ ≤ _; exact Nat.le_of_eq rfl) (hb hby d_jdk_42_method_139_22) (fun _ _ => ⟨rfl, e32, (by decide : 2 + 0 ≤ _), (by decide : 5 + 0 ≤ _)⟩)
  dsimp only [Pt.U, Pt.locs, Pt.cells, Pt.slots] at X33 l33 y33 z33 st33 hQ33
  subst l33 y33 z33
  obtain ⟨h33, e33⟩ : ∃ z, T33.heap = z := ⟨_, rfl⟩
  rw [e33] at hQ33
  obtain ⟨rfl, Nq33, Kq33, E_b31_q33, F_b31_value_q33, F_b31_coder_q33⟩ := hQ33
  replace N0 := Fr.app N0 Nq33
  clear E_b31
  clear F_b31_value
  clear F_b31_coder
  replace V_t_32 := V_t_32.keep Kq33 (ninS (Ne.symm ne_b31_t_32) nin0)
  replace O0 := O0.keep Kq33 (allS g_b31 all0)
  replace K0 := K0.trans Kq33 (allS (Or.inr sz_b31) all0)
  have E_b31 := E_b31_q33
  have F_b31_value := F_b31_value_q33
  have F_b31_coder := F_b31_coder_q33
  refine Goes.run (T' := T33) (g' := (mkF m 25 #[.val (.int p1)] [(.ref b31)])) st33 ?_
  obtain ⟨fs, hr, hrun, hended, hW, hsame⟩ := X33.leave (v := some (.ref b31)) (fun h => by rw [Bd.returns] at h; cases h)
  exact ⟨_, _, retOut X33 hx Bd.returns rfl (Or.inr (Or.inr (Or.inr (Or.inr ⟨rfl, rfl, rfl⟩)))) (hb hby d_jdk_42_method_139_25) hr, hrun, hended, _, _, rfl, (by show Q_valueOfC Z p1 h0 n0 _ T33.heap _; rw [e33]; exact ⟨b31, t_32, kt_32, rfl, N0, K0, sz_b31, sz_t_32, E_b31, F_b31_value, F_b31_coder, V_t_32⟩), ⟨_, rfl⟩, hW, hsame.mono (by decide) (by decide)⟩
theorem d_method_2_0 : decode method_2_code 0 = .ok (.iload_n 0, 1) := by decide +kernel
theorem d_method_2_1 : decode method_2_code 1 = .ok (.iconst 4, 1) := by decide +kernel
theorem d_method_2_2 : decode method_2_code 2 = .ok (.iload_n 1, 1) := by decide +kernel
theorem d_method_2_3 : decode method_2_code 3 = .ok (.imul, 1) := by decide +kernel
theorem d_method_2_4 : decode method_2_code 4 = .ok (.iushr, 1) := by decide +kernel
theorem d_method_2_5 : decode method_2_code 5 = .ok (.bipush 15, 2) := by decide +kernel
theorem d_method_2_7 : decode method_2_code 7 = .ok (.iand, 1) := by decide +kernel
theorem d_method_2_8 : decode method_2_code 8 = .ok (.istore_n 2, 1) := by decide +kernel
theorem d_method_2_9 : decode method_2_code 9 = .ok (.iload_n 2, 1) := by decide +kernel
theorem d_method_2_10 : decode method_2_code 10 = .ok (.bipush 10, 2) := by decide +kernel
theorem d_method_2_12 : decode method_2_code 12 = .ok (.if_icmp .ge 11, 3) := by decide +kernel
theorem d_method_2_15 : decode method_2_code 15 = .ok (.bipush 48, 2) := by decide +kernel
theorem d_method_2_17 : decode method_2_code 17 = .ok (.iload_n 2, 1) := by decide +kernel
theorem d_method_2_18 : decode method_2_code 18 = .ok (.iadd, 1) := by decide +kernel
theorem d_method_2_19 : decode method_2_code 19 = .ok (.i2c, 1) := by decide +kernel
theorem d_method_2_20 : decode method_2_code 20 = .ok (.goto 5, 3) := by decide +kernel
theorem d_method_2_25 : decode method_2_code 25 = .ok (.ireturn, 1) := by decide +kernel
theorem d_method_2_23 : decode method_2_code 23 = .ok (.bipush 48, 2) := by decide +kernel
theorem pn_3 : plainName "com/example/tariff/tariff/core/decimal/PlainDecimalIntegerDigitsPinLaw" = true := by first | (simp [plainName, overriddenIn]; done) | decide +kernel
theorem ef_digit (m : MethodId) (p1 : Int32) (p2 : Int32) : entryFrame m #[(.int p1), (.int p2)] 3 = mkF m 0 #[.val (.int p1), .val (.int p2), .unset] [] := by first | (simp [entryFrame, mkF, argsToLocals, Value.category, maxLocals]; done) | rfl
def Q_digit (Z : State) (p1 : Int32) (p2 : Int32) (h0 : Heap) (n0 : Nat) (v : Option Value) (h : Heap) (L : List Loc) : Prop := (v = some (.int (DG p1 p2))) ∧ (L = []) ∧ (h = h0)
set_option maxRecDepth 65536 in
set_option maxHeartbeats 40000000 in
theorem rm_digit (l : Launch) (Z : State) (a0 : Array Value) (hw : ∀ d ∈ tables_1, d.before a0 Z = true) (ws : List Jvm.Cond) (p1 : Int32) (p2 : Int32) (h0 : Heap) (n0 : Nat) (O0 : Old Z n0 h0)   :
    MetFree l (⟨"com/example/tariff/tariff/core/decimal/PlainDecimalIntegerDigitsPinLaw", "digit", "(II)C"⟩ : MethodName) (head1 ((Jvm.Cond.code (⟨"com/example/tariff/tariff/core/decimal/PlainDecimalIntegerDigitsPinLaw", "digit", "(II)C"⟩ : MethodName) method_2_code 3 (some .char)) :: ws) ({ frames := 0, cells := 0, slots := 0, locals := 0 } : Room)) (fun a U => a = #[(.int p1), (.int p2)] ∧ Z.Warmed39 U.vm ∧ U.heap = h0) (fun _ _ _ _ _ => True) (fun _ U o U' => ∃ v L, o = .returned v ∧ Q_digit Z p1 p2 h0 n0 v U'.heap L ∧ FrameEnd U o U' L ({ frames := 0, cells := 0, slots := 0, locals := 0 } : Room).cells ({ frames := 0, cells := 0, slots := 0, locals := 0 } : Room).slots) := by
  refine MetFree.of_bodySF (plainFor_of_name pn_3) hisR ?_
  intro p e s m args below meth c s₁ Bd hml0 hP hK
  obtain ⟨rfl, hZ, hh⟩ := hP
  have hx := Bd.exec
  have hby := Bd.bytes
  have hml : c.maxLocals = 3 := hml0
  have hown : s.vm.findClass "com/example/tariff/tariff/core/decimal/PlainDecimalIntegerDigitsPinLaw" = some m.cls := findClass_of_methodNamed Bd.named
  have hnm := (name_of_methodNamed Bd.named Bd.method).1
  have X0 : Stand p l e ({ frames := 0, cells := 0, slots := 0, locals := 0 } : Room) s m #[(.int p1), (.int p2)] below meth c s₁ [] 0 0 := Stand.of_body Bd
  have e0 : s₁.heap = h0 := by rw [← hh, Bd.state]; rfl
  have N0 := Fr.nil n0
  have K0 : Keep h0 h0 [] := Keep.refl _ _
  suffices hG : Goes p e below (fun o U' => ∃ v L, o = .returned v ∧ Q_digit Z p1 p2 h0 n0 v U'.heap L ∧ FrameEnd s o U' L ({ frames := 0, cells := 0, slots := 0, locals := 0 } : Room).cells ({ frames := 0, cells := 0, slots := 0, locals := 0 } : Room).slots) s₁ (mkF m 0 #[.val (.int p1), .val (.int p2), .unset] []) by
    obtain ⟨t, o, h1, h2⟩ := hG; exact ⟨t, o, castTop (ef_digit m p1 p2) h1, h2⟩
  refine Goes.step (T' := s₁) (g' := (mkF m 1 #[.val (.int p1), .val (.int p2), .unset] [(.int p1)])) (fun _ kz => XS.iloadN X0.here hx rfl (hb hby d_method_2_0) rfl  kz) ?_
  refine Goes.step (T' := s₁) (g' := (mkF m 2 #[.val (.int p1), .val (.int p2), .unset] [(.int (4 : Int32)), (.int p1)])) (fun _ kz => XS.iconst X0.here hx rfl (hb hby d_method_2_1) kz) ?_
  refine Goes.step (T' := s₁) (g' := (mkF m 3 #[.val (.int p1), .val (.int p2), .unset] [(.int p2), (.int (4 : Int32)), (.int p1)])) (fun _ kz => XS.iloadN X0.here hx rfl (hb hby d_method_2_2) rfl  kz) ?_
  refine Goes.step (T' := s₁) (g' := (mkF m 4 #[.val (.int p1), .val (.int p2), .unset] [(.int ((4 : Int32) * p2)), (.int p1)])) (fun _ kz => XS.imul X0.here hx rfl (hb hby d_method_2_3) rfl kz) ?_
  refine Goes.step (T' := s₁) (g' := (mkF m 5 #[.val (.int p1), .val (.int p2), .unset] [(.int ((p1.toUInt32 >>> (((4 : Int32) * p2) &&& 31).toUInt32).toInt32))])) (fun _ kz => XS.iushr X0.here hx rfl (hb hby d_method_2_4) rfl kz) ?_
  refine Goes.step (T' := s₁) (g' := (mkF m 7 #[.val (.int p1), .val (.int p2), .unset] [(.int (15 : Int32)), (.int ((p1.toUInt32 >>> (((4 : Int32) * p2) &&& 31).toUInt32).toInt32))])) (fun _ kz => XS.bipush X0.here hx rfl (hb hby d_method_2_5) kz) ?_
  refine Goes.step (T' := s₁) (g' := (mkF m 8 #[.val (.int p1), .val (.int p2), .unset] [(.int (((p1.toUInt32 >>> (((4 : Int32) * p2) &&& 31).toUInt32).toInt32) &&& (15 : Int32)))])) (fun _ kz => XS.iand X0.here hx rfl (hb hby d_method_2_7) rfl kz) ?_
  refine Goes.step (T' := s₁) (g' := (mkF m 9 #[.val (.int p1), .val (.int p2), .val (.int (((p1.toUInt32 >>> (((4 : Int32) * p2) &&& 31).toUInt32).toInt32) &&& (15 : Int32)))] [])) (fun _ kz => XS.istoreN X0.here hx rfl (hb hby d_method_2_8) rfl (l' := #[.val (.int p1), .val (.int p2), .val (.int (((p1.toUInt32 >>> (((4 : Int32) * p2) &&& 31).toUInt32).toInt32) &&& (15 : Int32)))]) rfl kz) ?_
  refine Goes.step (T' := s₁) (g' := (mkF m 10 #[.val (.int p1), .val (.int p2), .val (.int (((p1.toUInt32 >>> (((4 : Int32) * p2) &&& 31).toUInt32).toInt32) &&& (15 : Int32)))] [(.int (((p1.toUInt32 >>> (((4 : Int32) * p2) &&& 31).toUInt32).toInt32) &&& (15 : Int32)))])) (fun _ kz => XS.iloadN X0.here hx rfl (hb hby d_method_2_9) rfl  kz) ?_
  refine Goes.step (T' := s₁) (g' := (mkF m 12 #[.val (.int p1), .val (.int p2), .val (.int (((p1.toUInt32 >>> (((4 : Int32) * p2) &&& 31).toUInt32).toInt32) &&& (15 : Int32)))] [(.int (10 : Int32)), (.int (((p1.toUInt32 >>> (((4 : Int32) * p2) &&& 31).toUInt32).toInt32) &&& (15 : Int32)))])) (fun _ kz => XS.bipush X0.here hx rfl (hb hby d_method_2_10) kz) ?_
  by_cases hc12_34 : (((p1.toUInt32 >>> (((4 : Int32) * p2) &&& 31).toUInt32).toInt32) &&& (15 : Int32)) < (10 : Int32)
  ·
    refine Goes.step (T' := s₁) (g' := (mkF m 15 #[.val (.int p1), .val (.int p2), .val (.int (((p1.toUInt32 >>> (((4 : Int32) * p2) &&& 31).toUInt32).toInt32) &&& (15 : Int32)))] [])) (fun _ kz => XS.icmpNo X0.here hx rfl (hb hby d_method_2_12) rfl (tlt hc12_34).2.1 kz) ?_
    refine Goes.step (T' := s₁) (g' := (mkF m 17 #[.val (.int p1), .val (.int p2), .val (.int (((p1.toUInt32 >>> (((4 : Int32) * p2) &&& 31).toUInt32).toInt32) &&& (15 : Int32)))] [(.int (48 : Int32))])) (fun _ kz => XS.bipush X0.here hx rfl (hb hby d_method_2_15) kz) ?_
    refine Goes.step (T' := s₁) (g' := (mkF m 18 #[.val (.int p1), .val (.int p2), .val (.int (((p1.toUInt32 >>> (((4 : Int32) * p2) &&& 31).toUInt32).toInt32) &&& (15 : Int32)))] [(.int (((p1.toUInt32 >>> (((4 : Int32) * p2) &&& 31).toUInt32).toInt32) &&& (15 : Int32))), (.int (48 : Int32))])) (fun _ kz => XS.iloadN X0.here hx rfl (hb hby d_method_2_17) rfl  kz) ?_
    refine Goes.step (T' := s₁) (g' := (mkF m 19 #[.val (.int p1), .val (.int p2), .val (.int (((p1.toUInt32 >>> (((4 : Int32) * p2) &&& 31).toUInt32).toInt32) &&& (15 : Int32)))] [(.int ((48 : Int32) + (((p1.toUInt32 >>> (((4 : Int32) * p2) &&& 31).toUInt32).toInt32) &&& (15 : Int32))))])) (fun _ kz => XS.iadd X0.here hx rfl (hb hby d_method_2_18) rfl kz) ?_
    refine Goes.step (T' := s₁) (g' := (mkF m 20 #[.val (.int p1), .val (.int p2), .val (.int (((p1.toUInt32 >>> (((4 : Int32) * p2) &&& 31).toUInt32).toInt32) &&& (15 : Int32)))] [(.int (((48 : Int32) + (((p1.toUInt32 >>> (((4 : Int32) * p2) &&& 31).toUInt32).toInt32) &&& (15 : Int32))).toUInt32.toUInt16.toUInt32.toInt32))])) (fun _ kz => XS.i2c X0.here hx rfl (hb hby d_method_2_19) rfl kz) ?_
    refine Goes.step (T' := s₁) (g' := (mkF m 25 #[.val (.int p1), .val (.int p2), .val (.int (((p1.toUInt32 >>> (((4 : Int32) * p2) &&& 31).toUInt32).toInt32) &&& (15 : Int32)))] [(.int (((48 : Int32) + (((p1.toUInt32 >>> (((4 : Int32) * p2) &&& 31).toUInt32).toInt32) &&& (15 : Int32))).toUInt32.toUInt16.toUInt32.toInt32))])) (fun _ kz => XS.goto X0.here hx rfl (pc0 := 20) (pc' := 25) rfl (hb hby d_method_2_20) (by decide) (by decide) kz) ?_
    obtain ⟨fs, hr, hrun, hended, hW, hsame⟩ := X0.leave (v := some (.int (nar .char (((48 : Int32) + (((p1.toUInt32 >>> (((4 : Int32) * p2) &&& 31).toUInt32).toInt32) &&& (15 : Int32))).toUInt32.toUInt16.toUInt32.toInt32)))) (fun h => by rw [Bd.returns] at h; cases h)
    exact ⟨_, _, retN X0 hx (t := .char) Bd.returns (by simp) (hb hby d_method_2_25) hr, hrun, hended, _, _, rfl, (by show Q_digit Z p1 p2 h0 n0 _ s₁.heap _; rw [e0]; exact ⟨(by rw [DG, if_pos (show (ND p1 p2 < 10) from hc12_34)] <;> rfl), rfl, rfl⟩), ⟨_, rfl⟩, hW, hsame.mono (by decide) (by decide)⟩
  ·
    refine Goes.step (T' := s₁) (g' := (mkF m 23 #[.val (.int p1), .val (.int p2), .val (.int (((p1.toUInt32 >>> (((4 : Int32) * p2) &&& 31).toUInt32).toInt32) &&& (15 : Int32)))] [])) (fun _ kz => XS.icmpYes X0.here hx rfl (pc0 := 12) (pc' := 23) rfl (hb hby d_method_2_12) rfl (flt hc12_34).2.1 (by decide) (by decide) kz) ?_
    refine Goes.step (T' := s₁) (g' := (mkF m 25 #[.val (.int p1), .val (.int p2), .val (.int (((p1.toUInt32 >>> (((4 : Int32) * p2) &&& 31).toUInt32).toInt32) &&& (15 : Int32)))] [(.int (48 : Int32))])) (fun _ kz => XS.bipush X0.here hx rfl (hb hby d_method_2_23) kz) ?_
    obtain ⟨fs, hr, hrun, hended, hW, hsame⟩ := X0.leave (v := some (.int (nar .char (48 : Int32)))) (fun h => by rw [Bd.returns] at h; cases h)
    exact ⟨_, _, retN X0 hx (t := .char) Bd.returns (by simp) (hb hby d_method_2_25) hr, hrun, hended, _, _, rfl, (by show Q_digit Z p1 p2 h0 n0 _ s₁.heap _; rw [e0]; exact ⟨(by rw [DG, if_neg (show ¬ (ND p1 p2 < 10) from hc12_34)] <;> rfl), rfl, rfl⟩), ⟨_, rfl⟩, hW, hsame.mono (by decide) (by decide)⟩
theorem pd_11 : parseMethodDescriptor "(II)C" = some ⟨[.int, .int], some .char⟩ := by decide +kernel
theorem pd_12 : parseMethodDescriptor "([C)V" = some ⟨[(.array .char)], none⟩ := by decide +kernel
theorem pd_13 : parseMethodDescriptor "(C)Ljava/lang/String;" = some ⟨[.char], some (.object "java/lang/String")⟩ := by decide +kernel
theorem ef_law (m : MethodId) (p0 : Int32) (p1 : Int32) : entryFrame m #[(.int p0), (.int p1)] maxLocals = mkF m 0 #[.val (.int p0), .val (.int p1), .unset, .unset, .unset] [] := by first | (simp [entryFrame, mkF, argsToLocals, Value.category, maxLocals]; done) | rfl
def Q_law (Z : State) (p0 : Int32) (p1 : Int32) (h0 : Heap) (n0 : Nat) (v : Option Value) (h : Heap) (L : List Loc) : Prop := (v = some (.int (1 : Int32))) ∧ (Fr n0 L) ∧ (Keep h0 h [])
set_option maxRecDepth 65536 in
set_option maxHeartbeats 40000000 in
theorem rm_law (l : Launch) (Z : State) (a0 : Array Value) (hw : ∀ d ∈ tables_1, d.before a0 Z = true) (ws : List Jvm.Cond) (p0 : Int32) (p1 : Int32) (h0 : Heap) (n0 : Nat) (O0 : Old Z n0 h0) (zcs : Int32) (Scs : Sta Z Z.heap "java/lang/String" "COMPACT_STRINGS" "Z" (.int zcs)) (hz_Scs : ¬ zcs = 0) (fmt : Value) (Sfm : Sta Z Z.heap "jdk/internal/util/Preconditions" "SIOOBE_FORMATTER" "Ljava/util/function/BiFunction;" fmt) (hz_Sfm : fmt.isRef = true)  :
    MetFree l x (head1 ((Jvm.Cond.code x code maxLocals ret) :: ws) room_1) (fun a U => a = #[(.int p0), (.int p1)] ∧ Z.Warmed39 U.vm ∧ U.heap = h0) (fun _ _ _ _ _ => True) (fun _ U o U' => ∃ v L, o = .returned v ∧ Q_law Z p0 p1 h0 n0 v U'.heap L ∧ FrameEnd U o U' L 16 128) := by
  refine MetFree.of_bodySF (plainFor_of_name pn_3) hisR ?_
  intro p e s m args below meth c s₁ Bd hml0 hP hK
  obtain ⟨rfl, hZ, hh⟩ := hP
  have hx := Bd.exec
  have hby := Bd.bytes
  have hml : c.maxLocals = 5 := hml0
  have hown : s.vm.findClass "com/example/tariff/tariff/core/decimal/PlainDecimalIntegerDigitsPinLaw" = some m.cls := findClass_of_methodNamed Bd.named
  have hnm := (name_of_methodNamed Bd.named Bd.method).1
  have X0 : Stand p l e room_1 s m #[(.int p0), (.int p1)] below meth c s₁ [] 0 0 := Stand.of_body Bd
  have e0 : s₁.heap = h0 := by rw [← hh, Bd.state]; rfl
  have N0 := Fr.nil n0
  have K0 : Keep h0 h0 [] := Keep.refl _ _
  suffices hG : Goes p e below (fun o U' => ∃ v L, o = .returned v ∧ Q_law Z p0 p1 h0 n0 v U'.heap L ∧ FrameEnd s o U' L 16 128) s₁ (mkF m 0 #[.val (.int p0), .val (.int p1), .unset, .unset, .unset] []) by
    obtain ⟨t, o, h1, h2⟩ := hG; exact ⟨t, o, castTop (ef_law m p0 p1) h1, h2⟩
  refine Goes.step (T' := s₁) (g' := (mkF m 1 #[.val (.int p0), .val (.int p1), .unset, .unset, .unset] [(.int p1)])) (fun _ kz => XS.iloadN X0.here hx rfl (hb hby at_0) rfl  kz) ?_
  refine Goes.step (T' := s₁) (g' := (mkF m 2 #[.val (.int p0), .val (.int p1), .unset, .unset, .unset] [(.int (1 : Int32)), (.int p1)])) (fun _ kz => XS.iconst X0.here hx rfl (hb hby at_1) kz) ?_
  refine Goes.step (T' := s₁) (g' := (mkF m 3 #[.val (.int p0), .val (.int p1), .unset, .unset, .unset] [(.int (p1 &&& (1 : Int32)))])) (fun _ kz => XS.iand X0.here hx rfl (hb hby at_2) rfl kz) ?_
  by_cases hc3_35 : (p1 &&& (1 : Int32)) = (0 : Int32)
  ·
    refine Goes.step (T' := s₁) (g' := (mkF m 41 #[.val (.int p0), .val (.int p1), .unset, .unset, .unset] [])) (fun _ kz => XS.ifYes X0.here hx rfl (pc0 := 3) (pc' := 41) rfl (hb hby at_3) rfl ((if0 _ _).trans (teq hc3_35).1) (by decide) (by decide) kz) ?_
    refine Goes.step (T' := s₁) (g' := (mkF m 43 #[.val (.int p0), .val (.int p1), .unset, .unset, .unset] [(.int (6 : Int32))])) (fun _ kz => XS.bipush X0.here hx rfl (hb hby at_41) kz) ?_
    obtain ⟨T36, h36, kc36, X36, e36, Ex36, A36, st36⟩ := newP X0 hx hZ (hw _ (List.mem_of_getElem? (i := 95) rfl)) e0 (g := (mkF m 43 #[.val (.int p0), .val (.int p1), .unset, .unset, .unset] [(.int (6 : Int32))])) rfl (hb hby at_43) rfl (by decide) (cap := 6) (by decide) (by decide) (by decide) (by decide)
    obtain ⟨b36, gg36⟩ : ∃ z, z = h0.size := ⟨_, rfl⟩
    rw [← gg36] at A36 st36
    have g_b36 : n0 ≤ b36 := Nat.le_trans (own_n0 O0) (Nat.le_of_eq gg36.symm)
    have sz_b36 : h0.size ≤ b36 := Nat.le_trans K0.1 (Nat.le_of_eq gg36.symm)
    replace O0 := O0.ext Ex36
    replace K0 := K0.ext Ex36
    have V_b36 : Arv Z h36 b36 kc36 .char (6 : Int32) [(.int (0 : Int32)), (.int (0 : Int32)), (.int (0 : Int32)), (.int (0 : Int32)), (.int (0 : Int32)), (.int (0 : Int32))] (.int (0 : Int32)) := (Arv.new A36 (by decide)).pad (pad_rep [] (.int (0 : Int32)) 6)
    refine Goes.step (T' := T36) (g' := (mkF m 45 #[.val (.int p0), .val (.int p1), .unset, .unset, .unset] [(.ref b36)])) st36 ?_
    refine Goes.step (T' := T36) (g' := (mkF m 46 #[.val (.int p0), .val (.int p1), .val (.ref b36), .unset, .unset] [])) (fun _ kz => XS.astoreN X36.here hx rfl (hb hby at_45) rfl rfl (l' := #[.val (.int p0), .val (.int p1), .val (.ref b36), .unset, .unset]) rfl kz) ?_
    refine Goes.step (T' := T36) (g' := (mkF m 47 #[.val (.int p0), .val (.int p1), .val (.ref b36), .unset, .unset] [(.ref b36)])) (fun _ kz => XS.aloadN X36.here hx rfl (hb hby at_46) rfl rfl kz) ?_
    refine Goes.step (T' := T36) (g' := (mkF m 48 #[.val (.int p0), .val (.int p1), .val (.ref b36), .unset, .unset] [(.int (0 : Int32)), (.ref b36)])) (fun _ kz => XS.iconst X36.here hx rfl (hb hby at_47) kz) ?_
    refine Goes.step (T' := T36) (g' := (mkF m 49 #[.val (.int p0), .val (.int p1), .val (.ref b36), .unset, .unset] [(.int p0), (.int (0 : Int32)), (.ref b36)])) (fun _ kz => XS.iloadN X36.here hx rfl (hb hby at_48) rfl  kz) ?_
    refine Goes.step (T' := T36) (g' := (mkF m 50 #[.val (.int p0), .val (.int p1), .val (.ref b36), .unset, .unset] [(.int (0 : Int32)), (.int p0), (.int (0 : Int32)), (.ref b36)])) (fun _ kz => XS.iconst X36.here hx rfl (hb hby at_49) kz) ?_
    obtain ⟨_, _, ⟨T37, L37, k37, n37⟩, -, X37, ⟨Lc37, hQ37, l37, y37, z37⟩, st37⟩ := Jvm.LawKit.callS X36 hx (y := (⟨"com/example/tariff/tariff/core/decimal/PlainDecimalIntegerDigitsPinLaw", "digit", "(II)C"⟩ : MethodName)) hown (mvT hZ (hw _ (List.mem_of_getElem? (i := 0) rfl))) (mvT hZ (hw _ (List.mem_of_getElem? (i := 1) rfl))) (mvT hZ (hw _ (List.mem_of_getElem? (i := 2) rfl))) (mvT hZ (hw _ (List.mem_of_getElem? (i := 3) rfl))) (by decide) (backOf (W := 2) (rm_digit l Z a0 hw [] p0 (0 : Int32) h36 n0 O0  ) hZ (hw _ (List.mem_of_getElem? (i := 3) rfl)) (hw _ (List.mem_of_getElem? (i := 2) rfl)) (by decide) (by decide)) (g := (mkF m 50 #[.val (.int p0), .val (.int p1), .val (.ref b36), .unset, .unset] [(.int (0 : Int32)), (.int p0), (.int (0 : Int32)), (.ref b36)])) rfl (by rw [hml]; rfl) (argsL := [(.int p0), (.int (0 : Int32))]) (rest := [(.int (0 : Int32)), (.ref b36)]) (lenOf pd_11 rfl) rfl (by show 2 * 0 + _ ≤ _; exact Nat.le_of_eq rfl) (hb hby at_50) (fun _ _ => ⟨rfl, e36, (by decide : 1 + 0 ≤ _), (by decide : 6 + 0 ≤ _)⟩)
    dsimp only [Pt.U, Pt.locs, Pt.cells, Pt.slots] at X37 l37 y37 z37 st37 hQ37
    subst l37 y37 z37
    obtain ⟨rfl, rfl, e37⟩ := hQ37
    replace N0 := Fr.app N0 (Fr.nil n0)
    refine Goes.step (T' := T37) (g' := (mkF m 53 #[.val (.int p0), .val (.int p1), .val (.ref b36), .unset, .unset] [(.int (DG p0 (0 : Int32))), (.int (0 : Int32)), (.ref b36)])) st37 ?_
    obtain ⟨cl38, Ar38, q38, Sz38, Nn38, Hs38, Gs38⟩ := (id V_b36 : Arv Z h36 b36 kc36 .char (6 : Int32) [(.int (0 : Int32)), (.int (0 : Int32)), (.int (0 : Int32)), (.int (0 : Int32)), (.int (0 : Int32)), (.int (0 : Int32))] (.int (0 : Int32)))
    obtain ⟨T38, h38, X38, e38, W38, st38⟩ := stC X37 hx hZ e37 Ar38 (j := (0 : Int32)) (inb_of Sz38 ⟨by decide, by decide⟩) (g := (mkF m 53 #[.val (.int p0), .val (.int p1), .val (.ref b36), .unset, .unset] [(.int (DG p0 (0 : Int32))), (.int (0 : Int32)), (.ref b36)])) rfl rfl (hb hby at_53)
    replace V_b36 : Arv Z h38 b36 kc36 .char (6 : Int32) [(.int (nar .char (DG p0 (0 : Int32)))), (.int (0 : Int32)), (.int (0 : Int32)), (.int (0 : Int32)), (.int (0 : Int32)), (.int (0 : Int32))] (.int (0 : Int32)) := Arv.set Ar38 q38 Sz38 Nn38 Hs38 Gs38 (fits_nar_char _) W38 0 rfl (Nat.le_of_ble_eq_true rfl)
    replace N0 := Fr.snoc X38 N0 g_b36
    replace O0 := O0.wr W38 g_b36
    replace K0 := K0.wr W38 (Or.inr sz_b36)
    refine Goes.step (T' := T38) (g' := (mkF m 54 #[.val (.int p0), .val (.int p1), .val (.ref b36), .unset, .unset] [])) st38 ?_
    refine Goes.step (T' := T38) (g' := (mkF m 55 #[.val (.int p0), .val (.int p1), .val (.ref b36), .unset, .unset] [(.ref b36)])) (fun _ kz => XS.aloadN X38.here hx rfl (hb hby at_54) rfl rfl kz) ?_
    refine Goes.step (T' := T38) (g' := (mkF m 56 #[.val (.int p0), .val (.int p1), .val (.ref b36), .unset, .unset] [(.int (1 : Int32)), (.ref b36)])) (fun _ kz => XS.iconst X38.here hx rfl (hb hby at_55) kz) ?_
    refine Goes.step (T' := T38) (g' := (mkF m 57 #[.val (.int p0), .val (.int p1), .val (.ref b36), .unset, .unset] [(.int p0), (.int (1 : Int32)), (.ref b36)])) (fun _ kz => XS.iloadN X38.here hx rfl (hb hby at_56) rfl  kz) ?_
    refine Goes.step (T' := T38) (g' := (mkF m 58 #[.val (.int p0), .val (.int p1), .val (.ref b36), .unset, .unset] [(.int (1 : Int32)), (.int p0), (.int (1 : Int32)), (.ref b36)])) (fun _ kz => XS.iconst X38.here hx rfl (hb hby at_57) kz) ?_
    obtain ⟨_, _, ⟨T39, L39, k39, n39⟩, -, X39, ⟨Lc39, hQ39, l39, y39, z39⟩, st39⟩ := Jvm.LawKit.callS X38 hx (y := (⟨"com/example/tariff/tariff/core/decimal/PlainDecimalIntegerDigitsPinLaw", "digit", "(II)C"⟩ : MethodName)) hown (mvT hZ (hw _ (List.mem_of_getElem? (i := 0) rfl))) (mvT hZ (hw _ (List.mem_of_getElem? (i := 1) rfl))) (mvT hZ (hw _ (List.mem_of_getElem? (i := 2) rfl))) (mvT hZ (hw _ (List.mem_of_getElem? (i := 3) rfl))) (by decide) (backOf (W := 2) (rm_digit l Z a0 hw [] p0 (1 : Int32) h38 n0 O0  ) hZ (hw _ (List.mem_of_getElem? (i := 3) rfl)) (hw _ (List.mem_of_getElem? (i := 2) rfl)) (by decide) (by decide)) (g := (mkF m 58 #[.val (.int p0), .val (.int p1), .val (.ref b36), .unset, .unset] [(.int (1 : Int32)), (.int p0), (.int (1 : Int32)), (.ref b36)])) rfl (by rw [hml]; rfl) (argsL := [(.int p0), (.int (1 : Int32))]) (rest := [(.int (1 : Int32)), (.ref b36)]) (lenOf pd_11 rfl) rfl (by show 2 * 0 + _ ≤ _; exact Nat.le_of_eq rfl) (hb hby at_58) (fun _ _ => ⟨rfl, e38, (by decide : 1 + 0 ≤ _), (by decide : 6 + 0 ≤ _)⟩)
    dsimp only [Pt.U, Pt.locs, Pt.cells, Pt.slots] at X39 l39 y39 z39 st39 hQ39
    subst l39 y39 z39
    obtain ⟨rfl, rfl, e39⟩ := hQ39
    replace N0 := Fr.app N0 (Fr.nil n0)
    refine Goes.step (T' := T39) (g' := (mkF m 61 #[.val (.int p0), .val (.int p1), .val (.ref b36), .unset, .unset] [(.int (DG p0 (1 : Int32))), (.int (1 : Int32)), (.ref b36)])) st39 ?_
    obtain ⟨cl40, Ar40, q40, Sz40, Nn40, Hs40, Gs40⟩ := (id V_b36 : Arv Z h38 b36 kc36 .char (6 : Int32) [(.int (nar .char (DG p0 (0 : Int32)))), (.int (0 : Int32)), (.int (0 : Int32)), (.int (0 : Int32)), (.int (0 : Int32)), (.int (0 : Int32))] (.int (0 : Int32)))
    obtain ⟨T40, h40, X40, e40, W40, st40⟩ := stC X39 hx hZ e39 Ar40 (j := (1 : Int32)) (inb_of Sz40 ⟨by decide, by decide⟩) (g := (mkF m 61 #[.val (.int p0), .val (.int p1), .val (.ref b36), .unset, .unset] [(.int (DG p0 (1 : Int32))), (.int (1 : Int32)), (.ref b36)])) rfl rfl (hb hby at_61)
    replace V_b36 : Arv Z h40 b36 kc36 .char (6 : Int32) [(.int (nar .char (DG p0 (0 : Int32)))), (.int (nar .char (DG p0 (1 : Int32)))), (.int (0 : Int32)), (.int (0 : Int32)), (.int (0 : Int32)), (.int (0 : Int32))] (.int (0 : Int32)) := Arv.set Ar40 q40 Sz40 Nn40 Hs40 Gs40 (fits_nar_char _) W40 1 rfl (Nat.le_of_ble_eq_true rfl)
    replace N0 := Fr.snoc X40 N0 g_b36
    replace O0 := O0.wr W40 g_b36
    replace K0 := K0.wr W40 (Or.inr sz_b36)
    refine Goes.step (T' := T40) (g' := (mkF m 62 #[.val (.int p0), .val (.int p1), .val (.ref b36), .unset, .unset] [])) st40 ?_
    refine Goes.step (T' := T40) (g' := (mkF m 63 #[.val (.int p0), .val (.int p1), .val (.ref b36), .unset, .unset] [(.ref b36)])) (fun _ kz => XS.aloadN X40.here hx rfl (hb hby at_62) rfl rfl kz) ?_
    refine Goes.step (T' := T40) (g' := (mkF m 64 #[.val (.int p0), .val (.int p1), .val (.ref b36), .unset, .unset] [(.int (2 : Int32)), (.ref b36)])) (fun _ kz => XS.iconst X40.here hx rfl (hb hby at_63) kz) ?_
    refine Goes.step (T' := T40) (g' := (mkF m 65 #[.val (.int p0), .val (.int p1), .val (.ref b36), .unset, .unset] [(.int p0), (.int (2 : Int32)), (.ref b36)])) (fun _ kz => XS.iloadN X40.here hx rfl (hb hby at_64) rfl  kz) ?_
    refine Goes.step (T' := T40) (g' := (mkF m 66 #[.val (.int p0), .val (.int p1), .val (.ref b36), .unset, .unset] [(.int (2 : Int32)), (.int p0), (.int (2 : Int32)), (.ref b36)])) (fun _ kz => XS.iconst X40.here hx rfl (hb hby at_65) kz) ?_
    obtain ⟨_, _, ⟨T41, L41, k41, n41⟩, -, X41, ⟨Lc41, hQ41, l41, y41, z41⟩, st41⟩ := Jvm.LawKit.callS X40 hx (y := (⟨"com/example/tariff/tariff/core/decimal/PlainDecimalIntegerDigitsPinLaw", "digit", "(II)C"⟩ : MethodName)) hown (mvT hZ (hw _ (List.mem_of_getElem? (i := 0) rfl))) (mvT hZ (hw _ (List.mem_of_getElem? (i := 1) rfl))) (mvT hZ (hw _ (List.mem_of_getElem? (i := 2) rfl))) (mvT hZ (hw _ (List.mem_of_getElem? (i := 3) rfl))) (by decide) (backOf (W := 2) (rm_digit l Z a0 hw [] p0 (2 : Int32) h40 n0 O0  ) hZ (hw _ (List.mem_of_getElem? (i := 3) rfl)) (hw _ (List.mem_of_getElem? (i := 2) rfl)) (by decide) (by decide)) (g := (mkF m 66 #[.val (.int p0), .val (.int p1), .val (.ref b36), .unset, .unset] [(.int (2 : Int32)), (.int p0), (.int (2 : Int32)), (.ref b36)])) rfl (by rw [hml]; rfl) (argsL := [(.int p0), (.int (2 : Int32))]) (rest := [(.int (2 : Int32)), (.ref b36)]) (lenOf pd_11 rfl) rfl (by show 2 * 0 + _ ≤ _; exact Nat.le_of_eq rfl) (hb hby at_66) (fun _ _ => ⟨rfl, e40, (by decide : 1 + 0 ≤ _), (by decide : 6 + 0 ≤ _)⟩)
    dsimp only [Pt.U, Pt.locs, Pt.cells, Pt.slots] at X41 l41 y41 z41 st41 hQ41
    subst l41 y41 z41
    obtain ⟨rfl, rfl, e41⟩ := hQ41
    replace N0 := Fr.app N0 (Fr.nil n0)
    refine Goes.step (T' := T41) (g' := (mkF m 69 #[.val (.int p0), .val (.int p1), .val (.ref b36), .unset, .unset] [(.int (DG p0 (2 : Int32))), (.int (2 : Int32)), (.ref b36)])) st41 ?_
    obtain ⟨cl42, Ar42, q42, Sz42, Nn42, Hs42, Gs42⟩ := (id V_b36 : Arv Z h40 b36 kc36 .char (6 : Int32) [(.int (nar .char (DG p0 (0 : Int32)))), (.int (nar .char (DG p0 (1 : Int32)))), (.int (0 : Int32)), (.int (0 : Int32)), (.int (0 : Int32)), (.int (0 : Int32))] (.int (0 : Int32)))
    obtain ⟨T42, h42, X42, e42, W42, st42⟩ := stC X41 hx hZ e41 Ar42 (j := (2 : Int32)) (inb_of Sz42 ⟨by decide, by decide⟩) (g := (mkF m 69 #[.val (.int p0), .val (.int p1), .val (.ref b36), .unset, .unset] [(.int (DG p0 (2 : Int32))), (.int (2 : Int32)), (.ref b36)])) rfl rfl (hb hby at_69)
    replace V_b36 : Arv Z h42 b36 kc36 .char (6 : Int32) [(.int (nar .char (DG p0 (0 : Int32)))), (.int (nar .char (DG p0 (1 : Int32)))), (.int (nar .char (DG p0 (2 : Int32)))), (.int (0 : Int32)), (.int (0 : Int32)), (.int (0 : Int32))] (.int (0 : Int32)) := Arv.set Ar42 q42 Sz42 Nn42 Hs42 Gs42 (fits_nar_char _) W42 2 rfl (Nat.le_of_ble_eq_true rfl)
    replace N0 := Fr.snoc X42 N0 g_b36
    replace O0 := O0.wr W42 g_b36
    replace K0 := K0.wr W42 (Or.inr sz_b36)
    refine Goes.step (T' := T42) (g' := (mkF m 70 #[.val (.int p0), .val (.int p1), .val (.ref b36), .unset, .unset] [])) st42 ?_
    refine Goes.step (T' := T42) (g' := (mkF m 71 #[.val (.int p0), .val (.int p1), .val (.ref b36), .unset, .unset] [(.ref b36)])) (fun _ kz => XS.aloadN X42.here hx rfl (hb hby at_70) rfl rfl kz) ?_
    refine Goes.step (T' := T42) (g' := (mkF m 72 #[.val (.int p0), .val (.int p1), .val (.ref b36), .unset, .unset] [(.int (3 : Int32)), (.ref b36)])) (fun _ kz => XS.iconst X42.here hx rfl (hb hby at_71) kz) ?_
    refine Goes.step (T' := T42) (g' := (mkF m 73 #[.val (.int p0), .val (.int p1), .val (.ref b36), .unset, .unset] [(.int p0), (.int (3 : Int32)), (.ref b36)])) (fun _ kz => XS.iloadN X42.here hx rfl (hb hby at_72) rfl  kz) ?_
    refine Goes.step (T' := T42) (g' := (mkF m 74 #[.val (.int p0), .val (.int p1), .val (.ref b36), .unset, .unset] [(.int (3 : Int32)), (.int p0), (.int (3 : Int32)), (.ref b36)])) (fun _ kz => XS.iconst X42.here hx rfl (hb hby at_73) kz) ?_
    obtain ⟨_, _, ⟨T43, L43, k43, n43⟩, -, X43, ⟨Lc43, hQ43, l43, y43, z43⟩, st43⟩ := Jvm.LawKit.callS X42 hx (y := (⟨"com/example/tariff/tariff/core/decimal/PlainDecimalIntegerDigitsPinLaw", "digit", "(II)C"⟩ : MethodName)) hown (mvT hZ (hw _ (List.mem_of_getElem? (i := 0) rfl))) (mvT hZ (hw _ (List.mem_of_getElem? (i := 1) rfl))) (mvT hZ (hw _ (List.mem_of_getElem? (i := 2) rfl))) (mvT hZ (hw _ (List.mem_of_getElem? (i := 3) rfl))) (by decide) (backOf (W := 2) (rm_digit l Z a0 hw [] p0 (3 : Int32) h42 n0 O0  ) hZ (hw _ (List.mem_of_getElem? (i := 3) rfl)) (hw _ (List.mem_of_getElem? (i := 2) rfl)) (by decide) (by decide)) (g := (mkF m 74 #[.val (.int p0), .val (.int p1), .val (.ref b36), .unset, .unset] [(.int (3 : Int32)), (.int p0), (.int (3 : Int32)), (.ref b36)])) rfl (by rw [hml]; rfl) (argsL := [(.int p0), (.int (3 : Int32))]) (rest := [(.int (3 : Int32)), (.ref b36)]) (lenOf pd_11 rfl) rfl (by show 2 * 0 + _ ≤ _; exact Nat.le_of_eq rfl) (hb hby at_74) (fun _ _ => ⟨rfl, e42, (by decide : 1 + 0 ≤ _), (by decide : 6 + 0 ≤ _)⟩)
    dsimp only [Pt.U, Pt.locs, Pt.cells, Pt.slots] at X43 l43 y43 z43 st43 hQ43
    subst l43 y43 z43
    obtain ⟨rfl, rfl, e43⟩ := hQ43
    replace N0 := Fr.app N0 (Fr.nil n0)
    refine Goes.step (T' := T43) (g' := (mkF m 77 #[.val (.int p0), .val (.int p1), .val (.ref b36), .unset, .unset] [(.int (DG p0 (3 : Int32))), (.int (3 : Int32)), (.ref b36)])) st43 ?_
    obtain ⟨cl44, Ar44, q44, Sz44, Nn44, Hs44, Gs44⟩ := (id V_b36 : Arv Z h42 b36 kc36 .char (6 : Int32) [(.int (nar .char (DG p0 (0 : Int32)))), (.int (nar .char (DG p0 (1 : Int32)))), (.int (nar .char (DG p0 (2 : Int32)))), (.int (0 : Int32)), (.int (0 : Int32)), (.int (0 : Int32))] (.int (0 : Int32)))
    obtain ⟨T44, h44, X44, e44, W44, st44⟩ := stC X43 hx hZ e43 Ar44 (j := (3 : Int32)) (inb_of Sz44 ⟨by decide, by decide⟩) (g := (mkF m 77 #[.val (.int p0), .val (.int p1), .val (.ref b36), .unset, .unset] [(.int (DG p0 (3 : Int32))), (.int (3 : Int32)), (.ref b36)])) rfl rfl (hb hby at_77)
    replace V_b36 : Arv Z h44 b36 kc36 .char (6 : Int32) [(.int (nar .char (DG p0 (0 : Int32)))), (.int (nar .char (DG p0 (1 : Int32)))), (.int (nar .char (DG p0 (2 : Int32)))), (.int (nar .char (DG p0 (3 : Int32)))), (.int (0 : Int32)), (.int (0 : Int32))] (.int (0 : Int32)) := Arv.set Ar44 q44 Sz44 Nn44 Hs44 Gs44 (fits_nar_char _) W44 3 rfl (Nat.le_of_ble_eq_true rfl)
    replace N0 := Fr.snoc X44 N0 g_b36
    replace O0 := O0.wr W44 g_b36
    replace K0 := K0.wr W44 (Or.inr sz_b36)
    refine Goes.step (T' := T44) (g' := (mkF m 78 #[.val (.int p0), .val (.int p1), .val (.ref b36), .unset, .unset] [])) st44 ?_
    refine Goes.step (T' := T44) (g' := (mkF m 79 #[.val (.int p0), .val (.int p1), .val (.ref b36), .unset, .unset] [(.ref b36)])) (fun _ kz => XS.aloadN X44.here hx rfl (hb hby at_78) rfl rfl kz) ?_
    refine Goes.step (T' := T44) (g' := (mkF m 80 #[.val (.int p0), .val (.int p1), .val (.ref b36), .unset, .unset] [(.int (4 : Int32)), (.ref b36)])) (fun _ kz => XS.iconst X44.here hx rfl (hb hby at_79) kz) ?_
    refine Goes.step (T' := T44) (g' := (mkF m 81 #[.val (.int p0), .val (.int p1), .val (.ref b36), .unset, .unset] [(.int p0), (.int (4 : Int32)), (.ref b36)])) (fun _ kz => XS.iloadN X44.here hx rfl (hb hby at_80) rfl  kz) ?_
    refine Goes.step (T' := T44) (g' := (mkF m 82 #[.val (.int p0), .val (.int p1), .val (.ref b36), .unset, .unset] [(.int (4 : Int32)), (.int p0), (.int (4 : Int32)), (.ref b36)])) (fun _ kz => XS.iconst X44.here hx rfl (hb hby at_81) kz) ?_
    obtain ⟨_, _, ⟨T45, L45, k45, n45⟩, -, X45, ⟨Lc45, hQ45, l45, y45, z45⟩, st45⟩ := Jvm.LawKit.callS X44 hx (y := (⟨"com/example/tariff/tariff/core/decimal/PlainDecimalIntegerDigitsPinLaw", "digit", "(II)C"⟩ : MethodName)) hown (mvT hZ (hw _ (List.mem_of_getElem? (i := 0) rfl))) (mvT hZ (hw _ (List.mem_of_getElem? (i := 1) rfl))) (mvT hZ (hw _ (List.mem_of_getElem? (i := 2) rfl))) (mvT hZ (hw _ (List.mem_of_getElem? (i := 3) rfl))) (by decide) (backOf (W := 2) (rm_digit l Z a0 hw [] p0 (4 : Int32) h44 n0 O0  ) hZ (hw _ (List.mem_of_getElem? (i := 3) rfl)) (hw _ (List.mem_of_getElem? (i := 2) rfl)) (by decide) (by decide)) (g := (mkF m 82 #[.val (.int p0), .val (.int p1), .val (.ref b36), .unset, .unset] [(.int (4 : Int32)), (.int p0), (.int (4 : Int32)), (.ref b36)])) rfl (by rw [hml]; rfl) (argsL := [(.int p0), (.int (4 : Int32))]) (rest := [(.int (4 : Int32)), (.ref b36)]) (lenOf pd_11 rfl) rfl (by show 2 * 0 + _ ≤ _; exact Nat.le_of_eq rfl) (hb hby at_82) (fun _ _ => ⟨rfl, e44, (by decide : 1 + 0 ≤ _), (by decide : 6 + 0 ≤ _)⟩)
    dsimp only [Pt.U, Pt.locs, Pt.cells, Pt.slots] at X45 l45 y45 z45 st45 hQ45
    subst l45 y45 z45
    obtain ⟨rfl, rfl, e45⟩ := hQ45
    replace N0 := Fr.app N0 (Fr.nil n0)
    refine Goes.step (T' := T45) (g' := (mkF m 85 #[.val (.int p0), .val (.int p1), .val (.ref b36), .unset, .unset] [(.int (DG p0 (4 : Int32))), (.int (4 : Int32)), (.ref b36)])) st45 ?_
    obtain ⟨cl46, Ar46, q46, Sz46, Nn46, Hs46, Gs46⟩ := (id V_b36 : Arv Z h44 b36 kc36 .char (6 : Int32) [(.int (nar .char (DG p0 (0 : Int32)))), (.int (nar .char (DG p0 (1 : Int32)))), (.int (nar .char (DG p0 (2 : Int32)))), (.int (nar .char (DG p0 (3 : Int32)))), (.int (0 : Int32)), (.int (0 : Int32))] (.int (0 : Int32)))
    obtain ⟨T46, h46, X46, e46, W46, st46⟩ := stC X45 hx hZ e45 Ar46 (j := (4 : Int32)) (inb_of Sz46 ⟨by decide, by decide⟩) (g := (mkF m 85 #[.val (.int p0), .val (.int p1), .val (.ref b36), .unset, .unset] [(.int (DG p0 (4 : Int32))), (.int (4 : Int32)), (.ref b36)])) rfl rfl (hb hby at_85)
    replace V_b36 : Arv Z h46 b36 kc36 .char (6 : Int32) [(.int (nar .char (DG p0 (0 : Int32)))), (.int (nar .char (DG p0 (1 : Int32)))), (.int (nar .char (DG p0 (2 : Int32)))), (.int (nar .char (DG p0 (3 : Int32)))), (.int (nar .char (DG p0 (4 : Int32)))), (.int (0 : Int32))] (.int (0 : Int32)) := Arv.set Ar46 q46 Sz46 Nn46 Hs46 Gs46 (fits_nar_char _) W46 4 rfl (Nat.le_of_ble_eq_true rfl)
    replace N0 := Fr.snoc X46 N0 g_b36
    replace O0 := O0.wr W46 g_b36
    replace K0 := K0.wr W46 (Or.inr sz_b36)
    refine Goes.step (T' := T46) (g' := (mkF m 86 #[.val (.int p0), .val (.int p1), .val (.ref b36), .unset, .unset] [])) st46 ?_
    refine Goes.step (T' := T46) (g' := (mkF m 87 #[.val (.int p0), .val (.int p1), .val (.ref b36), .unset, .unset] [(.ref b36)])) (fun _ kz => XS.aloadN X46.here hx rfl (hb hby at_86) rfl rfl kz) ?_
    refine Goes.step (T' := T46) (g' := (mkF m 88 #[.val (.int p0), .val (.int p1), .val (.ref b36), .unset, .unset] [(.int (5 : Int32)), (.ref b36)])) (fun _ kz => XS.iconst X46.here hx rfl (hb hby at_87) kz) ?_
    refine Goes.step (T' := T46) (g' := (mkF m 89 #[.val (.int p0), .val (.int p1), .val (.ref b36), .unset, .unset] [(.int p0), (.int (5 : Int32)), (.ref b36)])) (fun _ kz => XS.iloadN X46.here hx rfl (hb hby at_88) rfl  kz) ?_
    refine Goes.step (T' := T46) (g' := (mkF m 90 #[.val (.int p0), .val (.int p1), .val (.ref b36), .unset, .unset] [(.int (5 : Int32)), (.int p0), (.int (5 : Int32)), (.ref b36)])) (fun _ kz => XS.iconst X46.here hx rfl (hb hby at_89) kz) ?_
    obtain ⟨_, _, ⟨T47, L47, k47, n47⟩, -, X47, ⟨Lc47, hQ47, l47, y47, z47⟩, st47⟩ := Jvm.LawKit.callS X46 hx (y := (⟨"com/example/tariff/tariff/core/decimal/PlainDecimalIntegerDigitsPinLaw", "digit", "(II)C"⟩ : MethodName)) hown (mvT hZ (hw _ (List.mem_of_getElem? (i := 0) rfl))) (mvT hZ (hw _ (List.mem_of_getElem? (i := 1) rfl))) (mvT hZ (hw _ (List.mem_of_getElem? (i := 2) rfl))) (mvT hZ (hw _ (List.mem_of_getElem? (i := 3) rfl))) (by decide) (backOf (W := 2) (rm_digit l Z a0 hw [] p0 (5 : Int32) h46 n0 O0  ) hZ (hw _ (List.mem_of_getElem? (i := 3) rfl)) (hw _ (List.mem_of_getElem? (i := 2) rfl)) (by decide) (by decide)) (g := (mkF m 90 #[.val (.int p0), .val (.int p1), .val (.ref b36), .unset, .unset] [(.int (5 : Int32)), (.int p0), (.int (5 : Int32)), (.ref b36)])) rfl (by rw [hml]; rfl) (argsL := [(.int p0), (.int (5 : Int32))]) (rest := [(.int (5 : Int32)), (.ref b36)]) (lenOf pd_11 rfl) rfl (by show 2 * 0 + _ ≤ _; exact Nat.le_of_eq rfl) (hb hby at_90) (fun _ _ => ⟨rfl, e46, (by decide : 1 + 0 ≤ _), (by decide : 6 + 0 ≤ _)⟩)
    dsimp only [Pt.U, Pt.locs, Pt.cells, Pt.slots] at X47 l47 y47 z47 st47 hQ47
    subst l47 y47 z47
    obtain ⟨rfl, rfl, e47⟩ := hQ47
    replace N0 := Fr.app N0 (Fr.nil n0)
    refine Goes.step (T' := T47) (g' := (mkF m 93 #[.val (.int p0), .val (.int p1), .val (.ref b36), .unset, .unset] [(.int (DG p0 (5 : Int32))), (.int (5 : Int32)), (.ref b36)])) st47 ?_
    obtain ⟨cl48, Ar48, q48, Sz48, Nn48, Hs48, Gs48⟩ := (id V_b36 : Arv Z h46 b36 kc36 .char (6 : Int32) [(.int (nar .char (DG p0 (0 : Int32)))), (.int (nar .char (DG p0 (1 : Int32)))), (.int (nar .char (DG p0 (2 : Int32)))), (.int (nar .char (DG p0 (3 : Int32)))), (.int (nar .char (DG p0 (4 : Int32)))), (.int (0 : Int32))] (.int (0 : Int32)))
    obtain ⟨T48, h48, X48, e48, W48, st48⟩ := stC X47 hx hZ e47 Ar48 (j := (5 : Int32)) (inb_of Sz48 ⟨by decide, by decide⟩) (g := (mkF m 93 #[.val (.int p0), .val (.int p1), .val (.ref b36), .unset, .unset] [(.int (DG p0 (5 : Int32))), (.int (5 : Int32)), (.ref b36)])) rfl rfl (hb hby at_93)
    replace V_b36 : Arv Z h48 b36 kc36 .char (6 : Int32) [(.int (nar .char (DG p0 (0 : Int32)))), (.int (nar .char (DG p0 (1 : Int32)))), (.int (nar .char (DG p0 (2 : Int32)))), (.int (nar .char (DG p0 (3 : Int32)))), (.int (nar .char (DG p0 (4 : Int32)))), (.int (nar .char (DG p0 (5 : Int32))))] (.int (0 : Int32)) := Arv.set Ar48 q48 Sz48 Nn48 Hs48 Gs48 (fits_nar_char _) W48 5 rfl (Nat.le_of_ble_eq_true rfl)
    replace N0 := Fr.snoc X48 N0 g_b36
    replace O0 := O0.wr W48 g_b36
    replace K0 := K0.wr W48 (Or.inr sz_b36)
    refine Goes.step (T' := T48) (g' := (mkF m 94 #[.val (.int p0), .val (.int p1), .val (.ref b36), .unset, .unset] [])) st48 ?_
    refine Goes.step (T' := T48) (g' := (mkF m 95 #[.val (.int p0), .val (.int p1), .val (.ref b36), .unset, .unset] [(.int p1)])) (fun _ kz => XS.iloadN X48.here hx rfl (hb hby at_94) rfl  kz) ?_
    refine Goes.step (T' := T48) (g' := (mkF m 96 #[.val (.int p0), .val (.int p1), .val (.ref b36), .unset, .unset] [(.int (1 : Int32)), (.int p1)])) (fun _ kz => XS.iconst X48.here hx rfl (hb hby at_95) kz) ?_
    refine Goes.step (T' := T48) (g' := (mkF m 97 #[.val (.int p0), .val (.int p1), .val (.ref b36), .unset, .unset] [(.int ((p1.toUInt32 >>> ((1 : Int32) &&& 31).toUInt32).toInt32))])) (fun _ kz => XS.iushr X48.here hx rfl (hb hby at_96) rfl kz) ?_
    refine Goes.step (T' := T48) (g' := (mkF m 99 #[.val (.int p0), .val (.int p1), .val (.ref b36), .unset, .unset] [(.int (7 : Int32)), (.int ((p1.toUInt32 >>> ((1 : Int32) &&& 31).toUInt32).toInt32))])) (fun _ kz => XS.bipush X48.here hx rfl (hb hby at_97) kz) ?_
    refine Goes.step (T' := T48) (g' := (mkF m 100 #[.val (.int p0), .val (.int p1), .val (.ref b36), .unset, .unset] [(.int (((p1.toUInt32 >>> ((1 : Int32) &&& 31).toUInt32).toInt32) &&& (7 : Int32)))])) (fun _ kz => XS.iand X48.here hx rfl (hb hby at_99) rfl kz) ?_
    refine Goes.step (T' := T48) (g' := (mkF m 101 #[.val (.int p0), .val (.int p1), .val (.ref b36), .val (.int (((p1.toUInt32 >>> ((1 : Int32) &&& 31).toUInt32).toInt32) &&& (7 : Int32))), .unset] [])) (fun _ kz => XS.istoreN X48.here hx rfl (hb hby at_100) rfl (l' := #[.val (.int p0), .val (.int p1), .val (.ref b36), .val (.int (((p1.toUInt32 >>> ((1 : Int32) &&& 31).toUInt32).toInt32) &&& (7 : Int32))), .unset]) rfl kz) ?_
    simp only [DG_nar] at V_b36
    suffices J1 : ∀ (pp : Nat) (cs : List Int32) (hP : Pic cs pp) (T49 : State) (h49 : Heap) (locs49 : List Loc) (X49 : Stand p l e room_1 s m #[(.int p0), (.int p1)] below meth c T49 locs49 1 6) (e49 : T49.heap = h49) (N0 : Fr n0 locs49) (K0 : Keep h0 h49 []) (O0 : Old Z n0 h49) (V_b36 : Arv Z h49 b36 kc36 .char (6 : Int32) (cs.map Value.int) (.int (0 : Int32))), Goes p e below (fun o U' => ∃ v L, o = .returned v ∧ Q_law Z p0 p1 h0 n0 v U'.heap L ∧ FrameEnd s o U' L 16 128) T49 (mkF m 122 #[.val (.int p0), .val (.int p1), .val (.ref b36), .val (.int (Int32.ofNat pp)), .unset] []) by
      rcases own_v8 ((p1.toUInt32 >>> ((1 : Int32) &&& 31).toUInt32).toInt32) with hv | hv | hv | hv | hv | hv | hv | hv
      ·
        rw [hv]
        refine Goes.step (T' := T48) (g' := (mkF m 102 #[.val (.int p0), .val (.int p1), .val (.ref b36), .val (.int (0 : Int32)), .unset] [(.int (0 : Int32))])) (fun _ kz => XS.iloadN X48.here hx rfl (hb hby at_101) rfl  kz) ?_
        refine Goes.step (T' := T48) (g' := (mkF m 103 #[.val (.int p0), .val (.int p1), .val (.ref b36), .val (.int (0 : Int32)), .unset] [(.int (1 : Int32)), (.int (0 : Int32))])) (fun _ kz => XS.iconst X48.here hx rfl (hb hby at_102) kz) ?_
        refine Goes.step (T' := T48) (g' := (mkF m 119 #[.val (.int p0), .val (.int p1), .val (.ref b36), .val (.int (0 : Int32)), .unset] [])) (fun _ kz => XS.icmpYes X48.here hx rfl (pc0 := 103) (pc' := 119) rfl (hb hby at_103) rfl (tlt (by decide : ((0 : Int32) < (1 : Int32)))).1 (by decide) (by decide) kz) ?_
        refine Goes.step (T' := T48) (g' := (mkF m 121 #[.val (.int p0), .val (.int p1), .val (.ref b36), .val (.int (0 : Int32)), .unset] [(.int (6 : Int32))])) (fun _ kz => XS.bipush X48.here hx rfl (hb hby at_119) kz) ?_
        refine Goes.step (T' := T48) (g' := (mkF m 122 #[.val (.int p0), .val (.int p1), .val (.ref b36), .val (.int (6 : Int32)), .unset] [])) (fun _ kz => XS.istoreN X48.here hx rfl (hb hby at_121) rfl (l' := #[.val (.int p0), .val (.int p1), .val (.ref b36), .val (.int (6 : Int32)), .unset]) rfl kz) ?_
        have V2 : Arv Z h48 b36 kc36 .char (6 : Int32) ((DL p0).map Value.int) (.int (0 : Int32)) := V_b36
        exact J1 (6) (DL p0) (pic6 p0) _ _ _ (X48.mono (by decide) (by decide)) e48 N0 K0 O0 V2
      ·
        rw [hv]
        refine Goes.step (T' := T48) (g' := (mkF m 102 #[.val (.int p0), .val (.int p1), .val (.ref b36), .val (.int (1 : Int32)), .unset] [(.int (1 : Int32))])) (fun _ kz => XS.iloadN X48.here hx rfl (hb hby at_101) rfl  kz) ?_
        refine Goes.step (T' := T48) (g' := (mkF m 103 #[.val (.int p0), .val (.int p1), .val (.ref b36), .val (.int (1 : Int32)), .unset] [(.int (1 : Int32)), (.int (1 : Int32))])) (fun _ kz => XS.iconst X48.here hx rfl (hb hby at_102) kz) ?_
        refine Goes.step (T' := T48) (g' := (mkF m 106 #[.val (.int p0), .val (.int p1), .val (.ref b36), .val (.int (1 : Int32)), .unset] [])) (fun _ kz => XS.icmpNo X48.here hx rfl (hb hby at_103) rfl (flt (by decide : ¬ ((1 : Int32) < (1 : Int32)))).1 kz) ?_
        refine Goes.step (T' := T48) (g' := (mkF m 107 #[.val (.int p0), .val (.int p1), .val (.ref b36), .val (.int (1 : Int32)), .unset] [(.int (1 : Int32))])) (fun _ kz => XS.iloadN X48.here hx rfl (hb hby at_106) rfl  kz) ?_
        refine Goes.step (T' := T48) (g' := (mkF m 108 #[.val (.int p0), .val (.int p1), .val (.ref b36), .val (.int (1 : Int32)), .unset] [(.int (4 : Int32)), (.int (1 : Int32))])) (fun _ kz => XS.iconst X48.here hx rfl (hb hby at_107) kz) ?_
        refine Goes.step (T' := T48) (g' := (mkF m 111 #[.val (.int p0), .val (.int p1), .val (.ref b36), .val (.int (1 : Int32)), .unset] [])) (fun _ kz => XS.icmpNo X48.here hx rfl (hb hby at_108) rfl (flt (by decide : ¬ ((4 : Int32) < (1 : Int32)))).2.2.1 kz) ?_
        refine Goes.step (T' := T48) (g' := (mkF m 112 #[.val (.int p0), .val (.int p1), .val (.ref b36), .val (.int (1 : Int32)), .unset] [(.ref b36)])) (fun _ kz => XS.aloadN X48.here hx rfl (hb hby at_111) rfl rfl kz) ?_
        refine Goes.step (T' := T48) (g' := (mkF m 113 #[.val (.int p0), .val (.int p1), .val (.ref b36), .val (.int (1 : Int32)), .unset] [(.int (1 : Int32)), (.ref b36)])) (fun _ kz => XS.iloadN X48.here hx rfl (hb hby at_112) rfl  kz) ?_
        refine Goes.step (T' := T48) (g' := (mkF m 115 #[.val (.int p0), .val (.int p1), .val (.ref b36), .val (.int (1 : Int32)), .unset] [(.int (46 : Int32)), (.int (1 : Int32)), (.ref b36)])) (fun _ kz => XS.bipush X48.here hx rfl (hb hby at_113) kz) ?_
        obtain ⟨cl50, Ar50, q50, Sz50, Nn50, Hs50, Gs50⟩ := (id V_b36 : Arv Z h48 b36 kc36 .char (6 : Int32) [(.int (DG p0 0)), (.int (DG p0 1)), (.int (DG p0 2)), (.int (DG p0 3)), (.int (DG p0 4)), (.int (DG p0 5))] (.int (0 : Int32)))
        obtain ⟨T50, h50, X50, e50, W50, st50⟩ := stC X48 hx hZ e48 Ar50 (j := (1 : Int32)) (inb_of Sz50 ⟨by decide, by decide⟩) (g := (mkF m 115 #[.val (.int p0), .val (.int p1), .val (.ref b36), .val (.int (1 : Int32)), .unset] [(.int (46 : Int32)), (.int (1 : Int32)), (.ref b36)])) rfl rfl (hb hby at_115)
        replace V_b36 : Arv Z h50 b36 kc36 .char (6 : Int32) [(.int (DG p0 0)), (.int (nar .char (46 : Int32))), (.int (DG p0 2)), (.int (DG p0 3)), (.int (DG p0 4)), (.int (DG p0 5))] (.int (0 : Int32)) := Arv.set Ar50 q50 Sz50 Nn50 Hs50 Gs50 (fits_nar_char _) W50 1 rfl (Nat.le_of_ble_eq_true rfl)
        replace N0 := Fr.snoc X50 N0 g_b36
        replace O0 := O0.wr W50 g_b36
        replace K0 := K0.wr W50 (Or.inr sz_b36)
        refine Goes.step (T' := T50) (g' := (mkF m 116 #[.val (.int p0), .val (.int p1), .val (.ref b36), .val (.int (1 : Int32)), .unset] [])) st50 ?_
        refine Goes.step (T' := T50) (g' := (mkF m 122 #[.val (.int p0), .val (.int p1), .val (.ref b36), .val (.int (1 : Int32)), .unset] [])) (fun _ kz => XS.goto X50.here hx rfl (pc0 := 116) (pc' := 122) rfl (hb hby at_116) (by decide) (by decide) kz) ?_
        have V2 : Arv Z h50 b36 kc36 .char (6 : Int32) (((DL p0).set 1 46).map Value.int) (.int (0 : Int32)) := V_b36
        exact J1 (1) ((DL p0).set 1 46) (picS p0 (by decide) (by decide)) _ _ _ (X50.mono (by decide) (by decide)) e50 N0 K0 O0 V2
      ·
        rw [hv]
        refine Goes.step (T' := T48) (g' := (mkF m 102 #[.val (.int p0), .val (.int p1), .val (.ref b36), .val (.int (2 : Int32)), .unset] [(.int (2 : Int32))])) (fun _ kz => XS.iloadN X48.here hx rfl (hb hby at_101) rfl  kz) ?_
        refine Goes.step (T' := T48) (g' := (mkF m 103 #[.val (.int p0), .val (.int p1), .val (.ref b36), .val (.int (2 : Int32)), .unset] [(.int (1 : Int32)), (.int (2 : Int32))])) (fun _ kz => XS.iconst X48.here hx rfl (hb hby at_102) kz) ?_
        refine Goes.step (T' := T48) (g' := (mkF m 106 #[.val (.int p0), .val (.int p1), .val (.ref b36), .val (.int (2 : Int32)), .unset] [])) (fun _ kz => XS.icmpNo X48.here hx rfl (hb hby at_103) rfl (flt (by decide : ¬ ((2 : Int32) < (1 : Int32)))).1 kz) ?_
        refine Goes.step (T' := T48) (g' := (mkF m 107 #[.val (.int p0), .val (.int p1), .val (.ref b36), .val (.int (2 : Int32)), .unset] [(.int (2 : Int32))])) (fun _ kz => XS.iloadN X48.here hx rfl (hb hby at_106) rfl  kz) ?_
        refine Goes.step (T' := T48) (g' := (mkF m 108 #[.val (.int p0), .val (.int p1), .val (.ref b36), .val (.int (2 : Int32)), .unset] [(.int (4 : Int32)), (.int (2 : Int32))])) (fun _ kz => XS.iconst X48.here hx rfl (hb hby at_107) kz) ?_
        refine Goes.step (T' := T48) (g' := (mkF m 111 #[.val (.int p0), .val (.int p1), .val (.ref b36), .val (.int (2 : Int32)), .unset] [])) (fun _ kz => XS.icmpNo X48.here hx rfl (hb hby at_108) rfl (flt (by decide : ¬ ((4 : Int32) < (2 : Int32)))).2.2.1 kz) ?_
        refine Goes.step (T' := T48) (g' := (mkF m 112 #[.val (.int p0), .val (.int p1), .val (.ref b36), .val (.int (2 : Int32)), .unset] [(.ref b36)])) (fun _ kz => XS.aloadN X48.here hx rfl (hb hby at_111) rfl rfl kz) ?_
        refine Goes.step (T' := T48) (g' := (mkF m 113 #[.val (.int p0), .val (.int p1), .val (.ref b36), .val (.int (2 : Int32)), .unset] [(.int (2 : Int32)), (.ref b36)])) (fun _ kz => XS.iloadN X48.here hx rfl (hb hby at_112) rfl  kz) ?_
        refine Goes.step (T' := T48) (g' := (mkF m 115 #[.val (.int p0), .val (.int p1), .val (.ref b36), .val (.int (2 : Int32)), .unset] [(.int (46 : Int32)), (.int (2 : Int32)), (.ref b36)])) (fun _ kz => XS.bipush X48.here hx rfl (hb hby at_113) kz) ?_
        obtain ⟨cl51, Ar51, q51, Sz51, Nn51, Hs51, Gs51⟩ := (id V_b36 : Arv Z h48 b36 kc36 .char (6 : Int32) [(.int (DG p0 0)), (.int (DG p0 1)), (.int (DG p0 2)), (.int (DG p0 3)), (.int (DG p0 4)), (.int (DG p0 5))] (.int (0 : Int32)))
        obtain ⟨T51, h51, X51, e51, W51, st51⟩ := stC X48 hx hZ e48 Ar51 (j := (2 : Int32)) (inb_of Sz51 ⟨by decide, by decide⟩) (g := (mkF m 115 #[.val (.int p0), .val (.int p1), .val (.ref b36), .val (.int (2 : Int32)), .unset] [(.int (46 : Int32)), (.int (2 : Int32)), (.ref b36)])) rfl rfl (hb hby at_115)
        replace V_b36 : Arv Z h51 b36 kc36 .char (6 : Int32) [(.int (DG p0 0)), (.int (DG p0 1)), (.int (nar .char (46 : Int32))), (.int (DG p0 3)), (.int (DG p0 4)), (.int (DG p0 5))] (.int (0 : Int32)) := Arv.set Ar51 q51 Sz51 Nn51 Hs51 Gs51 (fits_nar_char _) W51 2 rfl (Nat.le_of_ble_eq_true rfl)
        replace N0 := Fr.snoc X51 N0 g_b36
        replace O0 := O0.wr W51 g_b36
        replace K0 := K0.wr W51 (Or.inr sz_b36)
        refine Goes.step (T' := T51) (g' := (mkF m 116 #[.val (.int p0), .val (.int p1), .val (.ref b36), .val (.int (2 : Int32)), .unset] [])) st51 ?_
        refine Goes.step (T' := T51) (g' := (mkF m 122 #[.val (.int p0), .val (.int p1), .val (.ref b36), .val (.int (2 : Int32)), .unset] [])) (fun _ kz => XS.goto X51.here hx rfl (pc0 := 116) (pc' := 122) rfl (hb hby at_116) (by decide) (by decide) kz) ?_
        have V2 : Arv Z h51 b36 kc36 .char (6 : Int32) (((DL p0).set 2 46).map Value.int) (.int (0 : Int32)) := V_b36
        exact J1 (2) ((DL p0).set 2 46) (picS p0 (by decide) (by decide)) _ _ _ (X51.mono (by decide) (by decide)) e51 N0 K0 O0 V2
      ·
        rw [hv]
        refine Goes.step (T' := T48) (g' := (mkF m 102 #[.val (.int p0), .val (.int p1), .val (.ref b36), .val (.int (3 : Int32)), .unset] [(.int (3 : Int32))])) (fun _ kz => XS.iloadN X48.here hx rfl (hb hby at_101) rfl  kz) ?_
        refine Goes.step (T' := T48) (g' := (mkF m 103 #[.val (.int p0), .val (.int p1), .val (.ref b36), .val (.int (3 : Int32)), .unset] [(.int (1 : Int32)), (.int (3 : Int32))])) (fun _ kz => XS.iconst X48.here hx rfl (hb hby at_102) kz) ?_
        refine Goes.step (T' := T48) (g' := (mkF m 106 #[.val (.int p0), .val (.int p1), .val (.ref b36), .val (.int (3 : Int32)), .unset] [])) (fun _ kz => XS.icmpNo X48.here hx rfl (hb hby at_103) rfl (flt (by decide : ¬ ((3 : Int32) < (1 : Int32)))).1 kz) ?_
        refine Goes.step (T' := T48) (g' := (mkF m 107 #[.val (.int p0), .val (.int p1), .val (.ref b36), .val (.int (3 : Int32)), .unset] [(.int (3 : Int32))])) (fun _ kz => XS.iloadN X48.here hx rfl (hb hby at_106) rfl  kz) ?_
        refine Goes.step (T' := T48) (g' := (mkF m 108 #[.val (.int p0), .val (.int p1), .val (.ref b36), .val (.int (3 : Int32)), .unset] [(.int (4 : Int32)), (.int (3 : Int32))])) (fun _ kz => XS.iconst X48.here hx rfl (hb hby at_107) kz) ?_
        refine Goes.step (T' := T48) (g' := (mkF m 111 #[.val (.int p0), .val (.int p1), .val (.ref b36), .val (.int (3 : Int32)), .unset] [])) (fun _ kz => XS.icmpNo X48.here hx rfl (hb hby at_108) rfl (flt (by decide : ¬ ((4 : Int32) < (3 : Int32)))).2.2.1 kz) ?_
        refine Goes.step (T' := T48) (g' := (mkF m 112 #[.val (.int p0), .val (.int p1), .val (.ref b36), .val (.int (3 : Int32)), .unset] [(.ref b36)])) (fun _ kz => XS.aloadN X48.here hx rfl (hb hby at_111) rfl rfl kz) ?_
        refine Goes.step (T' := T48) (g' := (mkF m 113 #[.val (.int p0), .val (.int p1), .val (.ref b36), .val (.int (3 : Int32)), .unset] [(.int (3 : Int32)), (.ref b36)])) (fun _ kz => XS.iloadN X48.here hx rfl (hb hby at_112) rfl  kz) ?_
        refine Goes.step (T' := T48) (g' := (mkF m 115 #[.val (.int p0), .val (.int p1), .val (.ref b36), .val (.int (3 : Int32)), .unset] [(.int (46 : Int32)), (.int (3 : Int32)), (.ref b36)])) (fun _ kz => XS.bipush X48.here hx rfl (hb hby at_113) kz) ?_
        obtain ⟨cl52, Ar52, q52, Sz52, Nn52, Hs52, Gs52⟩ := (id V_b36 : Arv Z h48 b36 kc36 .char (6 : Int32) [(.int (DG p0 0)), (.int (DG p0 1)), (.int (DG p0 2)), (.int (DG p0 3)), (.int (DG p0 4)), (.int (DG p0 5))] (.int (0 : Int32)))
        obtain ⟨T52, h52, X52, e52, W52, st52⟩ := stC X48 hx hZ e48 Ar52 (j := (3 : Int32)) (inb_of Sz52 ⟨by decide, by decide⟩) (g := (mkF m 115 #[.val (.int p0), .val (.int p1), .val (.ref b36), .val (.int (3 : Int32)), .unset] [(.int (46 : Int32)), (.int (3 : Int32)), (.ref b36)])) rfl rfl (hb hby at_115)
        replace V_b36 : Arv Z h52 b36 kc36 .char (6 : Int32) [(.int (DG p0 0)), (.int (DG p0 1)), (.int (DG p0 2)), (.int (nar .char (46 : Int32))), (.int (DG p0 4)), (.int (DG p0 5))] (.int (0 : Int32)) := Arv.set Ar52 q52 Sz52 Nn52 Hs52 Gs52 (fits_nar_char _) W52 3 rfl (Nat.le_of_ble_eq_true rfl)
        replace N0 := Fr.snoc X52 N0 g_b36
        replace O0 := O0.wr W52 g_b36
        replace K0 := K0.wr W52 (Or.inr sz_b36)
        refine Goes.step (T' := T52) (g' := (mkF m 116 #[.val (.int p0), .val (.int p1), .val (.ref b36), .val (.int (3 : Int32)), .unset] [])) st52 ?_
        refine Goes.step (T' := T52) (g' := (mkF m 122 #[.val (.int p0), .val (.int p1), .val (.ref b36), .val (.int (3 : Int32)), .unset] [])) (fun _ kz => XS.goto X52.here hx rfl (pc0 := 116) (pc' := 122) rfl (hb hby at_116) (by decide) (by decide) kz) ?_
        have V2 : Arv Z h52 b36 kc36 .char (6 : Int32) (((DL p0).set 3 46).map Value.int) (.int (0 : Int32)) := V_b36
        exact J1 (3) ((DL p0).set 3 46) (picS p0 (by decide) (by decide)) _ _ _ (X52.mono (by decide) (by decide)) e52 N0 K0 O0 V2
      ·
        rw [hv]
        refine Goes.step (T' := T48) (g' := (mkF m 102 #[.val (.int p0), .val (.int p1), .val (.ref b36), .val (.int (4 : Int32)), .unset] [(.int (4 : Int32))])) (fun _ kz => XS.iloadN X48.here hx rfl (hb hby at_101) rfl  kz) ?_
        refine Goes.step (T' := T48) (g' := (mkF m 103 #[.val (.int p0), .val (.int p1), .val (.ref b36), .val (.int (4 : Int32)), .unset] [(.int (1 : Int32)), (.int (4 : Int32))])) (fun _ kz => XS.iconst X48.here hx rfl (hb hby at_102) kz) ?_
        refine Goes.step (T' := T48) (g' := (mkF m 106 #[.val (.int p0), .val (.int p1), .val (.ref b36), .val (.int (4 : Int32)), .unset] [])) (fun _ kz => XS.icmpNo X48.here hx rfl (hb hby at_103) rfl (flt (by decide : ¬ ((4 : Int32) < (1 : Int32)))).1 kz) ?_
        refine Goes.step (T' := T48) (g' := (mkF m 107 #[.val (.int p0), .val (.int p1), .val (.ref b36), .val (.int (4 : Int32)), .unset] [(.int (4 : Int32))])) (fun _ kz => XS.iloadN X48.here hx rfl (hb hby at_106) rfl  kz) ?_
        refine Goes.step (T' := T48) (g' := (mkF m 108 #[.val (.int p0), .val (.int p1), .val (.ref b36), .val (.int (4 : Int32)), .unset] [(.int (4 : Int32)), (.int (4 : Int32))])) (fun _ kz => XS.iconst X48.here hx rfl (hb hby at_107) kz) ?_
        refine Goes.step (T' := T48) (g' := (mkF m 111 #[.val (.int p0), .val (.int p1), .val (.ref b36), .val (.int (4 : Int32)), .unset] [])) (fun _ kz => XS.icmpNo X48.here hx rfl (hb hby at_108) rfl (flt (by decide : ¬ ((4 : Int32) < (4 : Int32)))).2.2.1 kz) ?_
        refine Goes.step (T' := T48) (g' := (mkF m 112 #[.val (.int p0), .val (.int p1), .val (.ref b36), .val (.int (4 : Int32)), .unset] [(.ref b36)])) (fun _ kz => XS.aloadN X48.here hx rfl (hb hby at_111) rfl rfl kz) ?_
        refine Goes.step (T' := T48) (g' := (mkF m 113 #[.val (.int p0), .val (.int p1), .val (.ref b36), .val (.int (4 : Int32)), .unset] [(.int (4 : Int32)), (.ref b36)])) (fun _ kz => XS.iloadN X48.here hx rfl (hb hby at_112) rfl  kz) ?_
        refine Goes.step (T' := T48) (g' := (mkF m 115 #[.val (.int p0), .val (.int p1), .val (.ref b36), .val (.int (4 : Int32)), .unset] [(.int (46 : Int32)), (.int (4 : Int32)), (.ref b36)])) (fun _ kz => XS.bipush X48.here hx rfl (hb hby at_113) kz) ?_
        obtain ⟨cl53, Ar53, q53, Sz53, Nn53, Hs53, Gs53⟩ := (id V_b36 : Arv Z h48 b36 kc36 .char (6 : Int32) [(.int (DG p0 0)), (.int (DG p0 1)), (.int (DG p0 2)), (.int (DG p0 3)), (.int (DG p0 4)), (.int (DG p0 5))] (.int (0 : Int32)))
        obtain ⟨T53, h53, X53, e53, W53, st53⟩ := stC X48 hx hZ e48 Ar53 (j := (4 : Int32)) (inb_of Sz53 ⟨by decide, by decide⟩) (g := (mkF m 115 #[.val (.int p0), .val (.int p1), .val (.ref b36), .val (.int (4 : Int32)), .unset] [(.int (46 : Int32)), (.int (4 : Int32)), (.ref b36)])) rfl rfl (hb hby at_115)
        replace V_b36 : Arv Z h53 b36 kc36 .char (6 : Int32) [(.int (DG p0 0)), (.int (DG p0 1)), (.int (DG p0 2)), (.int (DG p0 3)), (.int (nar .char (46 : Int32))), (.int (DG p0 5))] (.int (0 : Int32)) := Arv.set Ar53 q53 Sz53 Nn53 Hs53 Gs53 (fits_nar_char _) W53 4 rfl (Nat.le_of_ble_eq_true rfl)
        replace N0 := Fr.snoc X53 N0 g_b36
        replace O0 := O0.wr W53 g_b36
        replace K0 := K0.wr W53 (Or.inr sz_b36)
        refine Goes.step (T' := T53) (g' := (mkF m 116 #[.val (.int p0), .val (.int p1), .val (.ref b36), .val (.int (4 : Int32)), .unset] [])) st53 ?_
        refine Goes.step (T' := T53) (g' := (mkF m 122 #[.val (.int p0), .val (.int p1), .val (.ref b36), .val (.int (4 : Int32)), .unset] [])) (fun _ kz => XS.goto X53.here hx rfl (pc0 := 116) (pc' := 122) rfl (hb hby at_116) (by decide) (by decide) kz) ?_
        have V2 : Arv Z h53 b36 kc36 .char (6 : Int32) (((DL p0).set 4 46).map Value.int) (.int (0 : Int32)) := V_b36
        exact J1 (4) ((DL p0).set 4 46) (picS p0 (by decide) (by decide)) _ _ _ (X53.mono (by decide) (by decide)) e53 N0 K0 O0 V2
      ·
        rw [hv]
        refine Goes.step (T' := T48) (g' := (mkF m 102 #[.val (.int p0), .val (.int p1), .val (.ref b36), .val (.int (5 : Int32)), .unset] [(.int (5 : Int32))])) (fun _ kz => XS.iloadN X48.here hx rfl (hb hby at_101) rfl  kz) ?_
        refine Goes.step (T' := T48) (g' := (mkF m 103 #[.val (.int p0), .val (.int p1), .val (.ref b36), .val (.int (5 : Int32)), .unset] [(.int (1 : Int32)), (.int (5 : Int32))])) (fun _ kz => XS.iconst X48.here hx rfl (hb hby at_102) kz) ?_
        refine Goes.step (T' := T48) (g' := (mkF m 106 #[.val (.int p0), .val (.int p1), .val (.ref b36), .val (.int (5 : Int32)), .unset] [])) (fun _ kz => XS.icmpNo X48.here hx rfl (hb hby at_103) rfl (flt (by decide : ¬ ((5 : Int32) < (1 : Int32)))).1 kz) ?_
        refine Goes.step (T' := T48) (g' := (mkF m 107 #[.val (.int p0), .val (.int p1), .val (.ref b36), .val (.int (5 : Int32)), .unset] [(.int (5 : Int32))])) (fun _ kz => XS.iloadN X48.here hx rfl (hb hby at_106) rfl  kz) ?_
        refine Goes.step (T' := T48) (g' := (mkF m 108 #[.val (.int p0), .val (.int p1), .val (.ref b36), .val (.int (5 : Int32)), .unset] [(.int (4 : Int32)), (.int (5 : Int32))])) (fun _ kz => XS.iconst X48.here hx rfl (hb hby at_107) kz) ?_
        refine Goes.step (T' := T48) (g' := (mkF m 119 #[.val (.int p0), .val (.int p1), .val (.ref b36), .val (.int (5 : Int32)), .unset] [])) (fun _ kz => XS.icmpYes X48.here hx rfl (pc0 := 108) (pc' := 119) rfl (hb hby at_108) rfl (tlt (by decide : ((4 : Int32) < (5 : Int32)))).2.2.1 (by decide) (by decide) kz) ?_
        refine Goes.step (T' := T48) (g' := (mkF m 121 #[.val (.int p0), .val (.int p1), .val (.ref b36), .val (.int (5 : Int32)), .unset] [(.int (6 : Int32))])) (fun _ kz => XS.bipush X48.here hx rfl (hb hby at_119) kz) ?_
        refine Goes.step (T' := T48) (g' := (mkF m 122 #[.val (.int p0), .val (.int p1), .val (.ref b36), .val (.int (6 : Int32)), .unset] [])) (fun _ kz => XS.istoreN X48.here hx rfl (hb hby at_121) rfl (l' := #[.val (.int p0), .val (.int p1), .val (.ref b36), .val (.int (6 : Int32)), .unset]) rfl kz) ?_
        have V2 : Arv Z h48 b36 kc36 .char (6 : Int32) ((DL p0).map Value.int) (.int (0 : Int32)) := V_b36
        exact J1 (6) (DL p0) (pic6 p0) _ _ _ (X48.mono (by decide) (by decide)) e48 N0 K0 O0 V2
      ·
        rw [hv]
        refine Goes.step (T' := T48) (g' := (mkF m 102 #[.val (.int p0), .val (.int p1), .val (.ref b36), .val (.int (6 : Int32)), .unset] [(.int (6 : Int32))])) (fun _ kz => XS.iloadN X48.here hx rfl (hb hby at_101) rfl  kz) ?_
        refine Goes.step (T' := T48) (g' := (mkF m 103 #[.val (.int p0), .val (.int p1), .val (.ref b36), .val (.int (6 : Int32)), .unset] [(.int (1 : Int32)), (.int (6 : Int32))])) (fun _ kz => XS.iconst X48.here hx rfl (hb hby at_102) kz) ?_
        refine Goes.step (T' := T48) (g' := (mkF m 106 #[.val (.int p0), .val (.int p1), .val (.ref b36), .val (.int (6 : Int32)), .unset] [])) (fun _ kz => XS.icmpNo X48.here hx rfl (hb hby at_103) rfl (flt (by decide : ¬ ((6 : Int32) < (1 : Int32)))).1 kz) ?_
        refine Goes.step (T' := T48) (g' := (mkF m 107 #[.val (.int p0), .val (.int p1), .val (.ref b36), .val (.int (6 : Int32)), .unset] [(.int (6 : Int32))])) (fun _ kz => XS.iloadN X48.here hx rfl (hb hby at_106) rfl  kz) ?_
        refine Goes.step (T' := T48) (g' := (mkF m 108 #[.val (.int p0), .val (.int p1), .val (.ref b36), .val (.int (6 : Int32)), .unset] [(.int (4 : Int32)), (.int (6 : Int32))])) (fun _ kz => XS.iconst X48.here hx rfl (hb hby at_107) kz) ?_
        refine Goes.step (T' := T48) (g' := (mkF m 119 #[.val (.int p0), .val (.int p1), .val (.ref b36), .val (.int (6 : Int32)), .unset] [])) (fun _ kz => XS.icmpYes X48.here hx rfl (pc0 := 108) (pc' := 119) rfl (hb hby at_108) rfl (tlt (by decide : ((4 : Int32) < (6 : Int32)))).2.2.1 (by decide) (by decide) kz) ?_
        refine Goes.step (T' := T48) (g' := (mkF m 121 #[.val (.int p0), .val (.int p1), .val (.ref b36), .val (.int (6 : Int32)), .unset] [(.int (6 : Int32))])) (fun _ kz => XS.bipush X48.here hx rfl (hb hby at_119) kz) ?_
        refine Goes.step (T' := T48) (g' := (mkF m 122 #[.val (.int p0), .val (.int p1), .val (.ref b36), .val (.int (6 : Int32)), .unset] [])) (fun _ kz => XS.istoreN X48.here hx rfl (hb hby at_121) rfl (l' := #[.val (.int p0), .val (.int p1), .val (.ref b36), .val (.int (6 : Int32)), .unset]) rfl kz) ?_
        have V2 : Arv Z h48 b36 kc36 .char (6 : Int32) ((DL p0).map Value.int) (.int (0 : Int32)) := V_b36
        exact J1 (6) (DL p0) (pic6 p0) _ _ _ (X48.mono (by decide) (by decide)) e48 N0 K0 O0 V2
      ·
        rw [hv]
        refine Goes.step (T' := T48) (g' := (mkF m 102 #[.val (.int p0), .val (.int p1), .val (.ref b36), .val (.int (7 : Int32)), .unset] [(.int (7 : Int32))])) (fun _ kz => XS.iloadN X48.here hx rfl (hb hby at_101) rfl  kz) ?_
        refine Goes.step (T' := T48) (g' := (mkF m 103 #[.val (.int p0), .val (.int p1), .val (.ref b36), .val (.int (7 : Int32)), .unset] [(.int (1 : Int32)), (.int (7 : Int32))])) (fun _ kz => XS.iconst X48.here hx rfl (hb hby at_102) kz) ?_
        refine Goes.step (T' := T48) (g' := (mkF m 106 #[.val (.int p0), .val (.int p1), .val (.ref b36), .val (.int (7 : Int32)), .unset] [])) (fun _ kz => XS.icmpNo X48.here hx rfl (hb hby at_103) rfl (flt (by decide : ¬ ((7 : Int32) < (1 : Int32)))).1 kz) ?_
        refine Goes.step (T' := T48) (g' := (mkF m 107 #[.val (.int p0), .val (.int p1), .val (.ref b36), .val (.int (7 : Int32)), .unset] [(.int (7 : Int32))])) (fun _ kz => XS.iloadN X48.here hx rfl (hb hby at_106) rfl  kz) ?_
        refine Goes.step (T' := T48) (g' := (mkF m 108 #[.val (.int p0), .val (.int p1), .val (.ref b36), .val (.int (7 : Int32)), .unset] [(.int (4 : Int32)), (.int (7 : Int32))])) (fun _ kz => XS.iconst X48.here hx rfl (hb hby at_107) kz) ?_
        refine Goes.step (T' := T48) (g' := (mkF m 119 #[.val (.int p0), .val (.int p1), .val (.ref b36), .val (.int (7 : Int32)), .unset] [])) (fun _ kz => XS.icmpYes X48.here hx rfl (pc0 := 108) (pc' := 119) rfl (hb hby at_108) rfl (tlt (by decide : ((4 : Int32) < (7 : Int32)))).2.2.1 (by decide) (by decide) kz) ?_
        refine Goes.step (T' := T48) (g' := (mkF m 121 #[.val (.int p0), .val (.int p1), .val (.ref b36), .val (.int (7 : Int32)), .unset] [(.int (6 : Int32))])) (fun _ kz => XS.bipush X48.here hx rfl (hb hby at_119) kz) ?_
        refine Goes.step (T' := T48) (g' := (mkF m 122 #[.val (.int p0), .val (.int p1), .val (.ref b36), .val (.int (6 : Int32)), .unset] [])) (fun _ kz => XS.istoreN X48.here hx rfl (hb hby at_121) rfl (l' := #[.val (.int p0), .val (.int p1), .val (.ref b36), .val (.int (6 : Int32)), .unset]) rfl kz) ?_
        have V2 : Arv Z h48 b36 kc36 .char (6 : Int32) ((DL p0).map Value.int) (.int (0 : Int32)) := V_b36
        exact J1 (6) (DL p0) (pic6 p0) _ _ _ (X48.mono (by decide) (by decide)) e48 N0 K0 O0 V2
    clear N0 K0 O0 V_b36
    intro pp cs hP T49 h49 locs49 X49 e49 N0 K0 O0 V_b36
    obtain ⟨hcl, hcb, hix, hp1, hp6⟩ := hP
    suffices J2 : ∀ (ff : Nat) (hlz : LZ cs = ff) (T54 : State) (h54 : Heap) (locs54 : List Loc) (X54 : Stand p l e room_1 s m #[(.int p0), (.int p1)] below meth c T54 locs54 1 6) (e54 : T54.heap = h54) (N0 : Fr n0 locs54) (K0 : Keep h0 h54 []) (O0 : Old Z n0 h54) (V_b36 : Arv Z h54 b36 kc36 .char (6 : Int32) (cs.map Value.int) (.int (0 : Int32))), Goes p e below (fun o U' => ∃ v L, o = .returned v ∧ Q_law Z p0 p1 h0 n0 v U'.heap L ∧ FrameEnd s o U' L 16 128) T54 (mkF m 239 #[.val (.int p0), .val (.int p1), .val (.ref b36), .val (.int (Int32.ofNat pp)), .val (.int (Int32.ofNat ff))] []) by
      refine Goes.step (T' := T49) (g' := (mkF m 123 #[.val (.int p0), .val (.int p1), .val (.ref b36), .val (.int (Int32.ofNat pp)), .unset] [(.int (Int32.ofNat pp))])) (fun _ kz => XS.iloadN X49.here hx rfl (hb hby at_122) rfl  kz) ?_
      by_cases hc123_55 : (0 : Int32) < (Int32.ofNat pp)
      ·
        refine Goes.step (T' := T49) (g' := (mkF m 126 #[.val (.int p0), .val (.int p1), .val (.ref b36), .val (.int (Int32.ofNat pp)), .unset] [])) (fun _ kz => XS.ifNo X49.here hx rfl (hb hby at_123) rfl ((if0 _ _).trans (tlt hc123_55).2.2.2) kz) ?_
        refine Goes.step (T' := T49) (g' := (mkF m 127 #[.val (.int p0), .val (.int p1), .val (.ref b36), .val (.int (Int32.ofNat pp)), .unset] [(.ref b36)])) (fun _ kz => XS.aloadN X49.here hx rfl (hb hby at_126) rfl rfl kz) ?_
        refine Goes.step (T' := T49) (g' := (mkF m 128 #[.val (.int p0), .val (.int p1), .val (.ref b36), .val (.int (Int32.ofNat pp)), .unset] [(.int (0 : Int32)), (.ref b36)])) (fun _ kz => XS.iconst X49.here hx rfl (hb hby at_127) kz) ?_
        obtain ⟨cl56, Ar56, q56, Sz56, Nn56, Hs56, Gs56⟩ := (id V_b36 : Arv Z h49 b36 kc36 .char (6 : Int32) (cs.map Value.int) (.int (0 : Int32)))
        refine Goes.step (T' := T49) (g' := (mkF m 129 #[.val (.int p0), .val (.int p1), .val (.ref b36), .val (.int (Int32.ofNat pp)), .unset] [(.int (cs.getD 0 0))])) (X49.caload hx (j := (0 : Int32)) (v := (.int (cs.getD 0 0))) (by rw [e49]; exact Ar56.1) (State.isArrayOf_alike hZ.alike Ar56.2.1) Ar56.2.2 (inb_of Sz56 ⟨by decide, by decide⟩) (Has.at Hs56 (inb_of Sz56 ⟨by decide, by decide⟩) (own_atI (i := 0) (by decide) (by omega))) (g := (mkF m 128 #[.val (.int p0), .val (.int p1), .val (.ref b36), .val (.int (Int32.ofNat pp)), .unset] [(.int (0 : Int32)), (.ref b36)])) rfl rfl (hb hby at_128)) ?_
        refine Goes.step (T' := T49) (g' := (mkF m 131 #[.val (.int p0), .val (.int p1), .val (.ref b36), .val (.int (Int32.ofNat pp)), .unset] [(.int (48 : Int32)), (.int (cs.getD 0 0))])) (fun _ kz => XS.bipush X49.here hx rfl (hb hby at_129) kz) ?_
        by_cases hc131_57 : (cs.getD 0 0) = (48 : Int32)
        ·
          refine Goes.step (T' := T49) (g' := (mkF m 140 #[.val (.int p0), .val (.int p1), .val (.ref b36), .val (.int (Int32.ofNat pp)), .unset] [])) (fun _ kz => XS.icmpYes X49.here hx rfl (pc0 := 131) (pc' := 140) rfl (hb hby at_131) rfl (teq hc131_57).1 (by decide) (by decide) kz) ?_
          refine Goes.step (T' := T49) (g' := (mkF m 141 #[.val (.int p0), .val (.int p1), .val (.ref b36), .val (.int (Int32.ofNat pp)), .unset] [(.int (Int32.ofNat pp))])) (fun _ kz => XS.iloadN X49.here hx rfl (hb hby at_140) rfl  kz) ?_
          refine Goes.step (T' := T49) (g' := (mkF m 142 #[.val (.int p0), .val (.int p1), .val (.ref b36), .val (.int (Int32.ofNat pp)), .unset] [(.int (1 : Int32)), (.int (Int32.ofNat pp))])) (fun _ kz => XS.iconst X49.here hx rfl (hb hby at_141) kz) ?_
          by_cases hc142_58 : (1 : Int32) < (Int32.ofNat pp)
          ·
            refine Goes.step (T' := T49) (g' := (mkF m 145 #[.val (.int p0), .val (.int p1), .val (.ref b36), .val (.int (Int32.ofNat pp)), .unset] [])) (fun _ kz => XS.icmpNo X49.here hx rfl (hb hby at_142) rfl (tlt hc142_58).2.2.2 kz) ?_
            refine Goes.step (T' := T49) (g' := (mkF m 146 #[.val (.int p0), .val (.int p1), .val (.ref b36), .val (.int (Int32.ofNat pp)), .unset] [(.ref b36)])) (fun _ kz => XS.aloadN X49.here hx rfl (hb hby at_145) rfl rfl kz) ?_
            refine Goes.step (T' := T49) (g' := (mkF m 147 #[.val (.int p0), .val (.int p1), .val (.ref b36), .val (.int (Int32.ofNat pp)), .unset] [(.int (1 : Int32)), (.ref b36)])) (fun _ kz => XS.iconst X49.here hx rfl (hb hby at_146) kz) ?_
            obtain ⟨cl59, Ar59, q59, Sz59, Nn59, Hs59, Gs59⟩ := (id V_b36 : Arv Z h49 b36 kc36 .char (6 : Int32) (cs.map Value.int) (.int (0 : Int32)))
            refine Goes.step (T' := T49) (g' := (mkF m 148 #[.val (.int p0), .val (.int p1), .val (.ref b36), .val (.int (Int32.ofNat pp)), .unset] [(.int (cs.getD 1 0))])) (X49.caload hx (j := (1 : Int32)) (v := (.int (cs.getD 1 0))) (by rw [e49]; exact Ar59.1) (State.isArrayOf_alike hZ.alike Ar59.2.1) Ar59.2.2 (inb_of Sz59 ⟨by decide, by decide⟩) (Has.at Hs59 (inb_of Sz59 ⟨by decide, by decide⟩) (own_atI (i := 1) (by decide) (by omega))) (g := (mkF m 147 #[.val (.int p0), .val (.int p1), .val (.ref b36), .val (.int (Int32.ofNat pp)), .unset] [(.int (1 : Int32)), (.ref b36)])) rfl rfl (hb hby at_147)) ?_
            refine Goes.step (T' := T49) (g' := (mkF m 150 #[.val (.int p0), .val (.int p1), .val (.ref b36), .val (.int (Int32.ofNat pp)), .unset] [(.int (48 : Int32)), (.int (cs.getD 1 0))])) (fun _ kz => XS.bipush X49.here hx rfl (hb hby at_148) kz) ?_
            by_cases hc150_60 : (cs.getD 1 0) = (48 : Int32)
            ·
              refine Goes.step (T' := T49) (g' := (mkF m 159 #[.val (.int p0), .val (.int p1), .val (.ref b36), .val (.int (Int32.ofNat pp)), .unset] [])) (fun _ kz => XS.icmpYes X49.here hx rfl (pc0 := 150) (pc' := 159) rfl (hb hby at_150) rfl (teq hc150_60).1 (by decide) (by decide) kz) ?_
              refine Goes.step (T' := T49) (g' := (mkF m 160 #[.val (.int p0), .val (.int p1), .val (.ref b36), .val (.int (Int32.ofNat pp)), .unset] [(.int (Int32.ofNat pp))])) (fun _ kz => XS.iloadN X49.here hx rfl (hb hby at_159) rfl  kz) ?_
              refine Goes.step (T' := T49) (g' := (mkF m 161 #[.val (.int p0), .val (.int p1), .val (.ref b36), .val (.int (Int32.ofNat pp)), .unset] [(.int (2 : Int32)), (.int (Int32.ofNat pp))])) (fun _ kz => XS.iconst X49.here hx rfl (hb hby at_160) kz) ?_
              by_cases hc161_61 : (2 : Int32) < (Int32.ofNat pp)
              ·
                refine Goes.step (T' := T49) (g' := (mkF m 164 #[.val (.int p0), .val (.int p1), .val (.ref b36), .val (.int (Int32.ofNat pp)), .unset] [])) (fun _ kz => XS.icmpNo X49.here hx rfl (hb hby at_161) rfl (tlt hc161_61).2.2.2 kz) ?_
                refine Goes.step (T' := T49) (g' := (mkF m 165 #[.val (.int p0), .val (.int p1), .val (.ref b36), .val (.int (Int32.ofNat pp)), .unset] [(.ref b36)])) (fun _ kz => XS.aloadN X49.here hx rfl (hb hby at_164) rfl rfl kz) ?_
                refine Goes.step (T' := T49) (g' := (mkF m 166 #[.val (.int p0), .val (.int p1), .val (.ref b36), .val (.int (Int32.ofNat pp)), .unset] [(.int (2 : Int32)), (.ref b36)])) (fun _ kz => XS.iconst X49.here hx rfl (hb hby at_165) kz) ?_
                obtain ⟨cl62, Ar62, q62, Sz62, Nn62, Hs62, Gs62⟩ := (id V_b36 : Arv Z h49 b36 kc36 .char (6 : Int32) (cs.map Value.int) (.int (0 : Int32)))
                refine Goes.step (T' := T49) (g' := (mkF m 167 #[.val (.int p0), .val (.int p1), .val (.ref b36), .val (.int (Int32.ofNat pp)), .unset] [(.int (cs.getD 2 0))])) (X49.caload hx (j := (2 : Int32)) (v := (.int (cs.getD 2 0))) (by rw [e49]; exact Ar62.1) (State.isArrayOf_alike hZ.alike Ar62.2.1) Ar62.2.2 (inb_of Sz62 ⟨by decide, by decide⟩) (Has.at Hs62 (inb_of Sz62 ⟨by decide, by decide⟩) (own_atI (i := 2) (by decide) (by omega))) (g := (mkF m 166 #[.val (.int p0), .val (.int p1), .val (.ref b36), .val (.int (Int32.ofNat pp)), .unset] [(.int (2 : Int32)), (.ref b36)])) rfl rfl (hb hby at_166)) ?_
                refine Goes.step (T' := T49) (g' := (mkF m 169 #[.val (.int p0), .val (.int p1), .val (.ref b36), .val (.int (Int32.ofNat pp)), .unset] [(.int (48 : Int32)), (.int (cs.getD 2 0))])) (fun _ kz => XS.bipush X49.here hx rfl (hb hby at_167) kz) ?_
                by_cases hc169_63 : (cs.getD 2 0) = (48 : Int32)
                ·
                  refine Goes.step (T' := T49) (g' := (mkF m 178 #[.val (.int p0), .val (.int p1), .val (.ref b36), .val (.int (Int32.ofNat pp)), .unset] [])) (fun _ kz => XS.icmpYes X49.here hx rfl (pc0 := 169) (pc' := 178) rfl (hb hby at_169) rfl (teq hc169_63).1 (by decide) (by decide) kz) ?_
                  refine Goes.step (T' := T49) (g' := (mkF m 179 #[.val (.int p0), .val (.int p1), .val (.ref b36), .val (.int (Int32.ofNat pp)), .unset] [(.int (Int32.ofNat pp))])) (fun _ kz => XS.iloadN X49.here hx rfl (hb hby at_178) rfl  kz) ?_
                  refine Goes.step (T' := T49) (g' := (mkF m 180 #[.val (.int p0), .val (.int p1), .val (.ref b36), .val (.int (Int32.ofNat pp)), .unset] [(.int (3 : Int32)), (.int (Int32.ofNat pp))])) (fun _ kz => XS.iconst X49.here hx rfl (hb hby at_179) kz) ?_
                  by_cases hc180_64 : (3 : Int32) < (Int32.ofNat pp)
                  ·
                    refine Goes.step (T' := T49) (g' := (mkF m 183 #[.val (.int p0), .val (.int p1), .val (.ref b36), .val (.int (Int32.ofNat pp)), .unset] [])) (fun _ kz => XS.icmpNo X49.here hx rfl (hb hby at_180) rfl (tlt hc180_64).2.2.2 kz) ?_
                    refine Goes.step (T' := T49) (g' := (mkF m 184 #[.val (.int p0), .val (.int p1), .val (.ref b36), .val (.int (Int32.ofNat pp)), .unset] [(.ref b36)])) (fun _ kz => XS.aloadN X49.here hx rfl (hb hby at_183) rfl rfl kz) ?_
                    refine Goes.step (T' := T49) (g' := (mkF m 185 #[.val (.int p0), .val (.int p1), .val (.ref b36), .val (.int (Int32.ofNat pp)), .unset] [(.int (3 : Int32)), (.ref b36)])) (fun _ kz => XS.iconst X49.here hx rfl (hb hby at_184) kz) ?_
                    obtain ⟨cl65, Ar65, q65, Sz65, Nn65, Hs65, Gs65⟩ := (id V_b36 : Arv Z h49 b36 kc36 .char (6 : Int32) (cs.map Value.int) (.int (0 : Int32)))
                    refine Goes.step (T' := T49) (g' := (mkF m 186 #[.val (.int p0), .val (.int p1), .val (.ref b36), .val (.int (Int32.ofNat pp)), .unset] [(.int (cs.getD 3 0))])) (X49.caload hx (j := (3 : Int32)) (v := (.int (cs.getD 3 0))) (by rw [e49]; exact Ar65.1) (State.isArrayOf_alike hZ.alike Ar65.2.1) Ar65.2.2 (inb_of Sz65 ⟨by decide, by decide⟩) (Has.at Hs65 (inb_of Sz65 ⟨by decide, by decide⟩) (own_atI (i := 3) (by decide) (by omega))) (g := (mkF m 185 #[.val (.int p0), .val (.int p1), .val (.ref b36), .val (.int (Int32.ofNat pp)), .unset] [(.int (3 : Int32)), (.ref b36)])) rfl rfl (hb hby at_185)) ?_
                    refine Goes.step (T' := T49) (g' := (mkF m 188 #[.val (.int p0), .val (.int p1), .val (.ref b36), .val (.int (Int32.ofNat pp)), .unset] [(.int (48 : Int32)), (.int (cs.getD 3 0))])) (fun _ kz => XS.bipush X49.here hx rfl (hb hby at_186) kz) ?_
                    by_cases hc188_66 : (cs.getD 3 0) = (48 : Int32)
                    ·
                      refine Goes.step (T' := T49) (g' := (mkF m 197 #[.val (.int p0), .val (.int p1), .val (.ref b36), .val (.int (Int32.ofNat pp)), .unset] [])) (fun _ kz => XS.icmpYes X49.here hx rfl (pc0 := 188) (pc' := 197) rfl (hb hby at_188) rfl (teq hc188_66).1 (by decide) (by decide) kz) ?_
                      refine Goes.step (T' := T49) (g' := (mkF m 198 #[.val (.int p0), .val (.int p1), .val (.ref b36), .val (.int (Int32.ofNat pp)), .unset] [(.int (Int32.ofNat pp))])) (fun _ kz => XS.iloadN X49.here hx rfl (hb hby at_197) rfl  kz) ?_
                      refine Goes.step (T' := T49) (g' := (mkF m 199 #[.val (.int p0), .val (.int p1), .val (.ref b36), .val (.int (Int32.ofNat pp)), .unset] [(.int (4 : Int32)), (.int (Int32.ofNat pp))])) (fun _ kz => XS.iconst X49.here hx rfl (hb hby at_198) kz) ?_
                      by_cases hc199_67 : (4 : Int32) < (Int32.ofNat pp)
                      ·
                        refine Goes.step (T' := T49) (g' := (mkF m 202 #[.val (.int p0), .val (.int p1), .val (.ref b36), .val (.int (Int32.ofNat pp)), .unset] [])) (fun _ kz => XS.icmpNo X49.here hx rfl (hb hby at_199) rfl (tlt hc199_67).2.2.2 kz) ?_
                        refine Goes.step (T' := T49) (g' := (mkF m 203 #[.val (.int p0), .val (.int p1), .val (.ref b36), .val (.int (Int32.ofNat pp)), .unset] [(.ref b36)])) (fun _ kz => XS.aloadN X49.here hx rfl (hb hby at_202) rfl rfl kz) ?_
                        refine Goes.step (T' := T49) (g' := (mkF m 204 #[.val (.int p0), .val (.int p1), .val (.ref b36), .val (.int (Int32.ofNat pp)), .unset] [(.int (4 : Int32)), (.ref b36)])) (fun _ kz => XS.iconst X49.here hx rfl (hb hby at_203) kz) ?_
                        obtain ⟨cl68, Ar68, q68, Sz68, Nn68, Hs68, Gs68⟩ := (id V_b36 : Arv Z h49 b36 kc36 .char (6 : Int32) (cs.map Value.int) (.int (0 : Int32)))
                        refine Goes.step (T' := T49) (g' := (mkF m 205 #[.val (.int p0), .val (.int p1), .val (.ref b36), .val (.int (Int32.ofNat pp)), .unset] [(.int (cs.getD 4 0))])) (X49.caload hx (j := (4 : Int32)) (v := (.int (cs.getD 4 0))) (by rw [e49]; exact Ar68.1) (State.isArrayOf_alike hZ.alike Ar68.2.1) Ar68.2.2 (inb_of Sz68 ⟨by decide, by decide⟩) (Has.at Hs68 (inb_of Sz68 ⟨by decide, by decide⟩) (own_atI (i := 4) (by decide) (by omega))) (g := (mkF m 204 #[.val (.int p0), .val (.int p1), .val (.ref b36), .val (.int (Int32.ofNat pp)), .unset] [(.int (4 : Int32)), (.ref b36)])) rfl rfl (hb hby at_204)) ?_
                        refine Goes.step (T' := T49) (g' := (mkF m 207 #[.val (.int p0), .val (.int p1), .val (.ref b36), .val (.int (Int32.ofNat pp)), .unset] [(.int (48 : Int32)), (.int (cs.getD 4 0))])) (fun _ kz => XS.bipush X49.here hx rfl (hb hby at_205) kz) ?_
                        by_cases hc207_69 : (cs.getD 4 0) = (48 : Int32)
                        ·
                          refine Goes.step (T' := T49) (g' := (mkF m 216 #[.val (.int p0), .val (.int p1), .val (.ref b36), .val (.int (Int32.ofNat pp)), .unset] [])) (fun _ kz => XS.icmpYes X49.here hx rfl (pc0 := 207) (pc' := 216) rfl (hb hby at_207) rfl (teq hc207_69).1 (by decide) (by decide) kz) ?_
                          refine Goes.step (T' := T49) (g' := (mkF m 217 #[.val (.int p0), .val (.int p1), .val (.ref b36), .val (.int (Int32.ofNat pp)), .unset] [(.int (Int32.ofNat pp))])) (fun _ kz => XS.iloadN X49.here hx rfl (hb hby at_216) rfl  kz) ?_
                          refine Goes.step (T' := T49) (g' := (mkF m 218 #[.val (.int p0), .val (.int p1), .val (.ref b36), .val (.int (Int32.ofNat pp)), .unset] [(.int (5 : Int32)), (.int (Int32.ofNat pp))])) (fun _ kz => XS.iconst X49.here hx rfl (hb hby at_217) kz) ?_
                          by_cases hc218_70 : (5 : Int32) < (Int32.ofNat pp)
                          ·
                            refine Goes.step (T' := T49) (g' := (mkF m 221 #[.val (.int p0), .val (.int p1), .val (.ref b36), .val (.int (Int32.ofNat pp)), .unset] [])) (fun _ kz => XS.icmpNo X49.here hx rfl (hb hby at_218) rfl (tlt hc218_70).2.2.2 kz) ?_
                            refine Goes.step (T' := T49) (g' := (mkF m 222 #[.val (.int p0), .val (.int p1), .val (.ref b36), .val (.int (Int32.ofNat pp)), .unset] [(.ref b36)])) (fun _ kz => XS.aloadN X49.here hx rfl (hb hby at_221) rfl rfl kz) ?_
                            refine Goes.step (T' := T49) (g' := (mkF m 223 #[.val (.int p0), .val (.int p1), .val (.ref b36), .val (.int (Int32.ofNat pp)), .unset] [(.int (5 : Int32)), (.ref b36)])) (fun _ kz => XS.iconst X49.here hx rfl (hb hby at_222) kz) ?_
                            obtain ⟨cl71, Ar71, q71, Sz71, Nn71, Hs71, Gs71⟩ := (id V_b36 : Arv Z h49 b36 kc36 .char (6 : Int32) (cs.map Value.int) (.int (0 : Int32)))
                            refine Goes.step (T' := T49) (g' := (mkF m 224 #[.val (.int p0), .val (.int p1), .val (.ref b36), .val (.int (Int32.ofNat pp)), .unset] [(.int (cs.getD 5 0))])) (X49.caload hx (j := (5 : Int32)) (v := (.int (cs.getD 5 0))) (by rw [e49]; exact Ar71.1) (State.isArrayOf_alike hZ.alike Ar71.2.1) Ar71.2.2 (inb_of Sz71 ⟨by decide, by decide⟩) (Has.at Hs71 (inb_of Sz71 ⟨by decide, by decide⟩) (own_atI (i := 5) (by decide) (by omega))) (g := (mkF m 223 #[.val (.int p0), .val (.int p1), .val (.ref b36), .val (.int (Int32.ofNat pp)), .unset] [(.int (5 : Int32)), (.ref b36)])) rfl rfl (hb hby at_223)) ?_
                            refine Goes.step (T' := T49) (g' := (mkF m 226 #[.val (.int p0), .val (.int p1), .val (.ref b36), .val (.int (Int32.ofNat pp)), .unset] [(.int (48 : Int32)), (.int (cs.getD 5 0))])) (fun _ kz => XS.bipush X49.here hx rfl (hb hby at_224) kz) ?_
                            by_cases hc226_72 : (cs.getD 5 0) = (48 : Int32)
                            ·
                              refine Goes.step (T' := T49) (g' := (mkF m 235 #[.val (.int p0), .val (.int p1), .val (.ref b36), .val (.int (Int32.ofNat pp)), .unset] [])) (fun _ kz => XS.icmpYes X49.here hx rfl (pc0 := 226) (pc' := 235) rfl (hb hby at_226) rfl (teq hc226_72).1 (by decide) (by decide) kz) ?_
                              refine Goes.step (T' := T49) (g' := (mkF m 237 #[.val (.int p0), .val (.int p1), .val (.ref b36), .val (.int (Int32.ofNat pp)), .unset] [(.int (6 : Int32))])) (fun _ kz => XS.bipush X49.here hx rfl (hb hby at_235) kz) ?_
                              refine Goes.step (T' := T49) (g' := (mkF m 239 #[.val (.int p0), .val (.int p1), .val (.ref b36), .val (.int (Int32.ofNat pp)), .val (.int (6 : Int32))] [])) (fun _ kz => XS.istore X49.here hx rfl (hb hby at_237) rfl (l' := #[.val (.int p0), .val (.int p1), .val (.ref b36), .val (.int (Int32.ofNat pp)), .val (.int (6 : Int32))]) rfl kz) ?_
                              have hz : LZ cs = 6 := by
                                refine LZ_eq (by omega) (fun t ht => ?_) ?_
                                · match t, ht with
                                  | 0, _ => exact hc131_57
                                  | 1, _ => exact hc150_60
                                  | 2, _ => exact hc169_63
                                  | 3, _ => exact hc188_66
                                  | 4, _ => exact hc207_69
                                  | 5, _ => exact hc226_72
                                · exact Or.inl hcl.symm
                              exact J2 (6) (hz) _ _ _ (X49.mono (by decide) (by decide)) e49 N0 K0 O0 V_b36
                            ·
                              refine Goes.step (T' := T49) (g' := (mkF m 229 #[.val (.int p0), .val (.int p1), .val (.ref b36), .val (.int (Int32.ofNat pp)), .unset] [])) (fun _ kz => XS.icmpNo X49.here hx rfl (hb hby at_226) rfl (feq hc226_72).1 kz) ?_
                              refine Goes.step (T' := T49) (g' := (mkF m 230 #[.val (.int p0), .val (.int p1), .val (.ref b36), .val (.int (Int32.ofNat pp)), .unset] [(.int (5 : Int32))])) (fun _ kz => XS.iconst X49.here hx rfl (hb hby at_229) kz) ?_
                              refine Goes.step (T' := T49) (g' := (mkF m 232 #[.val (.int p0), .val (.int p1), .val (.ref b36), .val (.int (Int32.ofNat pp)), .val (.int (5 : Int32))] [])) (fun _ kz => XS.istore X49.here hx rfl (hb hby at_230) rfl (l' := #[.val (.int p0), .val (.int p1), .val (.ref b36), .val (.int (Int32.ofNat pp)), .val (.int (5 : Int32))]) rfl kz) ?_
                              refine Goes.step (T' := T49) (g' := (mkF m 239 #[.val (.int p0), .val (.int p1), .val (.ref b36), .val (.int (Int32.ofNat pp)), .val (.int (5 : Int32))] [])) (fun _ kz => XS.goto X49.here hx rfl (pc0 := 232) (pc' := 239) rfl (hb hby at_232) (by decide) (by decide) kz) ?_
                              have hz : LZ cs = 5 := by
                                refine LZ_eq (by omega) (fun t ht => ?_) ?_
                                · match t, ht with
                                  | 0, _ => exact hc131_57
                                  | 1, _ => exact hc150_60
                                  | 2, _ => exact hc169_63
                                  | 3, _ => exact hc188_66
                                  | 4, _ => exact hc207_69
                                · exact Or.inr hc226_72
                              exact J2 (5) (hz) _ _ _ (X49.mono (by decide) (by decide)) e49 N0 K0 O0 V_b36
                          ·
                            refine Goes.step (T' := T49) (g' := (mkF m 229 #[.val (.int p0), .val (.int p1), .val (.ref b36), .val (.int (Int32.ofNat pp)), .unset] [])) (fun _ kz => XS.icmpYes X49.here hx rfl (pc0 := 218) (pc' := 229) rfl (hb hby at_218) rfl (flt hc218_70).2.2.2 (by decide) (by decide) kz) ?_
                            refine Goes.step (T' := T49) (g' := (mkF m 230 #[.val (.int p0), .val (.int p1), .val (.ref b36), .val (.int (Int32.ofNat pp)), .unset] [(.int (5 : Int32))])) (fun _ kz => XS.iconst X49.here hx rfl (hb hby at_229) kz) ?_
                            refine Goes.step (T' := T49) (g' := (mkF m 232 #[.val (.int p0), .val (.int p1), .val (.ref b36), .val (.int (Int32.ofNat pp)), .val (.int (5 : Int32))] [])) (fun _ kz => XS.istore X49.here hx rfl (hb hby at_230) rfl (l' := #[.val (.int p0), .val (.int p1), .val (.ref b36), .val (.int (Int32.ofNat pp)), .val (.int (5 : Int32))]) rfl kz) ?_
                            refine Goes.step (T' := T49) (g' := (mkF m 239 #[.val (.int p0), .val (.int p1), .val (.ref b36), .val (.int (Int32.ofNat pp)), .val (.int (5 : Int32))] [])) (fun _ kz => XS.goto X49.here hx rfl (pc0 := 232) (pc' := 239) rfl (hb hby at_232) (by decide) (by decide) kz) ?_
                            have hz : LZ cs = 5 := by
                              refine LZ_eq (by omega) (fun t ht => ?_) ?_
                              · match t, ht with
                                | 0, _ => exact hc131_57
                                | 1, _ => exact hc150_60
                                | 2, _ => exact hc169_63
                                | 3, _ => exact hc188_66
                                | 4, _ => exact hc207_69
                              · have hle : pp ≤ 5 := by have := mt (own_lt (a := 5) (b := pp) (by omega) (by omega)).mpr hc218_70; omega
                                have hgt : 4 < pp := (own_lt (a := 4) (b := pp) (by omega) (by omega)).mp hc199_67
                                have hpe : pp = 5 := by omega
                                right; have := IX_get (cs := cs) (by omega); rw [hix, hpe] at this; rw [this]; decide
                            exact J2 (5) (hz) _ _ _ (X49.mono (by decide) (by decide)) e49 N0 K0 O0 V_b36
                        ·
                          refine Goes.step (T' := T49) (g' := (mkF m 210 #[.val (.int p0), .val (.int p1), .val (.ref b36), .val (.int (Int32.ofNat pp)), .unset] [])) (fun _ kz => XS.icmpNo X49.here hx rfl (hb hby at_207) rfl (feq hc207_69).1 kz) ?_
                          refine Goes.step (T' := T49) (g' := (mkF m 211 #[.val (.int p0), .val (.int p1), .val (.ref b36), .val (.int (Int32.ofNat pp)), .unset] [(.int (4 : Int32))])) (fun _ kz => XS.iconst X49.here hx rfl (hb hby at_210) kz) ?_
                          refine Goes.step (T' := T49) (g' := (mkF m 213 #[.val (.int p0), .val (.int p1), .val (.ref b36), .val (.int (Int32.ofNat pp)), .val (.int (4 : Int32))] [])) (fun _ kz => XS.istore X49.here hx rfl (hb hby at_211) rfl (l' := #[.val (.int p0), .val (.int p1), .val (.ref b36), .val (.int (Int32.ofNat pp)), .val (.int (4 : Int32))]) rfl kz) ?_
                          refine Goes.step (T' := T49) (g' := (mkF m 239 #[.val (.int p0), .val (.int p1), .val (.ref b36), .val (.int (Int32.ofNat pp)), .val (.int (4 : Int32))] [])) (fun _ kz => XS.goto X49.here hx rfl (pc0 := 213) (pc' := 239) rfl (hb hby at_213) (by decide) (by decide) kz) ?_
                          have hz : LZ cs = 4 := by
                            refine LZ_eq (by omega) (fun t ht => ?_) ?_
                            · match t, ht with
                              | 0, _ => exact hc131_57
                              | 1, _ => exact hc150_60
                              | 2, _ => exact hc169_63
                              | 3, _ => exact hc188_66
                            · exact Or.inr hc207_69
                          exact J2 (4) (hz) _ _ _ (X49.mono (by decide) (by decide)) e49 N0 K0 O0 V_b36
                      ·
                        refine Goes.step (T' := T49) (g' := (mkF m 210 #[.val (.int p0), .val (.int p1), .val (.ref b36), .val (.int (Int32.ofNat pp)), .unset] [])) (fun _ kz => XS.icmpYes X49.here hx rfl (pc0 := 199) (pc' := 210) rfl (hb hby at_199) rfl (flt hc199_67).2.2.2 (by decide) (by decide) kz) ?_
                        refine Goes.step (T' := T49) (g' := (mkF m 211 #[.val (.int p0), .val (.int p1), .val (.ref b36), .val (.int (Int32.ofNat pp)), .unset] [(.int (4 : Int32))])) (fun _ kz => XS.iconst X49.here hx rfl (hb hby at_210) kz) ?_
                        refine Goes.step (T' := T49) (g' := (mkF m 213 #[.val (.int p0), .val (.int p1), .val (.ref b36), .val (.int (Int32.ofNat pp)), .val (.int (4 : Int32))] [])) (fun _ kz => XS.istore X49.here hx rfl (hb hby at_211) rfl (l' := #[.val (.int p0), .val (.int p1), .val (.ref b36), .val (.int (Int32.ofNat pp)), .val (.int (4 : Int32))]) rfl kz) ?_
                        refine Goes.step (T' := T49) (g' := (mkF m 239 #[.val (.int p0), .val (.int p1), .val (.ref b36), .val (.int (Int32.ofNat pp)), .val (.int (4 : Int32))] [])) (fun _ kz => XS.goto X49.here hx rfl (pc0 := 213) (pc' := 239) rfl (hb hby at_213) (by decide) (by decide) kz) ?_
                        have hz : LZ cs = 4 := by
                          refine LZ_eq (by omega) (fun t ht => ?_) ?_
                          · match t, ht with
                            | 0, _ => exact hc131_57
                            | 1, _ => exact hc150_60
                            | 2, _ => exact hc169_63
                            | 3, _ => exact hc188_66
                          · have hle : pp ≤ 4 := by have := mt (own_lt (a := 4) (b := pp) (by omega) (by omega)).mpr hc199_67; omega
                            have hgt : 3 < pp := (own_lt (a := 3) (b := pp) (by omega) (by omega)).mp hc180_64
                            have hpe : pp = 4 := by omega
                            right; have := IX_get (cs := cs) (by omega); rw [hix, hpe] at this; rw [this]; decide
                        exact J2 (4) (hz) _ _ _ (X49.mono (by decide) (by decide)) e49 N0 K0 O0 V_b36
                    ·
                      refine Goes.step (T' := T49) (g' := (mkF m 191 #[.val (.int p0), .val (.int p1), .val (.ref b36), .val (.int (Int32.ofNat pp)), .unset] [])) (fun _ kz => XS.icmpNo X49.here hx rfl (hb hby at_188) rfl (feq hc188_66).1 kz) ?_
                      refine Goes.step (T' := T49) (g' := (mkF m 192 #[.val (.int p0), .val (.int p1), .val (.ref b36), .val (.int (Int32.ofNat pp)), .unset] [(.int (3 : Int32))])) (fun _ kz => XS.iconst X49.here hx rfl (hb hby at_191) kz) ?_
                      refine Goes.step (T' := T49) (g' := (mkF m 194 #[.val (.int p0), .val (.int p1), .val (.ref b36), .val (.int (Int32.ofNat pp)), .val (.int (3 : Int32))] [])) (fun _ kz => XS.istore X49.here hx rfl (hb hby at_192) rfl (l' := #[.val (.int p0), .val (.int p1), .val (.ref b36), .val (.int (Int32.ofNat pp)), .val (.int (3 : Int32))]) rfl kz) ?_
                      refine Goes.step (T' := T49) (g' := (mkF m 239 #[.val (.int p0), .val (.int p1), .val (.ref b36), .val (.int (Int32.ofNat pp)), .val (.int (3 : Int32))] [])) (fun _ kz => XS.goto X49.here hx rfl (pc0 := 194) (pc' := 239) rfl (hb hby at_194) (by decide) (by decide) kz) ?_
                      have hz : LZ cs = 3 := by
                        refine LZ_eq (by omega) (fun t ht => ?_) ?_
                        · match t, ht with
                          | 0, _ => exact hc131_57
                          | 1, _ => exact hc150_60
                          | 2, _ => exact hc169_63
                        · exact Or.inr hc188_66
                      exact J2 (3) (hz) _ _ _ (X49.mono (by decide) (by decide)) e49 N0 K0 O0 V_b36
                  ·
                    refine Goes.step (T' := T49) (g' := (mkF m 191 #[.val (.int p0), .val (.int p1), .val (.ref b36), .val (.int (Int32.ofNat pp)), .unset] [])) (fun _ kz => XS.icmpYes X49.here hx rfl (pc0 := 180) (pc' := 191) rfl (hb hby at_180) rfl (flt hc180_64).2.2.2 (by decide) (by decide) kz) ?_
                    refine Goes.step (T' := T49) (g' := (mkF m 192 #[.val (.int p0), .val (.int p1), .val (.ref b36), .val (.int (Int32.ofNat pp)), .unset] [(.int (3 : Int32))])) (fun _ kz => XS.iconst X49.here hx rfl (hb hby at_191) kz) ?_
                    refine Goes.step (T' := T49) (g' := (mkF m 194 #[.val (.int p0), .val (.int p1), .val (.ref b36), .val (.int (Int32.ofNat pp)), .val (.int (3 : Int32))] [])) (fun _ kz => XS.istore X49.here hx rfl (hb hby at_192) rfl (l' := #[.val (.int p0), .val (.int p1), .val (.ref b36), .val (.int (Int32.ofNat pp)), .val (.int (3 : Int32))]) rfl kz) ?_
                    refine Goes.step (T' := T49) (g' := (mkF m 239 #[.val (.int p0), .val (.int p1), .val (.ref b36), .val (.int (Int32.ofNat pp)), .val (.int (3 : Int32))] [])) (fun _ kz => XS.goto X49.here hx rfl (pc0 := 194) (pc' := 239) rfl (hb hby at_194) (by decide) (by decide) kz) ?_
                    have hz : LZ cs = 3 := by
                      refine LZ_eq (by omega) (fun t ht => ?_) ?_
                      · match t, ht with
                        | 0, _ => exact hc131_57
                        | 1, _ => exact hc150_60
                        | 2, _ => exact hc169_63
                      · have hle : pp ≤ 3 := by have := mt (own_lt (a := 3) (b := pp) (by omega) (by omega)).mpr hc180_64; omega
                        have hgt : 2 < pp := (own_lt (a := 2) (b := pp) (by omega) (by omega)).mp hc161_61
                        have hpe : pp = 3 := by omega
                        right; have := IX_get (cs := cs) (by omega); rw [hix, hpe] at this; rw [this]; decide
                    exact J2 (3) (hz) _ _ _ (X49.mono (by decide) (by decide)) e49 N0 K0 O0 V_b36
                ·
                  refine Goes.step (T' := T49) (g' := (mkF m 172 #[.val (.int p0), .val (.int p1), .val (.ref b36), .val (.int (Int32.ofNat pp)), .unset] [])) (fun _ kz => XS.icmpNo X49.here hx rfl (hb hby at_169) rfl (feq hc169_63).1 kz) ?_
                  refine Goes.step (T' := T49) (g' := (mkF m 173 #[.val (.int p0), .val (.int p1), .val (.ref b36), .val (.int (Int32.ofNat pp)), .unset] [(.int (2 : Int32))])) (fun _ kz => XS.iconst X49.here hx rfl (hb hby at_172) kz) ?_
                  refine Goes.step (T' := T49) (g' := (mkF m 175 #[.val (.int p0), .val (.int p1), .val (.ref b36), .val (.int (Int32.ofNat pp)), .val (.int (2 : Int32))] [])) (fun _ kz => XS.istore X49.here hx rfl (hb hby at_173) rfl (l' := #[.val (.int p0), .val (.int p1), .val (.ref b36), .val (.int (Int32.ofNat pp)), .val (.int (2 : Int32))]) rfl kz) ?_
                  refine Goes.step (T' := T49) (g' := (mkF m 239 #[.val (.int p0), .val (.int p1), .val (.ref b36), .val (.int (Int32.ofNat pp)), .val (.int (2 : Int32))] [])) (fun _ kz => XS.goto X49.here hx rfl (pc0 := 175) (pc' := 239) rfl (hb hby at_175) (by decide) (by decide) kz) ?_
                  have hz : LZ cs = 2 := by
                    refine LZ_eq (by omega) (fun t ht => ?_) ?_
                    · match t, ht with
                      | 0, _ => exact hc131_57
                      | 1, _ => exact hc150_60
                    · exact Or.inr hc169_63
                  exact J2 (2) (hz) _ _ _ (X49.mono (by decide) (by decide)) e49 N0 K0 O0 V_b36
              ·
                refine Goes.step (T' := T49) (g' := (mkF m 172 #[.val (.int p0), .val (.int p1), .val (.ref b36), .val (.int (Int32.ofNat pp)), .unset] [])) (fun _ kz => XS.icmpYes X49.here hx rfl (pc0 := 161) (pc' := 172) rfl (hb hby at_161) rfl (flt hc161_61).2.2.2 (by decide) (by decide) kz) ?_
                refine Goes.step (T' := T49) (g' := (mkF m 173 #[.val (.int p0), .val (.int p1), .val (.ref b36), .val (.int (Int32.ofNat pp)), .unset] [(.int (2 : Int32))])) (fun _ kz => XS.iconst X49.here hx rfl (hb hby at_172) kz) ?_
                refine Goes.step (T' := T49) (g' := (mkF m 175 #[.val (.int p0), .val (.int p1), .val (.ref b36), .val (.int (Int32.ofNat pp)), .val (.int (2 : Int32))] [])) (fun _ kz => XS.istore X49.here hx rfl (hb hby at_173) rfl (l' := #[.val (.int p0), .val (.int p1), .val (.ref b36), .val (.int (Int32.ofNat pp)), .val (.int (2 : Int32))]) rfl kz) ?_
                refine Goes.step (T' := T49) (g' := (mkF m 239 #[.val (.int p0), .val (.int p1), .val (.ref b36), .val (.int (Int32.ofNat pp)), .val (.int (2 : Int32))] [])) (fun _ kz => XS.goto X49.here hx rfl (pc0 := 175) (pc' := 239) rfl (hb hby at_175) (by decide) (by decide) kz) ?_
                have hz : LZ cs = 2 := by
                  refine LZ_eq (by omega) (fun t ht => ?_) ?_
                  · match t, ht with
                    | 0, _ => exact hc131_57
                    | 1, _ => exact hc150_60
                  · have hle : pp ≤ 2 := by have := mt (own_lt (a := 2) (b := pp) (by omega) (by omega)).mpr hc161_61; omega
                    have hgt : 1 < pp := (own_lt (a := 1) (b := pp) (by omega) (by omega)).mp hc142_58
                    have hpe : pp = 2 := by omega
                    right; have := IX_get (cs := cs) (by omega); rw [hix, hpe] at this; rw [this]; decide
                exact J2 (2) (hz) _ _ _ (X49.mono (by decide) (by decide)) e49 N0 K0 O0 V_b36
            ·
              refine Goes.step (T' := T49) (g' := (mkF m 153 #[.val (.int p0), .val (.int p1), .val (.ref b36), .val (.int (Int32.ofNat pp)), .unset] [])) (fun _ kz => XS.icmpNo X49.here hx rfl (hb hby at_150) rfl (feq hc150_60).1 kz) ?_
              refine Goes.step (T' := T49) (g' := (mkF m 154 #[.val (.int p0), .val (.int p1), .val (.ref b36), .val (.int (Int32.ofNat pp)), .unset] [(.int (1 : Int32))])) (fun _ kz => XS.iconst X49.here hx rfl (hb hby at_153) kz) ?_
              refine Goes.step (T' := T49) (g' := (mkF m 156 #[.val (.int p0), .val (.int p1), .val (.ref b36), .val (.int (Int32.ofNat pp)), .val (.int (1 : Int32))] [])) (fun _ kz => XS.istore X49.here hx rfl (hb hby at_154) rfl (l' := #[.val (.int p0), .val (.int p1), .val (.ref b36), .val (.int (Int32.ofNat pp)), .val (.int (1 : Int32))]) rfl kz) ?_
              refine Goes.step (T' := T49) (g' := (mkF m 239 #[.val (.int p0), .val (.int p1), .val (.ref b36), .val (.int (Int32.ofNat pp)), .val (.int (1 : Int32))] [])) (fun _ kz => XS.goto X49.here hx rfl (pc0 := 156) (pc' := 239) rfl (hb hby at_156) (by decide) (by decide) kz) ?_
              have hz : LZ cs = 1 := by
                refine LZ_eq (by omega) (fun t ht => ?_) ?_
                · match t, ht with
                  | 0, _ => exact hc131_57
                · exact Or.inr hc150_60
              exact J2 (1) (hz) _ _ _ (X49.mono (by decide) (by decide)) e49 N0 K0 O0 V_b36
          ·
            refine Goes.step (T' := T49) (g' := (mkF m 153 #[.val (.int p0), .val (.int p1), .val (.ref b36), .val (.int (Int32.ofNat pp)), .unset] [])) (fun _ kz => XS.icmpYes X49.here hx rfl (pc0 := 142) (pc' := 153) rfl (hb hby at_142) rfl (flt hc142_58).2.2.2 (by decide) (by decide) kz) ?_
            refine Goes.step (T' := T49) (g' := (mkF m 154 #[.val (.int p0), .val (.int p1), .val (.ref b36), .val (.int (Int32.ofNat pp)), .unset] [(.int (1 : Int32))])) (fun _ kz => XS.iconst X49.here hx rfl (hb hby at_153) kz) ?_
            refine Goes.step (T' := T49) (g' := (mkF m 156 #[.val (.int p0), .val (.int p1), .val (.ref b36), .val (.int (Int32.ofNat pp)), .val (.int (1 : Int32))] [])) (fun _ kz => XS.istore X49.here hx rfl (hb hby at_154) rfl (l' := #[.val (.int p0), .val (.int p1), .val (.ref b36), .val (.int (Int32.ofNat pp)), .val (.int (1 : Int32))]) rfl kz) ?_
            refine Goes.step (T' := T49) (g' := (mkF m 239 #[.val (.int p0), .val (.int p1), .val (.ref b36), .val (.int (Int32.ofNat pp)), .val (.int (1 : Int32))] [])) (fun _ kz => XS.goto X49.here hx rfl (pc0 := 156) (pc' := 239) rfl (hb hby at_156) (by decide) (by decide) kz) ?_
            have hz : LZ cs = 1 := by
              refine LZ_eq (by omega) (fun t ht => ?_) ?_
              · match t, ht with
                | 0, _ => exact hc131_57
              · have hle : pp ≤ 1 := by have := mt (own_lt (a := 1) (b := pp) (by omega) (by omega)).mpr hc142_58; omega
                have hgt : 0 < pp := (own_lt (a := 0) (b := pp) (by omega) (by omega)).mp hc123_55
                have hpe : pp = 1 := by omega
                right; have := IX_get (cs := cs) (by omega); rw [hix, hpe] at this; rw [this]; decide
            exact J2 (1) (hz) _ _ _ (X49.mono (by decide) (by decide)) e49 N0 K0 O0 V_b36
        ·
          refine Goes.step (T' := T49) (g' := (mkF m 134 #[.val (.int p0), .val (.int p1), .val (.ref b36), .val (.int (Int32.ofNat pp)), .unset] [])) (fun _ kz => XS.icmpNo X49.here hx rfl (hb hby at_131) rfl (feq hc131_57).1 kz) ?_
          refine Goes.step (T' := T49) (g' := (mkF m 135 #[.val (.int p0), .val (.int p1), .val (.ref b36), .val (.int (Int32.ofNat pp)), .unset] [(.int (0 : Int32))])) (fun _ kz => XS.iconst X49.here hx rfl (hb hby at_134) kz) ?_
          refine Goes.step (T' := T49) (g' := (mkF m 137 #[.val (.int p0), .val (.int p1), .val (.ref b36), .val (.int (Int32.ofNat pp)), .val (.int (0 : Int32))] [])) (fun _ kz => XS.istore X49.here hx rfl (hb hby at_135) rfl (l' := #[.val (.int p0), .val (.int p1), .val (.ref b36), .val (.int (Int32.ofNat pp)), .val (.int (0 : Int32))]) rfl kz) ?_
          refine Goes.step (T' := T49) (g' := (mkF m 239 #[.val (.int p0), .val (.int p1), .val (.ref b36), .val (.int (Int32.ofNat pp)), .val (.int (0 : Int32))] [])) (fun _ kz => XS.goto X49.here hx rfl (pc0 := 137) (pc' := 239) rfl (hb hby at_137) (by decide) (by decide) kz) ?_
          have hz : LZ cs = 0 := by
            refine LZ_eq (by omega) (fun t ht => ?_) ?_
            · omega
            · exact Or.inr hc131_57
          exact J2 (0) (hz) _ _ _ (X49.mono (by decide) (by decide)) e49 N0 K0 O0 V_b36
      ·
        refine Goes.step (T' := T49) (g' := (mkF m 134 #[.val (.int p0), .val (.int p1), .val (.ref b36), .val (.int (Int32.ofNat pp)), .unset] [])) (fun _ kz => XS.ifYes X49.here hx rfl (pc0 := 123) (pc' := 134) rfl (hb hby at_123) rfl ((if0 _ _).trans (flt hc123_55).2.2.2) (by decide) (by decide) kz) ?_
        refine Goes.step (T' := T49) (g' := (mkF m 135 #[.val (.int p0), .val (.int p1), .val (.ref b36), .val (.int (Int32.ofNat pp)), .unset] [(.int (0 : Int32))])) (fun _ kz => XS.iconst X49.here hx rfl (hb hby at_134) kz) ?_
        refine Goes.step (T' := T49) (g' := (mkF m 137 #[.val (.int p0), .val (.int p1), .val (.ref b36), .val (.int (Int32.ofNat pp)), .val (.int (0 : Int32))] [])) (fun _ kz => XS.istore X49.here hx rfl (hb hby at_135) rfl (l' := #[.val (.int p0), .val (.int p1), .val (.ref b36), .val (.int (Int32.ofNat pp)), .val (.int (0 : Int32))]) rfl kz) ?_
        refine Goes.step (T' := T49) (g' := (mkF m 239 #[.val (.int p0), .val (.int p1), .val (.ref b36), .val (.int (Int32.ofNat pp)), .val (.int (0 : Int32))] [])) (fun _ kz => XS.goto X49.here hx rfl (pc0 := 137) (pc' := 239) rfl (hb hby at_137) (by decide) (by decide) kz) ?_
        have hz : LZ cs = 0 := by
          refine LZ_eq (by omega) (fun t ht => ?_) ?_
          · omega
          · have hle : pp ≤ 0 := by have := mt (own_lt (a := 0) (b := pp) (by omega) (by omega)).mpr hc123_55; omega
            omega
        exact J2 (0) (hz) _ _ _ (X49.mono (by decide) (by decide)) e49 N0 K0 O0 V_b36
    clear N0 K0 O0 V_b36
    intro ff hlz T54 h54 locs54 X54 e54 N0 K0 O0 V_b36
    obtain ⟨T73, h73, X73, e73, Ex73, A73, D73, -, st73⟩ := newO X54 hx hZ hown (hw _ (List.mem_of_getElem? (i := 96) rfl)) (hw _ (List.mem_of_getElem? (i := 14) rfl)) (hw _ (List.mem_of_getElem? (i := 6) rfl)) e54 (g := (mkF m 239 #[.val (.int p0), .val (.int p1), .val (.ref b36), .val (.int (Int32.ofNat pp)), .val (.int (Int32.ofNat ff))] [])) rfl (hb hby at_239) (by decide) (by decide)
    obtain ⟨b73, gg73⟩ : ∃ z, z = h54.size := ⟨_, rfl⟩
    rw [← gg73] at A73 D73 st73
    have g_b73 : n0 ≤ b73 := Nat.le_trans (own_n0 O0) (Nat.le_of_eq gg73.symm)
    have sz_b73 : h0.size ≤ b73 := Nat.le_trans K0.1 (Nat.le_of_eq gg73.symm)
    have ne_b36_b73 : b36 ≠ b73 := Nat.ne_of_lt (Nat.lt_of_lt_of_le V_b36.lt (Nat.le_of_eq gg73.symm))
    replace V_b36 := V_b36.ext Ex73
    replace O0 := O0.ext Ex73
    replace K0 := K0.ext Ex73
    have E_b73 := A73
    have F_b73_value : Fld Z h73 b73 "java/lang/String" "value" "[B" .null := D73 (Or.inr (hw _ (List.mem_of_getElem? (i := 27) rfl))) (ty := (.array .byte)) (by decide)
    have F_b73_coder : Fld Z h73 b73 "java/lang/String" "coder" "B" (.int (0 : Int32)) := D73 (Or.inr (hw _ (List.mem_of_getElem? (i := 29) rfl))) (ty := .byte) (by decide)
    refine Goes.step (T' := T73) (g' := (mkF m 242 #[.val (.int p0), .val (.int p1), .val (.ref b36), .val (.int (Int32.ofNat pp)), .val (.int (Int32.ofNat ff))] [(.ref b73)])) st73 ?_
    clear D73 A73
    refine Goes.step (T' := T73) (g' := (mkF m 243 #[.val (.int p0), .val (.int p1), .val (.ref b36), .val (.int (Int32.ofNat pp)), .val (.int (Int32.ofNat ff))] [(.ref b73), (.ref b73)])) (fun _ kz => XS.dup X73.here hx rfl (hb hby at_242) rfl rfl kz) ?_
    refine Goes.step (T' := T73) (g' := (mkF m 244 #[.val (.int p0), .val (.int p1), .val (.ref b36), .val (.int (Int32.ofNat pp)), .val (.int (Int32.ofNat ff))] [(.ref b36), (.ref b73), (.ref b73)])) (fun _ kz => XS.aloadN X73.here hx rfl (hb hby at_243) rfl rfl kz) ?_
    obtain ⟨_, _, ⟨T74, L74, k74, n74⟩, -, X74, ⟨Lc74, hQ74, l74, y74, z74⟩, st74⟩ := X73.specialBack hx (y := (⟨"java/lang/String", "<init>", "([C)V"⟩ : MethodName)) rfl hown (mvT hZ (hw _ (List.mem_of_getElem? (i := 97) rfl))) (mvT hZ (hw _ (List.mem_of_getElem? (i := 98) rfl))) (mvT hZ (hw _ (List.mem_of_getElem? (i := 99) rfl))) (by decide) (StrChars.Road.backV (W := 1) hZ (own_wBV hw) (kI := 4) (hw _ (List.mem_of_getElem? (i := 14) rfl)) (cs := cs) (bs := (cs).map (fun c => c.toInt8.toInt32)) (n := 6) g_b73 (own_n0 O0) E_b73 F_b73_value F_b73_coder V_b36 (Scs.ext O0.2) hz_Scs hcl rfl (by decide) (by decide) hcb rfl (by decide) (by decide)) (g := (mkF m 244 #[.val (.int p0), .val (.int p1), .val (.ref b36), .val (.int (Int32.ofNat pp)), .val (.int (Int32.ofNat ff))] [(.ref b36), (.ref b73), (.ref b73)])) rfl (by rw [hml]; rfl) (Steps.refl _) (a := b73) (argsL := [(.ref b36)]) (rest := [(.ref b73)]) (lenOf pd_12 rfl) rfl (by show 2 * 0 + _ ≤ _; exact Nat.le_of_eq rfl) (hb hby at_244) (fun _ _ => ⟨rfl, e73, (by decide : 2 + 1 ≤ _), (show 10 + 6 ≤ 128 by omega)⟩)
    dsimp only [Pt.U, Pt.locs, Pt.cells, Pt.slots] at X74 l74 y74 z74 st74 hQ74
    subst l74 y74 z74
    obtain ⟨h74, e74⟩ : ∃ z, T74.heap = z := ⟨_, rfl⟩
    rw [e74] at hQ74
    obtain ⟨rfl, Nq74, Kq74, E_q74, Fc_q74, t74, kb74, gt74, fr74, net74, Fv_q74, V_q74⟩ := hQ74
    replace N0 := Fr.app N0 Nq74
    replace X74 := X74.mono (Nat.le_refl _) (show 10 + 6 ≤ 16 by omega)
    rw [List.map_map] at V_q74
    have G_q74 : SX Z h74 b73 (cs) := ⟨E_q74, Fc_q74, hcb, _, _, Fv_q74, (by rw [hcl]; exact V_q74)⟩
    replace V_b36 := V_b36.keep Kq74 (ninS ne_b36_b73 nin0)
    clear E_b73
    clear F_b73_value
    clear F_b73_coder
    replace O0 := O0.keep Kq74 (allS g_b73 all0)
    replace K0 := K0.trans Kq74 (allS (Or.inr sz_b73) all0)
    have E_b73 := E_q74
    have G_b73 := G_q74
    refine Goes.run (T' := T74) (g' := (mkF m 247 #[.val (.int p0), .val (.int p1), .val (.ref b36), .val (.int (Int32.ofNat pp)), .val (.int (Int32.ofNat ff))] [(.ref b73)])) st74 ?_
    obtain ⟨_, _, ⟨T75, L75, k75, n75⟩, -, X75, ⟨Lc75, hQ75, l75, y75, z75⟩, st75⟩ := Jvm.LawKit.callS X74 hx (y := (⟨"com/example/tariff/tariff/core/decimal/PlainDecimal", "integerDigits", "(Ljava/lang/String;)I"⟩ : MethodName)) hown (mvT hZ (hw _ (List.mem_of_getElem? (i := 30) rfl))) (mvT hZ (hw _ (List.mem_of_getElem? (i := 31) rfl))) (mvT hZ (hw _ (List.mem_of_getElem? (i := 32) rfl))) (mvT hZ (hw _ (List.mem_of_getElem? (i := 33) rfl))) (by decide) (backOf (W := 0) (rm_intD l Z a0 hw [] b73 (cs) h74 n0 O0 zcs Scs hz_Scs fmt Sfm hz_Sfm E_b73 G_b73 (by omega)) hZ (hw _ (List.mem_of_getElem? (i := 33) rfl)) (hw _ (List.mem_of_getElem? (i := 32) rfl)) (by decide) (by decide)) (g := (mkF m 247 #[.val (.int p0), .val (.int p1), .val (.ref b36), .val (.int (Int32.ofNat pp)), .val (.int (Int32.ofNat ff))] [(.ref b73)])) rfl (by rw [hml]; rfl) (argsL := [(.ref b73)]) (rest := []) (lenOf pd_6 rfl) rfl (by show 2 * 0 + _ ≤ _; exact Nat.le_of_eq rfl) (hb hby at_247) (fun _ _ => ⟨rfl, e74, (by decide : 3 + 0 ≤ _), (by decide : 16 + 0 ≤ _)⟩)
    dsimp only [Pt.U, Pt.locs, Pt.cells, Pt.slots] at X75 l75 y75 z75 st75 hQ75
    subst l75 y75 z75
    obtain ⟨rfl, rfl, e75⟩ := hQ75
    replace N0 := Fr.app N0 (Fr.nil n0)
    refine Goes.step (T' := T75) (g' := (mkF m 250 #[.val (.int p0), .val (.int p1), .val (.ref b36), .val (.int (Int32.ofNat pp)), .val (.int (Int32.ofNat ff))] [(.int (Int32.ofNat (IX cs) - Int32.ofNat (LZ cs)))])) st75 ?_
    refine Goes.step (T' := T75) (g' := (mkF m 251 #[.val (.int p0), .val (.int p1), .val (.ref b36), .val (.int (Int32.ofNat pp)), .val (.int (Int32.ofNat ff))] [(.int (Int32.ofNat pp)), (.int (Int32.ofNat (IX cs) - Int32.ofNat (LZ cs)))])) (fun _ kz => XS.iloadN X75.here hx rfl (hb hby at_250) rfl  kz) ?_
    refine Goes.step (T' := T75) (g' := (mkF m 253 #[.val (.int p0), .val (.int p1), .val (.ref b36), .val (.int (Int32.ofNat pp)), .val (.int (Int32.ofNat ff))] [(.int (Int32.ofNat ff)), (.int (Int32.ofNat pp)), (.int (Int32.ofNat (IX cs) - Int32.ofNat (LZ cs)))])) (fun _ kz => XS.iload X75.here hx rfl (hb hby at_251) rfl  kz) ?_
    refine Goes.step (T' := T75) (g' := (mkF m 254 #[.val (.int p0), .val (.int p1), .val (.ref b36), .val (.int (Int32.ofNat pp)), .val (.int (Int32.ofNat ff))] [(.int ((Int32.ofNat pp) - (Int32.ofNat ff))), (.int (Int32.ofNat (IX cs) - Int32.ofNat (LZ cs)))])) (fun _ kz => XS.isub X75.here hx rfl (hb hby at_253) rfl kz) ?_
    refine Goes.step (T' := T75) (g' := (mkF m 257 #[.val (.int p0), .val (.int p1), .val (.ref b36), .val (.int (Int32.ofNat pp)), .val (.int (Int32.ofNat ff))] [])) (fun _ kz => XS.icmpNo X75.here hx rfl (hb hby at_254) rfl (teq (by rw [hix, hlz])).2 kz) ?_
    refine Goes.step (T' := T75) (g' := (mkF m 258 #[.val (.int p0), .val (.int p1), .val (.ref b36), .val (.int (Int32.ofNat pp)), .val (.int (Int32.ofNat ff))] [(.int (1 : Int32))])) (fun _ kz => XS.iconst X75.here hx rfl (hb hby at_257) kz) ?_
    refine Goes.step (T' := T75) (g' := (mkF m 262 #[.val (.int p0), .val (.int p1), .val (.ref b36), .val (.int (Int32.ofNat pp)), .val (.int (Int32.ofNat ff))] [(.int (1 : Int32))])) (fun _ kz => XS.goto X75.here hx rfl (pc0 := 258) (pc' := 262) rfl (hb hby at_258) (by decide) (by decide) kz) ?_
    obtain ⟨fs, hr, hrun, hended, hW, hsame⟩ := X75.leave (v := some (.int (nar .boolean (1 : Int32)))) (fun h => by rw [Bd.returns] at h; cases h)
    exact ⟨_, _, retN X75 hx (t := .boolean) Bd.returns (by simp) (hb hby at_262) hr, hrun, hended, _, _, rfl, (by show Q_law Z p0 p1 h0 n0 _ T75.heap _; rw [e75]; exact ⟨rfl, N0, K0⟩), ⟨_, rfl⟩, hW, hsame.mono (by decide) (by decide)⟩
  ·
    refine Goes.step (T' := s₁) (g' := (mkF m 6 #[.val (.int p0), .val (.int p1), .unset, .unset, .unset] [])) (fun _ kz => XS.ifNo X0.here hx rfl (hb hby at_3) rfl ((if0 _ _).trans (feq hc3_35).1) kz) ?_
    refine Goes.step (T' := s₁) (g' := (mkF m 7 #[.val (.int p0), .val (.int p1), .unset, .unset, .unset] [(.int p0)])) (fun _ kz => XS.iloadN X0.here hx rfl (hb hby at_6) rfl  kz) ?_
    refine Goes.step (T' := s₁) (g' := (mkF m 8 #[.val (.int p0), .val (.int p1), .unset, .unset, .unset] [(.int (0 : Int32)), (.int p0)])) (fun _ kz => XS.iconst X0.here hx rfl (hb hby at_7) kz) ?_
    obtain ⟨_, _, ⟨T76, L76, k76, n76⟩, -, X76, ⟨Lc76, hQ76, l76, y76, z76⟩, st76⟩ := Jvm.LawKit.callS X0 hx (y := (⟨"com/example/tariff/tariff/core/decimal/PlainDecimalIntegerDigitsPinLaw", "digit", "(II)C"⟩ : MethodName)) hown (mvT hZ (hw _ (List.mem_of_getElem? (i := 0) rfl))) (mvT hZ (hw _ (List.mem_of_getElem? (i := 1) rfl))) (mvT hZ (hw _ (List.mem_of_getElem? (i := 2) rfl))) (mvT hZ (hw _ (List.mem_of_getElem? (i := 3) rfl))) (by decide) (backOf (W := 0) (rm_digit l Z a0 hw [] p0 (0 : Int32) h0 n0 O0  ) hZ (hw _ (List.mem_of_getElem? (i := 3) rfl)) (hw _ (List.mem_of_getElem? (i := 2) rfl)) (by decide) (by decide)) (g := (mkF m 8 #[.val (.int p0), .val (.int p1), .unset, .unset, .unset] [(.int (0 : Int32)), (.int p0)])) rfl (by rw [hml]; rfl) (argsL := [(.int p0), (.int (0 : Int32))]) (rest := []) (lenOf pd_11 rfl) rfl (by show 2 * 0 + _ ≤ _; exact Nat.le_of_eq rfl) (hb hby at_8) (fun _ _ => ⟨rfl, e0, (by decide : 0 + 0 ≤ _), (by decide : 0 + 0 ≤ _)⟩)
    dsimp only [Pt.U, Pt.locs, Pt.cells, Pt.slots] at X76 l76 y76 z76 st76 hQ76
    subst l76 y76 z76
    obtain ⟨rfl, rfl, e76⟩ := hQ76
    replace N0 := Fr.app N0 (Fr.nil n0)
    refine Goes.step (T' := T76) (g' := (mkF m 11 #[.val (.int p0), .val (.int p1), .unset, .unset, .unset] [(.int (DG p0 (0 : Int32)))])) st76 ?_
    refine Goes.step (T' := T76) (g' := (mkF m 12 #[.val (.int p0), .val (.int p1), .val (.int (DG p0 (0 : Int32))), .unset, .unset] [])) (fun _ kz => XS.istoreN X76.here hx rfl (hb hby at_11) rfl (l' := #[.val (.int p0), .val (.int p1), .val (.int (DG p0 (0 : Int32))), .unset, .unset]) rfl kz) ?_
    refine Goes.step (T' := T76) (g' := (mkF m 13 #[.val (.int p0), .val (.int p1), .val (.int (DG p0 (0 : Int32))), .unset, .unset] [(.int (DG p0 (0 : Int32)))])) (fun _ kz => XS.iloadN X76.here hx rfl (hb hby at_12) rfl  kz) ?_
    refine Goes.step (T' := T76) (g' := (mkF m 15 #[.val (.int p0), .val (.int p1), .val (.int (DG p0 (0 : Int32))), .unset, .unset] [(.int (48 : Int32)), (.int (DG p0 (0 : Int32)))])) (fun _ kz => XS.bipush X76.here hx rfl (hb hby at_13) kz) ?_
    by_cases hc15_77 : (DG p0 (0 : Int32)) = (48 : Int32)
    ·
      refine Goes.step (T' := T76) (g' := (mkF m 18 #[.val (.int p0), .val (.int p1), .val (.int (DG p0 (0 : Int32))), .unset, .unset] [])) (fun _ kz => XS.icmpNo X76.here hx rfl (hb hby at_15) rfl (teq hc15_77).2 kz) ?_
      refine Goes.step (T' := T76) (g' := (mkF m 19 #[.val (.int p0), .val (.int p1), .val (.int (DG p0 (0 : Int32))), .unset, .unset] [(.int (0 : Int32))])) (fun _ kz => XS.iconst X76.here hx rfl (hb hby at_18) kz) ?_
      refine Goes.step (T' := T76) (g' := (mkF m 23 #[.val (.int p0), .val (.int p1), .val (.int (DG p0 (0 : Int32))), .unset, .unset] [(.int (0 : Int32))])) (fun _ kz => XS.goto X76.here hx rfl (pc0 := 19) (pc' := 23) rfl (hb hby at_19) (by decide) (by decide) kz) ?_
      refine Goes.step (T' := T76) (g' := (mkF m 24 #[.val (.int p0), .val (.int p1), .val (.int (DG p0 (0 : Int32))), .val (.int (0 : Int32)), .unset] [])) (fun _ kz => XS.istoreN X76.here hx rfl (hb hby at_23) rfl (l' := #[.val (.int p0), .val (.int p1), .val (.int (DG p0 (0 : Int32))), .val (.int (0 : Int32)), .unset]) rfl kz) ?_
      refine Goes.step (T' := T76) (g' := (mkF m 25 #[.val (.int p0), .val (.int p1), .val (.int (DG p0 (0 : Int32))), .val (.int (0 : Int32)), .unset] [(.int (DG p0 (0 : Int32)))])) (fun _ kz => XS.iloadN X76.here hx rfl (hb hby at_24) rfl  kz) ?_
      obtain ⟨_, _, ⟨T78, L78, k78, n78⟩, -, X78, ⟨Lc78, hQ78, l78, y78, z78⟩, st78⟩ := Jvm.LawKit.callS X76 hx (y := (⟨"java/lang/String", "valueOf", "(C)Ljava/lang/String;"⟩ : MethodName)) hown (mvT hZ (hw _ (List.mem_of_getElem? (i := 4) rfl))) (mvT hZ (hw _ (List.mem_of_getElem? (i := 5) rfl))) (mvT hZ (hw _ (List.mem_of_getElem? (i := 6) rfl))) (mvT hZ (hw _ (List.mem_of_getElem? (i := 7) rfl))) (by decide) (backOf (W := 0) (rm_valueOfC l Z a0 hw [] (DG p0 (0 : Int32)) h0 n0 O0 zcs Scs hz_Scs (own_r (DG_rng _ _)).2.2) hZ (hw _ (List.mem_of_getElem? (i := 7) rfl)) (hw _ (List.mem_of_getElem? (i := 6) rfl)) (by decide) (by decide)) (g := (mkF m 25 #[.val (.int p0), .val (.int p1), .val (.int (DG p0 (0 : Int32))), .val (.int (0 : Int32)), .unset] [(.int (DG p0 (0 : Int32)))])) rfl (by rw [hml]; rfl) (argsL := [(.int (DG p0 (0 : Int32)))]) (rest := []) (lenOf pd_13 rfl) rfl (by show 2 * 0 + _ ≤ _; exact Nat.le_of_eq rfl) (hb hby at_25) (fun _ _ => ⟨rfl, e76, (by decide : 0 + 2 ≤ _), (by decide : 0 + 5 ≤ _)⟩)
      dsimp only [Pt.U, Pt.locs, Pt.cells, Pt.slots] at X78 l78 y78 z78 st78 hQ78
      subst l78 y78 z78
      obtain ⟨h78, e78⟩ : ∃ z, T78.heap = z := ⟨_, rfl⟩
      rw [e78] at hQ78
      obtain ⟨b_78, t_78, kt_78, rfl, Nq78, Kq78, fr78_b_78, fr78_t_78, E_b_78_q78, F_b_78_value_q78, F_b_78_coder_q78, V_t_78_q78⟩ := hQ78
      replace N0 := Fr.app N0 Nq78
      have g_b_78 : n0 ≤ b_78 := Nat.le_trans (own_n0 O0) fr78_b_78
      have sz_b_78 : h0.size ≤ b_78 := Nat.le_trans K0.1 fr78_b_78
      have g_t_78 : n0 ≤ t_78 := Nat.le_trans (own_n0 O0) fr78_t_78
      have sz_t_78 : h0.size ≤ t_78 := Nat.le_trans K0.1 fr78_t_78
      replace O0 := O0.keep Kq78 all0
      replace K0 := K0.trans Kq78 all0
      have E_b_78 := E_b_78_q78
      have F_b_78_value := F_b_78_value_q78
      have F_b_78_coder := F_b_78_coder_q78
      have V_t_78 := V_t_78_q78
      refine Goes.step (T' := T78) (g' := (mkF m 28 #[.val (.int p0), .val (.int p1), .val (.int (DG p0 (0 : Int32))), .val (.int (0 : Int32)), .unset] [(.ref b_78)])) st78 ?_
      rw [own_i8] at V_t_78
      have G_b_78 : SX Z h78 b_78 [DG p0 (0 : Int32)] := ⟨E_b_78, F_b_78_coder, (by simp only [List.mem_cons, List.not_mem_nil, or_false]; rintro c rfl; exact (own_r (DG_rng _ _)).2), _, _, F_b_78_value, V_t_78⟩
      obtain ⟨_, _, ⟨T79, L79, k79, n79⟩, -, X79, ⟨Lc79, hQ79, l79, y79, z79⟩, st79⟩ := Jvm.LawKit.callS X78 hx (y := (⟨"com/example/tariff/tariff/core/decimal/PlainDecimal", "integerDigits", "(Ljava/lang/String;)I"⟩ : MethodName)) hown (mvT hZ (hw _ (List.mem_of_getElem? (i := 30) rfl))) (mvT hZ (hw _ (List.mem_of_getElem? (i := 31) rfl))) (mvT hZ (hw _ (List.mem_of_getElem? (i := 32) rfl))) (mvT hZ (hw _ (List.mem_of_getElem? (i := 33) rfl))) (by decide) (backOf (W := 0) (rm_intD l Z a0 hw [] b_78 ([DG p0 (0 : Int32)]) h78 n0 O0 zcs Scs hz_Scs fmt Sfm hz_Sfm E_b_78 G_b_78 (by simp)) hZ (hw _ (List.mem_of_getElem? (i := 33) rfl)) (hw _ (List.mem_of_getElem? (i := 32) rfl)) (by decide) (by decide)) (g := (mkF m 28 #[.val (.int p0), .val (.int p1), .val (.int (DG p0 (0 : Int32))), .val (.int (0 : Int32)), .unset] [(.ref b_78)])) rfl (by rw [hml]; rfl) (argsL := [(.ref b_78)]) (rest := []) (lenOf pd_6 rfl) rfl (by show 2 * 0 + _ ≤ _; exact Nat.le_of_eq rfl) (hb hby at_28) (fun _ _ => ⟨rfl, e78, (by decide : 2 + 0 ≤ _), (by decide : 5 + 0 ≤ _)⟩)
      dsimp only [Pt.U, Pt.locs, Pt.cells, Pt.slots] at X79 l79 y79 z79 st79 hQ79
      subst l79 y79 z79
      obtain ⟨rfl, rfl, e79⟩ := hQ79
      replace N0 := Fr.app N0 (Fr.nil n0)
      refine Goes.step (T' := T79) (g' := (mkF m 31 #[.val (.int p0), .val (.int p1), .val (.int (DG p0 (0 : Int32))), .val (.int (0 : Int32)), .unset] [(.int (Int32.ofNat (IX [DG p0 (0 : Int32)]) - Int32.ofNat (LZ [DG p0 (0 : Int32)])))])) st79 ?_
      refine Goes.step (T' := T79) (g' := (mkF m 32 #[.val (.int p0), .val (.int p1), .val (.int (DG p0 (0 : Int32))), .val (.int (0 : Int32)), .unset] [(.int (0 : Int32)), (.int (Int32.ofNat (IX [DG p0 (0 : Int32)]) - Int32.ofNat (LZ [DG p0 (0 : Int32)])))])) (fun _ kz => XS.iloadN X79.here hx rfl (hb hby at_31) rfl  kz) ?_
      refine Goes.step (T' := T79) (g' := (mkF m 35 #[.val (.int p0), .val (.int p1), .val (.int (DG p0 (0 : Int32))), .val (.int (0 : Int32)), .unset] [])) (fun _ kz => XS.icmpNo X79.here hx rfl (hb hby at_32) rfl (teq (by have hix : IX [DG p0 (0 : Int32)] = 1 := (by rw [IX, if_neg (own_r (DG_rng _ _)).1]; rfl); rw [hix, LZ, if_pos hc15_77]; decide)).2 kz) ?_
      refine Goes.step (T' := T79) (g' := (mkF m 36 #[.val (.int p0), .val (.int p1), .val (.int (DG p0 (0 : Int32))), .val (.int (0 : Int32)), .unset] [(.int (1 : Int32))])) (fun _ kz => XS.iconst X79.here hx rfl (hb hby at_35) kz) ?_
      refine Goes.step (T' := T79) (g' := (mkF m 40 #[.val (.int p0), .val (.int p1), .val (.int (DG p0 (0 : Int32))), .val (.int (0 : Int32)), .unset] [(.int (1 : Int32))])) (fun _ kz => XS.goto X79.here hx rfl (pc0 := 36) (pc' := 40) rfl (hb hby at_36) (by decide) (by decide) kz) ?_
      obtain ⟨fs, hr, hrun, hended, hW, hsame⟩ := X79.leave (v := some (.int (nar .boolean (1 : Int32)))) (fun h => by rw [Bd.returns] at h; cases h)
      exact ⟨_, _, retN X79 hx (t := .boolean) Bd.returns (by simp) (hb hby at_40) hr, hrun, hended, _, _, rfl, (by show Q_law Z p0 p1 h0 n0 _ T79.heap _; rw [e79]; exact ⟨rfl, N0, K0⟩), ⟨_, rfl⟩, hW, hsame.mono (by decide) (by decide)⟩
    ·
      refine Goes.step (T' := T76) (g' := (mkF m 22 #[.val (.int p0), .val (.int p1), .val (.int (DG p0 (0 : Int32))), .unset, .unset] [])) (fun _ kz => XS.icmpYes X76.here hx rfl (pc0 := 15) (pc' := 22) rfl (hb hby at_15) rfl (feq hc15_77).2 (by decide) (by decide) kz) ?_
      refine Goes.step (T' := T76) (g' := (mkF m 23 #[.val (.int p0), .val (.int p1), .val (.int (DG p0 (0 : Int32))), .unset, .unset] [(.int (1 : Int32))])) (fun _ kz => XS.iconst X76.here hx rfl (hb hby at_22) kz) ?_
      refine Goes.step (T' := T76) (g' := (mkF m 24 #[.val (.int p0), .val (.int p1), .val (.int (DG p0 (0 : Int32))), .val (.int (1 : Int32)), .unset] [])) (fun _ kz => XS.istoreN X76.here hx rfl (hb hby at_23) rfl (l' := #[.val (.int p0), .val (.int p1), .val (.int (DG p0 (0 : Int32))), .val (.int (1 : Int32)), .unset]) rfl kz) ?_
      refine Goes.step (T' := T76) (g' := (mkF m 25 #[.val (.int p0), .val (.int p1), .val (.int (DG p0 (0 : Int32))), .val (.int (1 : Int32)), .unset] [(.int (DG p0 (0 : Int32)))])) (fun _ kz => XS.iloadN X76.here hx rfl (hb hby at_24) rfl  kz) ?_
      obtain ⟨_, _, ⟨T80, L80, k80, n80⟩, -, X80, ⟨Lc80, hQ80, l80, y80, z80⟩, st80⟩ := Jvm.LawKit.callS X76 hx (y := (⟨"java/lang/String", "valueOf", "(C)Ljava/lang/String;"⟩ : MethodName)) hown (mvT hZ (hw _ (List.mem_of_getElem? (i := 4) rfl))) (mvT hZ (hw _ (List.mem_of_getElem? (i := 5) rfl))) (mvT hZ (hw _ (List.mem_of_getElem? (i := 6) rfl))) (mvT hZ (hw _ (List.mem_of_getElem? (i := 7) rfl))) (by decide) (backOf (W := 0) (rm_valueOfC l Z a0 hw [] (DG p0 (0 : Int32)) h0 n0 O0 zcs Scs hz_Scs (own_r (DG_rng _ _)).2.2) hZ (hw _ (List.mem_of_getElem? (i := 7) rfl)) (hw _ (List.mem_of_getElem? (i := 6) rfl)) (by decide) (by decide)) (g := (mkF m 25 #[.val (.int p0), .val (.int p1), .val (.int (DG p0 (0 : Int32))), .val (.int (1 : Int32)), .unset] [(.int (DG p0 (0 : Int32)))])) rfl (by rw [hml]; rfl) (argsL := [(.int (DG p0 (0 : Int32)))]) (rest := []) (lenOf pd_13 rfl) rfl (by show 2 * 0 + _ ≤ _; exact Nat.le_of_eq rfl) (hb hby at_25) (fun _ _ => ⟨rfl, e76, (by decide : 0 + 2 ≤ _), (by decide : 0 + 5 ≤ _)⟩)
      dsimp only [Pt.U, Pt.locs, Pt.cells, Pt.slots] at X80 l80 y80 z80 st80 hQ80
      subst l80 y80 z80
      obtain ⟨h80, e80⟩ : ∃ z, T80.heap = z := ⟨_, rfl⟩
      rw [e80] at hQ80
      obtain ⟨b_80, t_80, kt_80, rfl, Nq80, Kq80, fr80_b_80, fr80_t_80, E_b_80_q80, F_b_80_value_q80, F_b_80_coder_q80, V_t_80_q80⟩ := hQ80
      replace N0 := Fr.app N0 Nq80
      have g_b_80 : n0 ≤ b_80 := Nat.le_trans (own_n0 O0) fr80_b_80
      have sz_b_80 : h0.size ≤ b_80 := Nat.le_trans K0.1 fr80_b_80
      have g_t_80 : n0 ≤ t_80 := Nat.le_trans (own_n0 O0) fr80_t_80
      have sz_t_80 : h0.size ≤ t_80 := Nat.le_trans K0.1 fr80_t_80
      replace O0 := O0.keep Kq80 all0
      replace K0 := K0.trans Kq80 all0
      have E_b_80 := E_b_80_q80
      have F_b_80_value := F_b_80_value_q80
      have F_b_80_coder := F_b_80_coder_q80
      have V_t_80 := V_t_80_q80
      refine Goes.step (T' := T80) (g' := (mkF m 28 #[.val (.int p0), .val (.int p1), .val (.int (DG p0 (0 : Int32))), .val (.int (1 : Int32)), .unset] [(.ref b_80)])) st80 ?_
      rw [own_i8] at V_t_80
      have G_b_80 : SX Z h80 b_80 [DG p0 (0 : Int32)] := ⟨E_b_80, F_b_80_coder, (by simp only [List.mem_cons, List.not_mem_nil, or_false]; rintro c rfl; exact (own_r (DG_rng _ _)).2), _, _, F_b_80_value, V_t_80⟩
      obtain ⟨_, _, ⟨T81, L81, k81, n81⟩, -, X81, ⟨Lc81, hQ81, l81, y81, z81⟩, st81⟩ := Jvm.LawKit.callS X80 hx (y := (⟨"com/example/tariff/tariff/core/decimal/PlainDecimal", "integerDigits", "(Ljava/lang/String;)I"⟩ : MethodName)) hown (mvT hZ (hw _ (List.mem_of_getElem? (i := 30) rfl))) (mvT hZ (hw _ (List.mem_of_getElem? (i := 31) rfl))) (mvT hZ (hw _ (List.mem_of_getElem? (i := 32) rfl))) (mvT hZ (hw _ (List.mem_of_getElem? (i := 33) rfl))) (by decide) (backOf (W := 0) (rm_intD l Z a0 hw [] b_80 ([DG p0 (0 : Int32)]) h80 n0 O0 zcs Scs hz_Scs fmt Sfm hz_Sfm E_b_80 G_b_80 (by simp)) hZ (hw _ (List.mem_of_getElem? (i := 33) rfl)) (hw _ (List.mem_of_getElem? (i := 32) rfl)) (by decide) (by decide)) (g := (mkF m 28 #[.val (.int p0), .val (.int p1), .val (.int (DG p0 (0 : Int32))), .val (.int (1 : Int32)), .unset] [(.ref b_80)])) rfl (by rw [hml]; rfl) (argsL := [(.ref b_80)]) (rest := []) (lenOf pd_6 rfl) rfl (by show 2 * 0 + _ ≤ _; exact Nat.le_of_eq rfl) (hb hby at_28) (fun _ _ => ⟨rfl, e80, (by decide : 2 + 0 ≤ _), (by decide : 5 + 0 ≤ _)⟩)
      dsimp only [Pt.U, Pt.locs, Pt.cells, Pt.slots] at X81 l81 y81 z81 st81 hQ81
      subst l81 y81 z81
      obtain ⟨rfl, rfl, e81⟩ := hQ81
      replace N0 := Fr.app N0 (Fr.nil n0)
      refine Goes.step (T' := T81) (g' := (mkF m 31 #[.val (.int p0), .val (.int p1), .val (.int (DG p0 (0 : Int32))), .val (.int (1 : Int32)), .unset] [(.int (Int32.ofNat (IX [DG p0 (0 : Int32)]) - Int32.ofNat (LZ [DG p0 (0 : Int32)])))])) st81 ?_
      refine Goes.step (T' := T81) (g' := (mkF m 32 #[.val (.int p0), .val (.int p1), .val (.int (DG p0 (0 : Int32))), .val (.int (1 : Int32)), .unset] [(.int (1 : Int32)), (.int (Int32.ofNat (IX [DG p0 (0 : Int32)]) - Int32.ofNat (LZ [DG p0 (0 : Int32)])))])) (fun _ kz => XS.iloadN X81.here hx rfl (hb hby at_31) rfl  kz) ?_
      refine Goes.step (T' := T81) (g' := (mkF m 35 #[.val (.int p0), .val (.int p1), .val (.int (DG p0 (0 : Int32))), .val (.int (1 : Int32)), .unset] [])) (fun _ kz => XS.icmpNo X81.here hx rfl (hb hby at_32) rfl (teq (by have hix : IX [DG p0 (0 : Int32)] = 1 := (by rw [IX, if_neg (own_r (DG_rng _ _)).1]; rfl); rw [hix, LZ, if_neg hc15_77]; decide)).2 kz) ?_
      refine Goes.step (T' := T81) (g' := (mkF m 36 #[.val (.int p0), .val (.int p1), .val (.int (DG p0 (0 : Int32))), .val (.int (1 : Int32)), .unset] [(.int (1 : Int32))])) (fun _ kz => XS.iconst X81.here hx rfl (hb hby at_35) kz) ?_
      refine Goes.step (T' := T81) (g' := (mkF m 40 #[.val (.int p0), .val (.int p1), .val (.int (DG p0 (0 : Int32))), .val (.int (1 : Int32)), .unset] [(.int (1 : Int32))])) (fun _ kz => XS.goto X81.here hx rfl (pc0 := 36) (pc' := 40) rfl (hb hby at_36) (by decide) (by decide) kz) ?_
      obtain ⟨fs, hr, hrun, hended, hW, hsame⟩ := X81.leave (v := some (.int (nar .boolean (1 : Int32)))) (fun h => by rw [Bd.returns] at h; cases h)
      exact ⟨_, _, retN X81 hx (t := .boolean) Bd.returns (by simp) (hb hby at_40) hr, hrun, hended, _, _, rfl, (by show Q_law Z p0 p1 h0 n0 _ T81.heap _; rw [e81]; exact ⟨rfl, N0, K0⟩), ⟨_, rfl⟩, hW, hsame.mono (by decide) (by decide)⟩
set_option maxRecDepth 65536 in
set_option maxHeartbeats 40000000 in
theorem comes_1 {Post : Tables → Env → Array Value → State → Outcome → State → Prop} (hpost : ∀ tb e args s v u, (limb_1_1.after args s (.returned v) u = true ∧ limb_1_2.after args s (.returned v) u = true ∧ True) → FrameEnd s (.returned v) u (Jvm.fieldLocs frame_1_writes args s ++ Jvm.arrayLocs frame_1_arrays args s ++ Jvm.staticLocs frame_1_statics s) 16 128 → Post tb e args s (.returned v) u) :
    ArmFor flags0 classFile x code maxLocals ret World_1 tables_1 room_1 Calls_1 rest_1 Pre_1 Post := by
  intro l hfl _ _ p e ha hc hk s m args below hf hA hF happ hP
  obtain ⟨hcalls, hrest, hpre⟩ := hP
  obtain ⟨-, -, -, hnamed, -, -, -, hat⟩ := (Spec.applies_iff hf).mp happ
  obtain ⟨hg, hn⟩ := and_e (Cond.before_iff.mp (show (Jvm.Cond.and given_1 narrow_1).before args s = true from hpre))
  obtain ⟨hg0, hr0⟩ := and_e hg
  obtain ⟨ha0, hr1⟩ := and_e hr0
  have ha1 := hr1
  obtain ⟨w0, w1, rfl⟩ : ∃ w0 w1 : Value, args = #[w0, w1] := by
    have hs : args.size = 2 := by simpa [Cond.value, given_1] using hg0
    obtain ⟨L⟩ := args
    match L, hs with
    | [w0, w1], _ => exact ⟨w0, w1, rfl⟩
  have hw := fun d (hd : d ∈ tables_1) => atoms_spec (ws := Jvm.Cond.code x code maxLocals ret :: tables_1) hat d (List.mem_cons_of_mem _ hd)
  obtain ⟨hsets, hown0⟩ := atoms_of _ (rest_1_c_eq ▸ (show rest_1_c.before _ s = true from hrest))
  obtain ⟨i0, ei0⟩ := is_v ha0
  obtain rfl : w0 = (.int i0) := Option.some.inj ei0
  obtain ⟨i1, ei1⟩ := is_v ha1
  obtain rfl : w1 = (.int i1) := Option.some.inj ei1
  have nn_Scs := not_v (Cond.before_iff.mp (hsets _ (List.mem_of_getElem? (i := 2) rfl)))
  obtain ⟨zcs, es_Scs⟩ := is_v (Cond.before_iff.mp (hsets _ (List.mem_of_getElem? (i := 1) rfl)))
  have Scs : Sta s s.heap "java/lang/String" "COMPACT_STRINGS" "Z" (.int zcs) := Sta.start es_Scs (Or.inl (hsets _ (List.mem_of_getElem? (i := 0) rfl)))
  have hz_Scs : ¬ (zcs = (0 : Int32)) := gotF (Cond.eq_ints es_Scs (Term.int_eval (0))) nn_Scs
  obtain ⟨fmt, es_Sfm, hz_Sfm⟩ := isR_v (Cond.before_iff.mp (hsets _ (List.mem_of_getElem? (i := 8) rfl)))
  have Sfm : Sta s s.heap "jdk/internal/util/Preconditions" "SIOOBE_FORMATTER" "Ljava/util/function/BiFunction;" fmt := Sta.start es_Sfm (Or.inl (hsets _ (List.mem_of_getElem? (i := 7) rfl)))
  obtain ⟨n, o, h1, h2, h3, _, L, rfl, ⟨rfl, N, -⟩, hq⟩ := rm_law l s _ hw tables_1 i0 i1 s.heap s.heap.size (Old.start s) zcs Scs hz_Scs fmt Sfm hz_Sfm p e ha hc hk s m _ below hf ((Spec.applies_iff_loose hf).mp happ).1 ⟨rfl, State.Warmed39.refl s, rfl⟩ trivial
  refine ⟨n, _, h1, h2, h3, hpost _ _ _ _ _ _ ⟨Cond.after_iff.mpr rfl, Cond.after_iff.mpr (eq_i res_at (Term.int_eval (1)) rfl), trivial⟩ ⟨hq.1, hq.2.1, (hq.2.2.sift fun y hy => Or.inr (N y hy)).mono (by decide) (by decide)⟩⟩
theorem main_1_1 : Claimed_1_1 := comes_1 fun _ _ _ _ _ _ h hF => ⟨h.1, hF⟩
theorem main_1_2 : Claimed_1_2 := comes_1 fun _ _ _ _ _ _ h hF => ⟨h.2.1, hF⟩
end Jvm.Pilot.@@N@@
namespace Jvm.Pilot.@@N@@
open Jvm Jvm.ClassFile Sem Op Lib Jvm.Free Jvm.Stand Jvm.Pilot.@@N@@.Jvm.D
/-! MADE BY PROGRAM (witnessworld.py) out of the Statement's table words and the real class files: 21 classes; the members and pool entries that the words name. The judged class is class 1, her method 2. -/
namespace start1
open Jvm.ClassFile
def u (s : String) : CpInfo := .utf8 (stringToUtf16 s)
/-- a pool by its gaps: so many unusable entries, then the entry; so many at the end -/
def gap : Nat → List CpInfo → List CpInfo
  | 0, r => r
  | n + 1, r => .unusable :: gap n r
def poolList (es : List (Nat × CpInfo)) (last : Nat) : List CpInfo := es.foldr (fun e r => gap e.1 (e.2 :: r)) (gap last [])
def pool (es : List (Nat × CpInfo)) (last : Nat) : Array CpInfo := ⟨poolList es last⟩
def fileOf (pool : Array CpInfo) (this : Nat) (attrs : Array Attribute := #[]) (ms : Array MethodInfo := #[]) (fl : Nat := 33) (sup : Nat := 0) (ifs : Array Nat := #[]) (fds : Array FieldInfo := #[]) : ClassFile where
  minorVersion := 0
  majorVersion := 65
  constantPool := pool
  accessFlags := fl
  thisClass := this
  superClass := sup
  interfaces := ifs
  fields := fds
  methods := ms
  attributes := attrs
def plain (name : String) (sup : Option ClassId) : Class where
  name := name
  kind := .ordinary
  loader := none
  accessFlags := 33
  super := sup
  interfaces := #[]
  cf := none
  fields := #[]
  methods := #[]
  instanceTypes := #[]
  staticTypes := #[]
  resolved := #[]
  callSites := []
  init := .initialized
  statics := none
  mirror := none

def pool0 : Array CpInfo := pool [(5, u "<init>"), (0, u "()V"), (1, .class_ 10), (1, u "java/lang/Object")] 113

def k0c0 : Code := { maxStack := 0, maxLocals := 1, code := object_method_1_code, exceptionTable := #[], attributes := #[] }
def k0m0 : Method := { name := "<init>", desc := "()V", sig := { parameters := [], returnType := none }, accessFlags := 1, code := some k0c0 }
/-- java/lang/Object -/
def k0 : Class := { plain "java/lang/Object" none with
  accessFlags := 33
  interfaces := #[]
  cf := some (fileOf pool0 8 #[] #[{ accessFlags := 1, nameIndex := 5, descriptorIndex := 6, attributes := #[] }] 33 0 #[] #[])
  fields := #[]
  methods := #[k0m0]
  instanceTypes := #[]
  staticTypes := #[]
  resolved := Array.replicate 124 none
  statics := none }

def pool1 : Array CpInfo := pool [(2, .class_ 4), (1, u "java/lang/Object"), (0, u "<init>"), (0, u "()V"), (0, .methodref 8 9), (0, .class_ 10), (0, .nameAndType 11 12), (0, u "com/example/tariff/tariff/core/decimal/PlainDecimalIntegerDigitsPinLaw"), (0, u "digit"), (0, u "(II)C"), (0, .methodref 14 15), (0, .class_ 16), (0, .nameAndType 17 18), (0, u "java/lang/String"), (0, u "valueOf"), (0, u "(C)Ljava/lang/String;"), (0, .methodref 20 21), (0, .class_ 22), (0, .nameAndType 23 24), (0, u "com/example/tariff/tariff/core/decimal/PlainDecimal"), (0, u "integerDigits"), (0, u "(Ljava/lang/String;)I"), (0, .methodref 14 26), (0, .nameAndType 5 27), (0, u "([C)V"), (3, u "law"), (0, u "(II)Z")] 4

def k1m0 : Method := { name := "<init>", desc := "()V", sig := { parameters := [], returnType := none }, accessFlags := 2, code := none }
def k1c1 : Code := { maxStack := 3, maxLocals := 3, code := method_2_code, exceptionTable := #[], attributes := #[] }
def k1m1 : Method := { name := "digit", desc := "(II)C", sig := { parameters := [.int, .int], returnType := some .char }, accessFlags := 10, code := some k1c1 }
def k1c2 : Code := { maxStack := 4, maxLocals := 5, code := code, exceptionTable := #[], attributes := #[] }
def k1m2 : Method := { name := "law", desc := "(II)Z", sig := { parameters := [.int, .int], returnType := some .boolean }, accessFlags := 9, code := some k1c2 }
/-- com/example/tariff/tariff/core/decimal/PlainDecimalIntegerDigitsPinLaw -/
def k1 : Class := { plain "com/example/tariff/tariff/core/decimal/PlainDecimalIntegerDigitsPinLaw" (some 0) with
  accessFlags := 49
  interfaces := #[]
  cf := some (fileOf pool1 8 #[] #[{ accessFlags := 2, nameIndex := 5, descriptorIndex := 6, attributes := #[] }, { accessFlags := 10, nameIndex := 11, descriptorIndex := 12, attributes := #[] }, { accessFlags := 9, nameIndex := 31, descriptorIndex := 32, attributes := #[] }] 49 2 #[] #[])
  fields := #[]
  methods := #[k1m0, k1m1, k1m2]
  instanceTypes := #[]
  staticTypes := #[]
  resolved := Array.replicate 37 none
  statics := none }

def pool2 : Array CpInfo := pool [(1, .class_ 2), (0, u "java/io/Serializable"), (0, .class_ 4), (0, u "java/lang/Object")] 2

/-- java/io/Serializable -/
def k2 : Class := { plain "java/io/Serializable" (some 0) with
  accessFlags := 1537
  interfaces := #[]
  cf := some (fileOf pool2 1 #[] #[] 1537 3 #[] #[])
  fields := #[]
  methods := #[]
  instanceTypes := #[]
  staticTypes := #[]
  resolved := Array.replicate 7 none
  statics := none }

def pool3 : Array CpInfo := pool [(1, .class_ 2), (0, u "java/lang/Comparable"), (0, .class_ 4), (0, u "java/lang/Object")] 7

/-- java/lang/Comparable -/
def k3 : Class := { plain "java/lang/Comparable" (some 0) with
  accessFlags := 1537
  interfaces := #[]
  cf := some (fileOf pool3 1 #[] #[] 1537 3 #[] #[])
  fields := #[]
  methods := #[]
  instanceTypes := #[]
  staticTypes := #[]
  resolved := Array.replicate 12 none
  statics := none }

def pool4 : Array CpInfo := pool [(2, .class_ 4), (1, u "java/lang/CharSequence"), (42, .class_ 48), (0, u "java/lang/CharSequence$1CodePointIterator"), (10, .class_ 60), (0, u "java/lang/CharSequence$1CharIterator"), (5, .class_ 67), (0, u "java/lang/Object")] 63

/-- java/lang/CharSequence -/
def k4 : Class := { plain "java/lang/CharSequence" (some 0) with
  accessFlags := 1537
  interfaces := #[]
  cf := some (fileOf pool4 2 #[.nestMembers #[47, 59]] #[] 1537 66 #[] #[])
  fields := #[]
  methods := #[]
  instanceTypes := #[]
  staticTypes := #[]
  resolved := Array.replicate 131 none
  statics := none }

def pool5 : Array CpInfo := pool [(1, .class_ 2), (0, u "java/lang/constant/Constable"), (0, .class_ 4), (0, u "java/lang/Object")] 6

/-- java/lang/constant/Constable -/
def k5 : Class := { plain "java/lang/constant/Constable" (some 0) with
  accessFlags := 1537
  interfaces := #[]
  cf := some (fileOf pool5 1 #[] #[] 1537 3 #[] #[])
  fields := #[]
  methods := #[]
  instanceTypes := #[]
  staticTypes := #[]
  resolved := Array.replicate 11 none
  statics := none }

def pool6 : Array CpInfo := pool [(1, .class_ 2), (0, u "java/lang/constant/ConstantDesc"), (0, .class_ 4), (0, u "java/lang/Object")] 32

/-- java/lang/constant/ConstantDesc -/
def k6 : Class := { plain "java/lang/constant/ConstantDesc" (some 0) with
  accessFlags := 1537
  interfaces := #[]
  cf := some (fileOf pool6 1 #[] #[] 1537 3 #[] #[])
  fields := #[]
  methods := #[]
  instanceTypes := #[]
  staticTypes := #[]
  resolved := Array.replicate 37 none
  statics := none }

def pool7 : Array CpInfo := pool [(1, .methodref 2 3), (0, .class_ 4), (0, .nameAndType 5 6), (0, u "java/lang/Object"), (0, u "<init>"), (0, u "()V"), (2, .fieldref 10 11), (0, .class_ 12), (0, .nameAndType 13 14), (0, u "java/lang/String"), (0, u "value"), (0, u "[B"), (0, .fieldref 10 16), (0, .nameAndType 17 18), (0, u "coder"), (0, u "B"), (2, u "hash"), (0, u "I"), (2, u "hashIsZero"), (0, u "Z"), (0, .methodref 10 28), (0, .nameAndType 5 29), (0, u "([CIILjava/lang/Void;)V"), (8, .fieldref 10 39), (0, .nameAndType 40 26), (0, u "COMPACT_STRINGS"), (1, .class_ 44), (1, u "java/lang/StringUTF16"), (0, u "compress"), (1, .methodref 42 48), (0, .nameAndType 49 50), (0, u "coderFromArrayLen"), (0, u "([BI)B"), (2, u "toBytes"), (53, .class_ 109), (1, u "java/lang/StringLatin1"), (32, u "()Z"), (34, .methodref 42 178), (0, .nameAndType 45 179), (0, u "([CII)[B"), (29, .methodref 10 210), (0, .nameAndType 5 211), (0, u "([BB)V"), (122, u "()I"), (0, .methodref 10 336), (0, .nameAndType 17 337), (0, u "()B"), (25, u "([BI)C"), (5, u "(C)Z"), (21, u "(II)V"), (35, u "(I)C"), (64, .methodref 10 493), (0, .nameAndType 494 142), (0, u "isLatin1"), (0, .methodref 107 496), (0, .nameAndType 497 363), (0, u "charAt"), (3, u "checkIndex"), (3, .methodref 10 506), (0, .nameAndType 507 334), (0, u "length"), (67, .class_ 576), (0, u "java/lang/CharSequence"), (22, u "CASE_INSENSITIVE_ORDER"), (0, u "Ljava/util/Comparator;"), (32, .methodref 10 634), (0, .nameAndType 635 636), (0, u "indexOf"), (0, u "(II)I"), (0, .methodref 107 638), (0, .nameAndType 635 639), (0, u "([BIII)I"), (125, u "(I)I"), (16, u "valueOf"), (0, u "(C)Ljava/lang/String;"), (226, u "([C)V"), (4, .methodref 107 1016), (0, .nameAndType 1017 369), (0, u "canEncode"), (0, .methodref 107 1019), (0, .nameAndType 53 1020), (0, u "(C)[B"), (32, .fieldref 1054 1055), (0, .class_ 1056), (0, .nameAndType 1057 1058), (0, u "jdk/internal/util/Preconditions"), (0, u "SIOOBE_FORMATTER"), (0, u "Ljava/util/function/BiFunction;"), (0, .methodref 1054 1060), (0, .nameAndType 501 1061), (0, u "(IILjava/util/function/BiFunction;)I"), (39, u "serialPersistentFields"), (0, u "[Ljava/io/ObjectStreamField;"), (0, .class_ 1104), (0, u "java/lang/String$CaseInsensitiveComparator"), (1, .class_ 1107), (0, u "java/io/Serializable"), (0, .class_ 1109), (0, u "java/lang/Comparable"), (0, .class_ 1111), (0, u "java/lang/constant/Constable"), (0, .class_ 1113), (0, u "java/lang/constant/ConstantDesc"), (2, u "serialVersionUID"), (0, u "J"), (3, u "REPL"), (0, u "C"), (2, u "LATIN1"), (1, u "UTF16")] 323

def k7m0 : Method := { name := "<init>", desc := "()V", sig := { parameters := [], returnType := none }, accessFlags := 1, code := none }
def k7c1 : Code := { maxStack := 5, maxLocals := 2, code := jdk_42_method_3_code, exceptionTable := #[], attributes := #[] }
def k7m1 : Method := { name := "<init>", desc := "([C)V", sig := { parameters := [(.array .char)], returnType := none }, accessFlags := 1, code := some k7c1 }
def k7c2 : Code := { maxStack := 2, maxLocals := 1, code := jdk_42_method_54_code, exceptionTable := #[], attributes := #[] }
def k7m2 : Method := { name := "length", desc := "()I", sig := { parameters := [], returnType := some .int }, accessFlags := 1, code := some k7c2 }
def k7c3 : Code := { maxStack := 2, maxLocals := 2, code := jdk_42_method_56_code, exceptionTable := #[], attributes := #[] }
def k7m3 : Method := { name := "charAt", desc := "(I)C", sig := { parameters := [.int], returnType := some .char }, accessFlags := 1, code := some k7c3 }
def k7c4 : Code := { maxStack := 3, maxLocals := 2, code := jdk_42_method_79_code, exceptionTable := #[], attributes := #[] }
def k7m4 : Method := { name := "indexOf", desc := "(I)I", sig := { parameters := [.int], returnType := some .int }, accessFlags := 1, code := some k7c4 }
def k7c5 : Code := { maxStack := 4, maxLocals := 3, code := jdk_42_method_80_code, exceptionTable := #[], attributes := #[] }
def k7m5 : Method := { name := "indexOf", desc := "(II)I", sig := { parameters := [.int, .int], returnType := some .int }, accessFlags := 1, code := some k7c5 }
def k7c6 : Code := { maxStack := 4, maxLocals := 1, code := jdk_42_method_139_code, exceptionTable := #[], attributes := #[] }
def k7m6 : Method := { name := "valueOf", desc := "(C)Ljava/lang/String;", sig := { parameters := [.char], returnType := some (.object "java/lang/String") }, accessFlags := 9, code := some k7c6 }
def k7c7 : Code := { maxStack := 4, maxLocals := 6, code := jdk_42_method_149_code, exceptionTable := #[], attributes := #[] }
def k7m7 : Method := { name := "<init>", desc := "([CIILjava/lang/Void;)V", sig := { parameters := [(.array .char), .int, .int, (.object "java/lang/Void")], returnType := none }, accessFlags := 2, code := some k7c7 }
def k7c8 : Code := { maxStack := 2, maxLocals := 3, code := jdk_42_method_151_code, exceptionTable := #[], attributes := #[] }
def k7m8 : Method := { name := "<init>", desc := "([BB)V", sig := { parameters := [(.array .byte), .byte], returnType := none }, accessFlags := 0, code := some k7c8 }
def k7c9 : Code := { maxStack := 1, maxLocals := 1, code := jdk_42_method_152_code, exceptionTable := #[], attributes := #[] }
def k7m9 : Method := { name := "coder", desc := "()B", sig := { parameters := [], returnType := some .byte }, accessFlags := 0, code := some k7c9 }
def k7c10 : Code := { maxStack := 1, maxLocals := 1, code := jdk_42_method_154_code, exceptionTable := #[], attributes := #[] }
def k7m10 : Method := { name := "isLatin1", desc := "()Z", sig := { parameters := [], returnType := some .boolean }, accessFlags := 0, code := some k7c10 }
def k7c11 : Code := { maxStack := 3, maxLocals := 2, code := jdk_42_method_155_code, exceptionTable := #[], attributes := #[] }
def k7m11 : Method := { name := "checkIndex", desc := "(II)V", sig := { parameters := [.int, .int], returnType := none }, accessFlags := 8, code := some k7c11 }
/-- java/lang/String -/
def k7 : Class := { plain "java/lang/String" (some 0) with
  accessFlags := 49
  interfaces := #[2, 3, 4, 5, 6]
  cf := some (fileOf pool7 10 #[.nestMembers #[1103]] #[{ accessFlags := 1, nameIndex := 5, descriptorIndex := 6, attributes := #[] }, { accessFlags := 1, nameIndex := 5, descriptorIndex := 1010, attributes := #[] }, { accessFlags := 1, nameIndex := 507, descriptorIndex := 334, attributes := #[] }, { accessFlags := 1, nameIndex := 497, descriptorIndex := 427, attributes := #[] }, { accessFlags := 1, nameIndex := 635, descriptorIndex := 765, attributes := #[] }, { accessFlags := 1, nameIndex := 635, descriptorIndex := 636, attributes := #[] }, { accessFlags := 9, nameIndex := 782, descriptorIndex := 783, attributes := #[] }, { accessFlags := 2, nameIndex := 5, descriptorIndex := 29, attributes := #[] }, { accessFlags := 0, nameIndex := 5, descriptorIndex := 211, attributes := #[] }, { accessFlags := 0, nameIndex := 17, descriptorIndex := 337, attributes := #[] }, { accessFlags := 0, nameIndex := 494, descriptorIndex := 142, attributes := #[] }, { accessFlags := 8, nameIndex := 501, descriptorIndex := 391, attributes := #[] }] 49 2 #[1106, 1108, 575, 1110, 1112] #[{ accessFlags := 18, nameIndex := 13, descriptorIndex := 14, attributes := #[] }, { accessFlags := 18, nameIndex := 17, descriptorIndex := 18, attributes := #[] }, { accessFlags := 2, nameIndex := 21, descriptorIndex := 22, attributes := #[] }, { accessFlags := 2, nameIndex := 25, descriptorIndex := 26, attributes := #[] }, { accessFlags := 26, nameIndex := 1116, descriptorIndex := 1117, attributes := #[] }, { accessFlags := 24, nameIndex := 40, descriptorIndex := 26, attributes := #[] }, { accessFlags := 26, nameIndex := 1101, descriptorIndex := 1102, attributes := #[] }, { accessFlags := 26, nameIndex := 1121, descriptorIndex := 1122, attributes := #[] }, { accessFlags := 25, nameIndex := 599, descriptorIndex := 600, attributes := #[] }, { accessFlags := 24, nameIndex := 1125, descriptorIndex := 18, attributes := #[] }, { accessFlags := 24, nameIndex := 1127, descriptorIndex := 18, attributes := #[] }])
  fields := #[{ name := "value", type := (.array .byte), accessFlags := 18, slot := 0, constantValue := 0 }, { name := "coder", type := .byte, accessFlags := 18, slot := 1, constantValue := 0 }, { name := "hash", type := .int, accessFlags := 2, slot := 2, constantValue := 0 }, { name := "hashIsZero", type := .boolean, accessFlags := 2, slot := 3, constantValue := 0 }, { name := "serialVersionUID", type := .long, accessFlags := 26, slot := 0, constantValue := 0 }, { name := "COMPACT_STRINGS", type := .boolean, accessFlags := 24, slot := 1, constantValue := 0 }, { name := "serialPersistentFields", type := (.array (.object "java/io/ObjectStreamField")), accessFlags := 26, slot := 2, constantValue := 0 }, { name := "REPL", type := .char, accessFlags := 26, slot := 3, constantValue := 0 }, { name := "CASE_INSENSITIVE_ORDER", type := (.object "java/util/Comparator"), accessFlags := 25, slot := 4, constantValue := 0 }, { name := "LATIN1", type := .byte, accessFlags := 24, slot := 5, constantValue := 0 }, { name := "UTF16", type := .byte, accessFlags := 24, slot := 6, constantValue := 0 }]
  methods := #[k7m0, k7m1, k7m2, k7m3, k7m4, k7m5, k7m6, k7m7, k7m8, k7m9, k7m10, k7m11]
  instanceTypes := #[(.array .byte), .byte, .int, .boolean]
  staticTypes := #[.long, .boolean, (.array (.object "java/io/ObjectStreamField")), .char, (.object "java/util/Comparator"), .byte, .byte]
  resolved := Array.replicate 1451 none
  statics := some 0 }

def pool8 : Array CpInfo := pool [(1, .class_ 2), (0, u "java/lang/String"), (1, .class_ 6), (1, u "java/lang/Object"), (0, u "<init>"), (0, u "()V"), (0, .methodref 1 10), (0, .nameAndType 11 12), (0, u "checkIndex"), (0, u "(II)V"), (1, .class_ 16), (1, u "java/lang/StringLatin1"), (21, .methodref 39 40), (0, .class_ 41), (0, .nameAndType 42 43), (0, u "java/lang/Math"), (0, u "min"), (0, u "(II)I"), (9, u "([BI)C"), (34, .methodref 14 89), (0, .nameAndType 90 91), (0, u "canEncode"), (0, u "(I)Z"), (0, .methodref 39 93), (0, .nameAndType 94 43), (0, u "max"), (0, .methodref 14 96), (0, .nameAndType 97 98), (0, u "indexOfChar"), (0, u "([BIII)I"), (2, u "indexOf"), (3, u "(C)Z"), (15, u "$assertionsDisabled"), (0, u "Z"), (98, .class_ 223), (1, u "java/lang/StringLatin1$LinesSpliterator"), (28, u "charAt"), (127, u "toBytes"), (1, u "(C)[B"), (7, .class_ 391), (0, u "java/lang/StringLatin1$CharsSpliterator")] 3

def k8m0 : Method := { name := "<init>", desc := "()V", sig := { parameters := [], returnType := none }, accessFlags := 0, code := none }
def k8c1 : Code := { maxStack := 2, maxLocals := 2, code := jdk_43_method_2_code, exceptionTable := #[], attributes := #[] }
def k8m1 : Method := { name := "charAt", desc := "([BI)C", sig := { parameters := [(.array .byte), .int], returnType := some .char }, accessFlags := 9, code := some k8c1 }
def k8c2 : Code := { maxStack := 2, maxLocals := 1, code := jdk_43_method_3_code, exceptionTable := #[], attributes := #[] }
def k8m2 : Method := { name := "canEncode", desc := "(C)Z", sig := { parameters := [.char], returnType := some .boolean }, accessFlags := 9, code := some k8c2 }
def k8c3 : Code := { maxStack := 2, maxLocals := 1, code := jdk_43_method_4_code, exceptionTable := #[], attributes := #[] }
def k8m3 : Method := { name := "canEncode", desc := "(I)Z", sig := { parameters := [.int], returnType := some .boolean }, accessFlags := 9, code := some k8c3 }
def k8c4 : Code := { maxStack := 4, maxLocals := 4, code := jdk_43_method_22_code, exceptionTable := #[], attributes := #[] }
def k8m4 : Method := { name := "indexOf", desc := "([BIII)I", sig := { parameters := [(.array .byte), .int, .int, .int], returnType := some .int }, accessFlags := 9, code := some k8c4 }
def k8c5 : Code := { maxStack := 2, maxLocals := 6, code := jdk_43_method_23_code, exceptionTable := #[], attributes := #[] }
def k8m5 : Method := { name := "indexOfChar", desc := "([BIII)I", sig := { parameters := [(.array .byte), .int, .int, .int], returnType := some .int }, accessFlags := 10, code := some k8c5 }
def k8c6 : Code := { maxStack := 4, maxLocals := 1, code := jdk_43_method_46_code, exceptionTable := #[], attributes := #[] }
def k8m6 : Method := { name := "toBytes", desc := "(C)[B", sig := { parameters := [.char], returnType := some (.array .byte) }, accessFlags := 9, code := some k8c6 }
/-- java/lang/StringLatin1 -/
def k8 : Class := { plain "java/lang/StringLatin1" (some 0) with
  accessFlags := 48
  interfaces := #[]
  cf := some (fileOf pool8 14 #[.nestMembers #[390, 221]] #[{ accessFlags := 0, nameIndex := 7, descriptorIndex := 8, attributes := #[] }, { accessFlags := 9, nameIndex := 252, descriptorIndex := 53, attributes := #[] }, { accessFlags := 9, nameIndex := 90, descriptorIndex := 105, attributes := #[] }, { accessFlags := 9, nameIndex := 90, descriptorIndex := 91, attributes := #[] }, { accessFlags := 9, nameIndex := 101, descriptorIndex := 98, attributes := #[] }, { accessFlags := 10, nameIndex := 97, descriptorIndex := 98, attributes := #[] }, { accessFlags := 9, nameIndex := 380, descriptorIndex := 382, attributes := #[] }] 48 4 #[] #[{ accessFlags := 4120, nameIndex := 121, descriptorIndex := 122, attributes := #[] }])
  fields := #[{ name := "$assertionsDisabled", type := .boolean, accessFlags := 4120, slot := 0, constantValue := 0 }]
  methods := #[k8m0, k8m1, k8m2, k8m3, k8m4, k8m5, k8m6]
  instanceTypes := #[]
  staticTypes := #[.boolean]
  resolved := Array.replicate 395 none
  statics := none }

def pool9 : Array CpInfo := pool [(1, .class_ 2), (0, u "com/example/tariff/tariff/core/decimal/PlainDecimal"), (1, .class_ 6), (1, u "java/lang/Object"), (0, u "<init>"), (0, u "()V"), (2, u "NOTATION"), (0, u "Ljava/util/regex/Pattern;"), (12, .methodref 1 26), (0, .nameAndType 27 28), (0, u "pointIndex"), (0, u "(Ljava/lang/String;)I"), (0, .methodref 30 31), (0, .class_ 32), (0, .nameAndType 33 34), (0, u "java/lang/String"), (0, u "charAt"), (0, u "(I)C"), (0, .methodref 30 36), (0, .nameAndType 37 38), (0, u "length"), (0, u "()I"), (2, u "integerDigits"), (41, .methodref 30 84), (0, .nameAndType 85 86), (0, u "indexOf"), (0, u "(I)I"), (6, u "MAX_DIGITS"), (0, u "I"), (2, u "BEYOND_THE_BOUND"), (0, u "Ljava/lang/String;")] 15

def k9m0 : Method := { name := "<init>", desc := "()V", sig := { parameters := [], returnType := none }, accessFlags := 2, code := none }
def k9c1 : Code := { maxStack := 2, maxLocals := 3, code := prog_15_method_3_code, exceptionTable := #[], attributes := #[] }
def k9m1 : Method := { name := "integerDigits", desc := "(Ljava/lang/String;)I", sig := { parameters := [(.object "java/lang/String")], returnType := some .int }, accessFlags := 9, code := some k9c1 }
def k9c2 : Code := { maxStack := 2, maxLocals := 2, code := prog_15_method_9_code, exceptionTable := #[], attributes := #[] }
def k9m2 : Method := { name := "pointIndex", desc := "(Ljava/lang/String;)I", sig := { parameters := [(.object "java/lang/String")], returnType := some .int }, accessFlags := 10, code := some k9c2 }
/-- com/example/tariff/tariff/core/decimal/PlainDecimal -/
def k9 : Class := { plain "com/example/tariff/tariff/core/decimal/PlainDecimal" (some 0) with
  accessFlags := 49
  interfaces := #[]
  cf := some (fileOf pool9 1 #[] #[{ accessFlags := 2, nameIndex := 7, descriptorIndex := 8, attributes := #[] }, { accessFlags := 9, nameIndex := 41, descriptorIndex := 28, attributes := #[] }, { accessFlags := 10, nameIndex := 27, descriptorIndex := 28, attributes := #[] }] 49 4 #[] #[{ accessFlags := 25, nameIndex := 93, descriptorIndex := 94, attributes := #[] }, { accessFlags := 25, nameIndex := 97, descriptorIndex := 98, attributes := #[] }, { accessFlags := 26, nameIndex := 11, descriptorIndex := 12, attributes := #[] }])
  fields := #[{ name := "MAX_DIGITS", type := .int, accessFlags := 25, slot := 0, constantValue := 0 }, { name := "BEYOND_THE_BOUND", type := (.object "java/lang/String"), accessFlags := 25, slot := 1, constantValue := 0 }, { name := "NOTATION", type := (.object "java/util/regex/Pattern"), accessFlags := 26, slot := 2, constantValue := 0 }]
  methods := #[k9m0, k9m1, k9m2]
  instanceTypes := #[]
  staticTypes := #[.int, (.object "java/lang/String"), (.object "java/util/regex/Pattern")]
  resolved := Array.replicate 114 none
  statics := none }

def pool10 : Array CpInfo := pool [(1, .class_ 2), (0, u "java/lang/Math"), (1, .class_ 6), (1, u "java/lang/Object"), (0, u "<init>"), (0, u "()V"), (89, .class_ 100), (1, u "java/lang/Math$RandomNumberGeneratorHolder"), (71, u "negativeZeroFloatBits"), (0, u "J"), (2, u "negativeZeroDoubleBits"), (21, u "max"), (2, u "min"), (43, u "$assertionsDisabled"), (0, u "Z"), (88, u "(II)I"), (2, u "twoToTheDoubleScaleDown"), (0, u "D"), (4, u "twoToTheDoubleScaleUp"), (9, u "E"), (3, u "PI"), (2, u "TAU"), (2, u "DEGREES_TO_RADIANS"), (0, u "RADIANS_TO_DEGREES")] 94

def k10m0 : Method := { name := "<init>", desc := "()V", sig := { parameters := [], returnType := none }, accessFlags := 2, code := none }
def k10c1 : Code := { maxStack := 2, maxLocals := 2, code := jdk_29_method_65_code, exceptionTable := #[], attributes := #[] }
def k10m1 : Method := { name := "max", desc := "(II)I", sig := { parameters := [.int, .int], returnType := some .int }, accessFlags := 9, code := some k10c1 }
def k10c2 : Code := { maxStack := 2, maxLocals := 2, code := jdk_29_method_69_code, exceptionTable := #[], attributes := #[] }
def k10m2 : Method := { name := "min", desc := "(II)I", sig := { parameters := [.int, .int], returnType := some .int }, accessFlags := 9, code := some k10c2 }
/-- java/lang/Math -/
def k10 : Class := { plain "java/lang/Math" (some 0) with
  accessFlags := 49
  interfaces := #[]
  cf := some (fileOf pool10 1 #[.nestMembers #[98]] #[{ accessFlags := 2, nameIndex := 7, descriptorIndex := 8, attributes := #[] }, { accessFlags := 9, nameIndex := 198, descriptorIndex := 335, attributes := #[] }, { accessFlags := 9, nameIndex := 201, descriptorIndex := 335, attributes := #[] }] 49 4 #[] #[{ accessFlags := 25, nameIndex := 354, descriptorIndex := 339, attributes := #[] }, { accessFlags := 25, nameIndex := 358, descriptorIndex := 339, attributes := #[] }, { accessFlags := 25, nameIndex := 361, descriptorIndex := 339, attributes := #[] }, { accessFlags := 26, nameIndex := 364, descriptorIndex := 339, attributes := #[] }, { accessFlags := 26, nameIndex := 365, descriptorIndex := 339, attributes := #[] }, { accessFlags := 26, nameIndex := 172, descriptorIndex := 173, attributes := #[] }, { accessFlags := 26, nameIndex := 176, descriptorIndex := 173, attributes := #[] }, { accessFlags := 8, nameIndex := 344, descriptorIndex := 339, attributes := #[] }, { accessFlags := 8, nameIndex := 338, descriptorIndex := 339, attributes := #[] }, { accessFlags := 4120, nameIndex := 245, descriptorIndex := 246, attributes := #[] }])
  fields := #[{ name := "E", type := .double, accessFlags := 25, slot := 0, constantValue := 0 }, { name := "PI", type := .double, accessFlags := 25, slot := 1, constantValue := 0 }, { name := "TAU", type := .double, accessFlags := 25, slot := 2, constantValue := 0 }, { name := "DEGREES_TO_RADIANS", type := .double, accessFlags := 26, slot := 3, constantValue := 0 }, { name := "RADIANS_TO_DEGREES", type := .double, accessFlags := 26, slot := 4, constantValue := 0 }, { name := "negativeZeroFloatBits", type := .long, accessFlags := 26, slot := 5, constantValue := 0 }, { name := "negativeZeroDoubleBits", type := .long, accessFlags := 26, slot := 6, constantValue := 0 }, { name := "twoToTheDoubleScaleUp", type := .double, accessFlags := 8, slot := 7, constantValue := 0 }, { name := "twoToTheDoubleScaleDown", type := .double, accessFlags := 8, slot := 8, constantValue := 0 }, { name := "$assertionsDisabled", type := .boolean, accessFlags := 4120, slot := 9, constantValue := 0 }]
  methods := #[k10m0, k10m1, k10m2]
  instanceTypes := #[]
  staticTypes := #[.double, .double, .double, .double, .double, .long, .long, .double, .double, .boolean]
  resolved := Array.replicate 460 none
  statics := none }

def pool11 : Array CpInfo := pool [(2, .class_ 4), (1, u "java/lang/Object"), (0, u "<init>"), (0, u "()V"), (17, .class_ 26), (1, u "jdk/internal/util/Preconditions"), (6, u "checkIndex"), (21, .class_ 56), (0, u "jdk/internal/util/Preconditions$4"), (57, .class_ 115), (0, u "jdk/internal/util/Preconditions$1"), (7, u "SIOOBE_FORMATTER"), (0, u "Ljava/util/function/BiFunction;"), (0, .class_ 126), (0, u "jdk/internal/util/Preconditions$2"), (3, u "AIOOBE_FORMATTER"), (0, .class_ 132), (0, u "jdk/internal/util/Preconditions$3"), (3, u "IOOBE_FORMATTER"), (41, u "(IILjava/util/function/BiFunction;)I")] 15

def k11m0 : Method := { name := "<init>", desc := "()V", sig := { parameters := [], returnType := none }, accessFlags := 1, code := none }
def k11c1 : Code := { maxStack := 3, maxLocals := 3, code := jdk_41_method_11_code, exceptionTable := #[], attributes := #[] }
def k11m1 : Method := { name := "checkIndex", desc := "(IILjava/util/function/BiFunction;)I", sig := { parameters := [.int, .int, (.object "java/util/function/BiFunction")], returnType := some .int }, accessFlags := 9, code := some k11c1 }
/-- jdk/internal/util/Preconditions -/
def k11 : Class := { plain "jdk/internal/util/Preconditions" (some 0) with
  accessFlags := 33
  interfaces := #[]
  cf := some (fileOf pool11 24 #[.nestMembers #[55, 131, 125, 114]] #[{ accessFlags := 1, nameIndex := 5, descriptorIndex := 6, attributes := #[] }, { accessFlags := 9, nameIndex := 33, descriptorIndex := 178, attributes := #[] }] 33 2 #[] #[{ accessFlags := 25, nameIndex := 123, descriptorIndex := 124, attributes := #[] }, { accessFlags := 25, nameIndex := 130, descriptorIndex := 124, attributes := #[] }, { accessFlags := 25, nameIndex := 136, descriptorIndex := 124, attributes := #[] }])
  fields := #[{ name := "SIOOBE_FORMATTER", type := (.object "java/util/function/BiFunction"), accessFlags := 25, slot := 0, constantValue := 0 }, { name := "AIOOBE_FORMATTER", type := (.object "java/util/function/BiFunction"), accessFlags := 25, slot := 1, constantValue := 0 }, { name := "IOOBE_FORMATTER", type := (.object "java/util/function/BiFunction"), accessFlags := 25, slot := 2, constantValue := 0 }]
  methods := #[k11m0, k11m1]
  instanceTypes := #[]
  staticTypes := #[(.object "java/util/function/BiFunction"), (.object "java/util/function/BiFunction"), (.object "java/util/function/BiFunction")]
  resolved := Array.replicate 194 none
  statics := some 1 }

def pool12 : Array CpInfo := pool [(6, .class_ 8), (1, u "java/lang/Object"), (0, u "<init>"), (0, u "()V"), (1, .class_ 14), (1, u "java/lang/StringUTF16"), (31, u "$assertionsDisabled"), (0, u "Z"), (13, u "HI_BYTE_SHIFT"), (0, u "I"), (2, u "LO_BYTE_SHIFT"), (49, .methodref 12 116), (0, .nameAndType 117 118), (0, u "compress"), (0, u "([CI[BII)I"), (3, u "([CII)[B"), (138, u "coderFromArrayLen"), (0, u "([BI)B"), (106, .class_ 371), (1, u "java/lang/StringUTF16$LinesSpliterator"), (58, u "MAX_LENGTH"), (196, .class_ 628), (0, u "java/lang/StringUTF16$CodePointsSpliterator"), (0, .class_ 630), (0, u "java/lang/StringUTF16$CharsSpliterator")] 4

def k12m0 : Method := { name := "<init>", desc := "()V", sig := { parameters := [], returnType := none }, accessFlags := 0, code := none }
def k12c1 : Code := { maxStack := 2, maxLocals := 2, code := jdk_52_method_15_code, exceptionTable := #[], attributes := #[] }
def k12m1 : Method := { name := "coderFromArrayLen", desc := "([BI)B", sig := { parameters := [(.array .byte), .int], returnType := some .byte }, accessFlags := 8, code := some k12c1 }
def k12c2 : Code := { maxStack := 5, maxLocals := 6, code := jdk_52_method_16_code, exceptionTable := #[], attributes := #[] }
def k12m2 : Method := { name := "compress", desc := "([CII)[B", sig := { parameters := [(.array .char), .int, .int], returnType := some (.array .byte) }, accessFlags := 9, code := some k12c2 }
def k12c3 : Code := { maxStack := 3, maxLocals := 7, code := jdk_52_method_21_code, exceptionTable := #[], attributes := #[] }
def k12m3 : Method := { name := "compress", desc := "([CI[BII)I", sig := { parameters := [(.array .char), .int, (.array .byte), .int, .int], returnType := some .int }, accessFlags := 9, code := some k12c3 }
/-- java/lang/StringUTF16 -/
def k12 : Class := { plain "java/lang/StringUTF16" (some 0) with
  accessFlags := 48
  interfaces := #[]
  cf := some (fileOf pool12 12 #[.nestMembers #[627, 629, 369]] #[{ accessFlags := 0, nameIndex := 9, descriptorIndex := 10, attributes := #[] }, { accessFlags := 8, nameIndex := 261, descriptorIndex := 262, attributes := #[] }, { accessFlags := 9, nameIndex := 117, descriptorIndex := 122, attributes := #[] }, { accessFlags := 9, nameIndex := 117, descriptorIndex := 118, attributes := #[] }] 48 6 #[] #[{ accessFlags := 26, nameIndex := 61, descriptorIndex := 62, attributes := #[] }, { accessFlags := 26, nameIndex := 65, descriptorIndex := 62, attributes := #[] }, { accessFlags := 24, nameIndex := 430, descriptorIndex := 62, attributes := #[] }, { accessFlags := 4120, nameIndex := 46, descriptorIndex := 47, attributes := #[] }])
  fields := #[{ name := "HI_BYTE_SHIFT", type := .int, accessFlags := 26, slot := 0, constantValue := 0 }, { name := "LO_BYTE_SHIFT", type := .int, accessFlags := 26, slot := 1, constantValue := 0 }, { name := "MAX_LENGTH", type := .int, accessFlags := 24, slot := 2, constantValue := 0 }, { name := "$assertionsDisabled", type := .boolean, accessFlags := 4120, slot := 3, constantValue := 0 }]
  methods := #[k12m0, k12m1, k12m2, k12m3]
  instanceTypes := #[]
  staticTypes := #[.int, .int, .int, .boolean]
  resolved := Array.replicate 635 none
  statics := none }

def pool13 : Array CpInfo := pool [(9, u "<init>"), (6, .class_ 18), (1, u "java/lang/Object"), (0, u "()V"), (1, .class_ 23), (1, u "jdk/internal/util/ArraysSupport"), (0, u "LOG2_ARRAY_LONG_INDEX_SCALE"), (0, u "I"), (2, u "U"), (0, u "Ljdk/internal/misc/Unsafe;"), (8, u "BIG_ENDIAN"), (0, u "Z"), (8, u "LOG2_BYTE_BIT_SIZE"), (4, u "LOG2_ARRAY_INT_INDEX_SCALE"), (54, u "JLA"), (0, u "Ljdk/internal/access/JavaLangAccess;"), (11, u "LOG2_ARRAY_BOOLEAN_INDEX_SCALE"), (9, u "LOG2_ARRAY_BYTE_INDEX_SCALE"), (5, u "LOG2_ARRAY_CHAR_INDEX_SCALE"), (5, u "LOG2_ARRAY_SHORT_INDEX_SCALE"), (18, u "LOG2_ARRAY_FLOAT_INDEX_SCALE"), (24, u "LOG2_ARRAY_DOUBLE_INDEX_SCALE"), (89, u "T_BOOLEAN"), (2, u "T_CHAR"), (1, u "T_FLOAT"), (1, u "T_DOUBLE"), (1, u "T_BYTE"), (1, u "T_SHORT"), (1, u "T_INT"), (1, u "T_LONG"), (1, u "SOFT_MAX_ARRAY_LENGTH")] 83

def k13m0 : Method := { name := "<init>", desc := "()V", sig := { parameters := [], returnType := none }, accessFlags := 2, code := none }
/-- jdk/internal/util/ArraysSupport -/
def k13 : Class := { plain "jdk/internal/util/ArraysSupport" (some 0) with
  accessFlags := 33
  interfaces := #[]
  cf := some (fileOf pool13 21 #[] #[{ accessFlags := 2, nameIndex := 9, descriptorIndex := 19, attributes := #[] }] 33 16 #[] #[{ accessFlags := 24, nameIndex := 28, descriptorIndex := 29, attributes := #[] }, { accessFlags := 26, nameIndex := 38, descriptorIndex := 39, attributes := #[] }, { accessFlags := 25, nameIndex := 121, descriptorIndex := 25, attributes := #[] }, { accessFlags := 25, nameIndex := 131, descriptorIndex := 25, attributes := #[] }, { accessFlags := 25, nameIndex := 137, descriptorIndex := 25, attributes := #[] }, { accessFlags := 25, nameIndex := 143, descriptorIndex := 25, attributes := #[] }, { accessFlags := 25, nameIndex := 53, descriptorIndex := 25, attributes := #[] }, { accessFlags := 25, nameIndex := 24, descriptorIndex := 25, attributes := #[] }, { accessFlags := 25, nameIndex := 162, descriptorIndex := 25, attributes := #[] }, { accessFlags := 25, nameIndex := 187, descriptorIndex := 25, attributes := #[] }, { accessFlags := 26, nameIndex := 48, descriptorIndex := 25, attributes := #[] }, { accessFlags := 25, nameIndex := 277, descriptorIndex := 25, attributes := #[] }, { accessFlags := 25, nameIndex := 280, descriptorIndex := 25, attributes := #[] }, { accessFlags := 25, nameIndex := 282, descriptorIndex := 25, attributes := #[] }, { accessFlags := 25, nameIndex := 284, descriptorIndex := 25, attributes := #[] }, { accessFlags := 25, nameIndex := 286, descriptorIndex := 25, attributes := #[] }, { accessFlags := 25, nameIndex := 288, descriptorIndex := 25, attributes := #[] }, { accessFlags := 25, nameIndex := 290, descriptorIndex := 25, attributes := #[] }, { accessFlags := 25, nameIndex := 292, descriptorIndex := 25, attributes := #[] }, { accessFlags := 26, nameIndex := 108, descriptorIndex := 109, attributes := #[] }, { accessFlags := 25, nameIndex := 294, descriptorIndex := 25, attributes := #[] }])
  fields := #[{ name := "U", type := (.object "jdk/internal/misc/Unsafe"), accessFlags := 24, slot := 0, constantValue := 0 }, { name := "BIG_ENDIAN", type := .boolean, accessFlags := 26, slot := 1, constantValue := 0 }, { name := "LOG2_ARRAY_BOOLEAN_INDEX_SCALE", type := .int, accessFlags := 25, slot := 2, constantValue := 0 }, { name := "LOG2_ARRAY_BYTE_INDEX_SCALE", type := .int, accessFlags := 25, slot := 3, constantValue := 0 }, { name := "LOG2_ARRAY_CHAR_INDEX_SCALE", type := .int, accessFlags := 25, slot := 4, constantValue := 0 }, { name := "LOG2_ARRAY_SHORT_INDEX_SCALE", type := .int, accessFlags := 25, slot := 5, constantValue := 0 }, { name := "LOG2_ARRAY_INT_INDEX_SCALE", type := .int, accessFlags := 25, slot := 6, constantValue := 0 }, { name := "LOG2_ARRAY_LONG_INDEX_SCALE", type := .int, accessFlags := 25, slot := 7, constantValue := 0 }, { name := "LOG2_ARRAY_FLOAT_INDEX_SCALE", type := .int, accessFlags := 25, slot := 8, constantValue := 0 }, { name := "LOG2_ARRAY_DOUBLE_INDEX_SCALE", type := .int, accessFlags := 25, slot := 9, constantValue := 0 }, { name := "LOG2_BYTE_BIT_SIZE", type := .int, accessFlags := 26, slot := 10, constantValue := 0 }, { name := "T_BOOLEAN", type := .int, accessFlags := 25, slot := 11, constantValue := 0 }, { name := "T_CHAR", type := .int, accessFlags := 25, slot := 12, constantValue := 0 }, { name := "T_FLOAT", type := .int, accessFlags := 25, slot := 13, constantValue := 0 }, { name := "T_DOUBLE", type := .int, accessFlags := 25, slot := 14, constantValue := 0 }, { name := "T_BYTE", type := .int, accessFlags := 25, slot := 15, constantValue := 0 }, { name := "T_SHORT", type := .int, accessFlags := 25, slot := 16, constantValue := 0 }, { name := "T_INT", type := .int, accessFlags := 25, slot := 17, constantValue := 0 }, { name := "T_LONG", type := .int, accessFlags := 25, slot := 18, constantValue := 0 }, { name := "JLA", type := (.object "jdk/internal/access/JavaLangAccess"), accessFlags := 26, slot := 19, constantValue := 0 }, { name := "SOFT_MAX_ARRAY_LENGTH", type := .int, accessFlags := 25, slot := 20, constantValue := 0 }]
  methods := #[k13m0]
  instanceTypes := #[]
  staticTypes := #[(.object "jdk/internal/misc/Unsafe"), .boolean, .int, .int, .int, .int, .int, .int, .int, .int, .int, .int, .int, .int, .int, .int, .int, .int, .int, (.object "jdk/internal/access/JavaLangAccess"), .int]
  resolved := Array.replicate 378 none
  statics := none }

def pool14 : Array CpInfo := pool [(1, u "java/lang/Cloneable"), (0, .class_ 1), (0, u "java/lang/Object"), (0, .class_ 3)] 3

/-- java/lang/Cloneable -/
def k14 : Class := { plain "java/lang/Cloneable" (some 0) with
  accessFlags := 1537
  interfaces := #[]
  cf := some (fileOf pool14 2 #[] #[] 1537 4 #[] #[])
  fields := #[]
  methods := #[]
  instanceTypes := #[]
  staticTypes := #[]
  resolved := Array.replicate 8 none
  statics := none }

/-- the primitive byte -/
def k15 : Class := { plain "byte" none with kind := .primitive 'B', accessFlags := 0x411 }
/-- [B -/
def k16 : Class := { plain "[B" (some 0) with kind := .array 15 .byte, interfaces := #[14, 2], accessFlags := 1041 }

/-- the primitive char -/
def k17 : Class := { plain "char" none with kind := .primitive 'C', accessFlags := 0x411 }
/-- [C -/
def k18 : Class := { plain "[C" (some 0) with kind := .array 17 .char, interfaces := #[14, 2], accessFlags := 1041 }

/-- the primitive int -/
def k19 : Class := { plain "int" none with kind := .primitive 'I', accessFlags := 0x411 }
/-- [I -/
def k20 : Class := { plain "[I" (some 0) with kind := .array 19 .int, interfaces := #[14, 2], accessFlags := 1041 }

def heap : Heap := #[{ cls := 7, slots := #[.long 0, .int 1, .null, .int 0, .null, .int 0, .int 0], vm := .statics 7 },
  { cls := 11, slots := #[.null, .null, .null], vm := .statics 11 }]
def classes : Array Class := #[k0, k1, k2, k3, k4, k5, k6, k7, k8, k9, k10, k11, k12, k13, k14, k15, k16, k17, k18, k19, k20]
def interned : List (Array UInt16 × Addr) := []
def slotsUsed : Nat := 10
def theMethod : MethodId := ⟨1, 2⟩
def args0 : Array Value := #[.int 5, .int 6]
def aboutOver (below : List Frame) : State where
  vm := { classes := classes, interned := interned.toArray }
  heap := heap
  slotsUsed := slotsUsed
  threads := #[{ frames := .invoking theMethod args0 :: below }]
def below0 : List Frame := [.native { method := ⟨0, 0⟩, args := #[] }]
def about1 : State := aboutOver below0
def p0 : Program := .bare "" "" ""
def e0 : Env := launch0.env 0 0 0
theorem w_frames : about1.frames = Frame.invoking theMethod args0 :: below0 := rfl
set_option maxRecDepth 65536 in
theorem w_args : argsFit about1.vm theMethod args0 = true := by decide +kernel
set_option maxRecDepth 65536 in
theorem w_heap : heapFits about1 = true := by decide +kernel
set_option maxRecDepth 65536 in
theorem w_runnable : about1.curStatus? = some .runnable := by decide +kernel
set_option maxRecDepth 65536 in
theorem w_alone : about1.alone = true := by decide +kernel
set_option maxRecDepth 65536 in
theorem w_named : about1.methodNamed? x = some theMethod := by decide +kernel
set_option maxRecDepth 65536 in
theorem w_hears : about1.hears theMethod below0 = true := by decide +kernel
set_option maxRecDepth 65536 in
theorem w_ripe : about1.ripe theMethod args0 below0 = true := by decide +kernel
theorem w_running : about1.status = .running := rfl
set_option maxRecDepth 65536 in
theorem w_room : about1.hasRoom e0.platform room_1 = true :=
  launch0.hasRoom_least _ room_1 (by decide +kernel) (by decide +kernel) (by decide +kernel) (by decide +kernel) (by decide +kernel) (by decide +kernel)
theorem allAtoms_all (ts : List Jvm.Cond) (a : Array Jvm.Value) (st : Jvm.State) : (allAtoms ts).before a st = ts.all (fun c => c.before a st) := by
  induction ts with
  | nil => rfl
  | cons c t ih =>
    show (Jvm.Cond.and c (allAtoms t)).before a st = _
    rw [Jvm.Cond.before_and, ih, List.all_cons]
def words1 : List Jvm.Cond := Jvm.Cond.code x code maxLocals ret :: tables_1
/-- a 'code' word, met by the world's own term for the bytes: nothing is compared byte by byte -/
theorem code_word {y : MethodName} {bytes : ByteArray} {mx : Nat} {rt : Option FieldType} {a : Array Value} {s : State} {m : MethodId} {meth : Method} {c : Code} (h1 : s.methodNamed? y = some m) (h2 : s.vm.method? m = some meth) (h3 : meth.code = some c) (h4 : c.code = bytes)
    (h5 : (c.maxLocals == mx && c.exceptionTable.isEmpty && decide (c.maxStack ≤ mostOperands) && decide (meth.sig.returnType = rt) && !meth.locks && decide (parseMethodDescriptor y.desc = some meth.sig)) = true) : (Jvm.Cond.code y bytes mx rt).before a s = true := by
  simp only [Bool.and_eq_true, beq_iff_eq, Bool.not_eq_true', decide_eq_true_eq] at h5
  obtain ⟨⟨⟨⟨⟨g1, g2⟩, g3⟩, g4⟩, g5⟩, g6⟩ := h5
  simp [Cond.before, Cond.holds, Cond.value, h1, h2, h3, h4, g1, g2, g3, g4, g5, g6]
def isCode : Jvm.Cond → Bool
  | .code _ _ _ _ => true
  | _ => false
theorem all_split {L : List Jvm.Cond} {P : Jvm.Cond → Bool} (h1 : L.all (fun c => isCode c || P c) = true) (h2 : ∀ c ∈ L.filter isCode, P c = true) : L.all P = true := by
  refine List.all_eq_true.mpr fun c hc => ?_
  have h := List.all_eq_true.mp h1 c hc
  rcases Bool.eq_false_or_eq_true (isCode c) with hi | hi
  · exact h2 c (List.mem_filter.mpr ⟨hc, hi⟩)
  · simpa [hi] using h
set_option maxRecDepth 65536 in
theorem w_c0 : (Jvm.Cond.code x code maxLocals ret).before args0 about1 = true := code_word (m := ⟨1, 2⟩) (meth := k1m2) (c := k1c2) (by decide +kernel) rfl rfl rfl (by decide +kernel)
set_option maxRecDepth 65536 in
theorem w_c1 : (Jvm.Cond.code ({ cls := "com/example/tariff/tariff/core/decimal/PlainDecimalIntegerDigitsPinLaw", name := "digit", desc := "(II)C" } : Jvm.MethodName) method_2_code (3 : Nat) (Option.some Jvm.ClassFile.FieldType.char)).before args0 about1 = true := code_word (m := ⟨1, 1⟩) (meth := k1m1) (c := k1c1) (by decide +kernel) rfl rfl rfl (by decide +kernel)
set_option maxRecDepth 65536 in
theorem w_c2 : (Jvm.Cond.code ({ cls := "java/lang/String", name := "valueOf", desc := "(C)Ljava/lang/String;" } : Jvm.MethodName) jdk_42_method_139_code (1 : Nat) (Option.some (Jvm.ClassFile.FieldType.object "java/lang/String"))).before args0 about1 = true := code_word (m := ⟨7, 6⟩) (meth := k7m6) (c := k7c6) (by decide +kernel) rfl rfl rfl (by decide +kernel)
set_option maxRecDepth 65536 in
theorem w_c3 : (Jvm.Cond.code ({ cls := "java/lang/StringLatin1", name := "canEncode", desc := "(C)Z" } : Jvm.MethodName) jdk_43_method_3_code (1 : Nat) (Option.some Jvm.ClassFile.FieldType.boolean)).before args0 about1 = true := code_word (m := ⟨8, 2⟩) (meth := k8m2) (c := k8c2) (by decide +kernel) rfl rfl rfl (by decide +kernel)
set_option maxRecDepth 65536 in
theorem w_c4 : (Jvm.Cond.code ({ cls := "java/lang/StringLatin1", name := "toBytes", desc := "(C)[B" } : Jvm.MethodName) jdk_43_method_46_code (1 : Nat) (Option.some (Jvm.ClassFile.FieldType.array Jvm.ClassFile.FieldType.byte))).before args0 about1 = true := code_word (m := ⟨8, 6⟩) (meth := k8m6) (c := k8c6) (by decide +kernel) rfl rfl rfl (by decide +kernel)
set_option maxRecDepth 65536 in
theorem w_c5 : (Jvm.Cond.code ({ cls := "java/lang/String", name := "<init>", desc := "([BB)V" } : Jvm.MethodName) jdk_42_method_151_code (3 : Nat) (Option.none : Option Jvm.ClassFile.FieldType)).before args0 about1 = true := code_word (m := ⟨7, 8⟩) (meth := k7m8) (c := k7c8) (by decide +kernel) rfl rfl rfl (by decide +kernel)
set_option maxRecDepth 65536 in
theorem w_c6 : (Jvm.Cond.code ({ cls := "java/lang/Object", name := "<init>", desc := "()V" } : Jvm.MethodName) object_method_1_code (1 : Nat) (Option.none : Option Jvm.ClassFile.FieldType)).before args0 about1 = true := code_word (m := ⟨0, 0⟩) (meth := k0m0) (c := k0c0) (by decide +kernel) rfl rfl rfl (by decide +kernel)
set_option maxRecDepth 65536 in
theorem w_c7 : (Jvm.Cond.code ({ cls := "com/example/tariff/tariff/core/decimal/PlainDecimal", name := "integerDigits", desc := "(Ljava/lang/String;)I" } : Jvm.MethodName) prog_15_method_3_code (3 : Nat) (Option.some Jvm.ClassFile.FieldType.int)).before args0 about1 = true := code_word (m := ⟨9, 1⟩) (meth := k9m1) (c := k9c1) (by decide +kernel) rfl rfl rfl (by decide +kernel)
set_option maxRecDepth 65536 in
theorem w_c8 : (Jvm.Cond.code ({ cls := "com/example/tariff/tariff/core/decimal/PlainDecimal", name := "pointIndex", desc := "(Ljava/lang/String;)I" } : Jvm.MethodName) prog_15_method_9_code (2 : Nat) (Option.some Jvm.ClassFile.FieldType.int)).before args0 about1 = true := code_word (m := ⟨9, 2⟩) (meth := k9m2) (c := k9c2) (by decide +kernel) rfl rfl rfl (by decide +kernel)
set_option maxRecDepth 65536 in
theorem w_c9 : (Jvm.Cond.code ({ cls := "java/lang/String", name := "indexOf", desc := "(I)I" } : Jvm.MethodName) jdk_42_method_79_code (2 : Nat) (Option.some Jvm.ClassFile.FieldType.int)).before args0 about1 = true := code_word (m := ⟨7, 4⟩) (meth := k7m4) (c := k7c4) (by decide +kernel) rfl rfl rfl (by decide +kernel)
set_option maxRecDepth 65536 in
theorem w_c10 : (Jvm.Cond.code ({ cls := "java/lang/String", name := "indexOf", desc := "(II)I" } : Jvm.MethodName) jdk_42_method_80_code (3 : Nat) (Option.some Jvm.ClassFile.FieldType.int)).before args0 about1 = true := code_word (m := ⟨7, 5⟩) (meth := k7m5) (c := k7c5) (by decide +kernel) rfl rfl rfl (by decide +kernel)
set_option maxRecDepth 65536 in
theorem w_c11 : (Jvm.Cond.code ({ cls := "java/lang/String", name := "isLatin1", desc := "()Z" } : Jvm.MethodName) jdk_42_method_154_code (1 : Nat) (Option.some Jvm.ClassFile.FieldType.boolean)).before args0 about1 = true := code_word (m := ⟨7, 10⟩) (meth := k7m10) (c := k7c10) (by decide +kernel) rfl rfl rfl (by decide +kernel)
set_option maxRecDepth 65536 in
theorem w_c12 : (Jvm.Cond.code ({ cls := "java/lang/String", name := "length", desc := "()I" } : Jvm.MethodName) jdk_42_method_54_code (1 : Nat) (Option.some Jvm.ClassFile.FieldType.int)).before args0 about1 = true := code_word (m := ⟨7, 2⟩) (meth := k7m2) (c := k7c2) (by decide +kernel) rfl rfl rfl (by decide +kernel)
set_option maxRecDepth 65536 in
theorem w_c13 : (Jvm.Cond.code ({ cls := "java/lang/String", name := "coder", desc := "()B" } : Jvm.MethodName) jdk_42_method_152_code (1 : Nat) (Option.some Jvm.ClassFile.FieldType.byte)).before args0 about1 = true := code_word (m := ⟨7, 9⟩) (meth := k7m9) (c := k7c9) (by decide +kernel) rfl rfl rfl (by decide +kernel)
set_option maxRecDepth 65536 in
theorem w_c14 : (Jvm.Cond.code ({ cls := "java/lang/StringLatin1", name := "indexOf", desc := "([BIII)I" } : Jvm.MethodName) jdk_43_method_22_code (4 : Nat) (Option.some Jvm.ClassFile.FieldType.int)).before args0 about1 = true := code_word (m := ⟨8, 4⟩) (meth := k8m4) (c := k8c4) (by decide +kernel) rfl rfl rfl (by decide +kernel)
set_option maxRecDepth 65536 in
theorem w_c15 : (Jvm.Cond.code ({ cls := "java/lang/StringLatin1", name := "canEncode", desc := "(I)Z" } : Jvm.MethodName) jdk_43_method_4_code (1 : Nat) (Option.some Jvm.ClassFile.FieldType.boolean)).before args0 about1 = true := code_word (m := ⟨8, 3⟩) (meth := k8m3) (c := k8c3) (by decide +kernel) rfl rfl rfl (by decide +kernel)
set_option maxRecDepth 65536 in
theorem w_c16 : (Jvm.Cond.code ({ cls := "java/lang/Math", name := "max", desc := "(II)I" } : Jvm.MethodName) jdk_29_method_65_code (2 : Nat) (Option.some Jvm.ClassFile.FieldType.int)).before args0 about1 = true := code_word (m := ⟨10, 1⟩) (meth := k10m1) (c := k10c1) (by decide +kernel) rfl rfl rfl (by decide +kernel)
set_option maxRecDepth 65536 in
theorem w_c17 : (Jvm.Cond.code ({ cls := "java/lang/Math", name := "min", desc := "(II)I" } : Jvm.MethodName) jdk_29_method_69_code (2 : Nat) (Option.some Jvm.ClassFile.FieldType.int)).before args0 about1 = true := code_word (m := ⟨10, 2⟩) (meth := k10m2) (c := k10c2) (by decide +kernel) rfl rfl rfl (by decide +kernel)
set_option maxRecDepth 65536 in
theorem w_c18 : (Jvm.Cond.code ({ cls := "java/lang/StringLatin1", name := "indexOfChar", desc := "([BIII)I" } : Jvm.MethodName) jdk_43_method_23_code (6 : Nat) (Option.some Jvm.ClassFile.FieldType.int)).before args0 about1 = true := code_word (m := ⟨8, 5⟩) (meth := k8m5) (c := k8c5) (by decide +kernel) rfl rfl rfl (by decide +kernel)
set_option maxRecDepth 65536 in
theorem w_c19 : (Jvm.Cond.code ({ cls := "java/lang/String", name := "charAt", desc := "(I)C" } : Jvm.MethodName) jdk_42_method_56_code (2 : Nat) (Option.some Jvm.ClassFile.FieldType.char)).before args0 about1 = true := code_word (m := ⟨7, 3⟩) (meth := k7m3) (c := k7c3) (by decide +kernel) rfl rfl rfl (by decide +kernel)
set_option maxRecDepth 65536 in
theorem w_c20 : (Jvm.Cond.code ({ cls := "java/lang/StringLatin1", name := "charAt", desc := "([BI)C" } : Jvm.MethodName) jdk_43_method_2_code (2 : Nat) (Option.some Jvm.ClassFile.FieldType.char)).before args0 about1 = true := code_word (m := ⟨8, 1⟩) (meth := k8m1) (c := k8c1) (by decide +kernel) rfl rfl rfl (by decide +kernel)
set_option maxRecDepth 65536 in
theorem w_c21 : (Jvm.Cond.code ({ cls := "java/lang/String", name := "checkIndex", desc := "(II)V" } : Jvm.MethodName) jdk_42_method_155_code (2 : Nat) (Option.none : Option Jvm.ClassFile.FieldType)).before args0 about1 = true := code_word (m := ⟨7, 11⟩) (meth := k7m11) (c := k7c11) (by decide +kernel) rfl rfl rfl (by decide +kernel)
set_option maxRecDepth 65536 in
theorem w_c22 : (Jvm.Cond.code ({ cls := "jdk/internal/util/Preconditions", name := "checkIndex", desc := "(IILjava/util/function/BiFunction;)I" } : Jvm.MethodName) jdk_41_method_11_code (3 : Nat) (Option.some Jvm.ClassFile.FieldType.int)).before args0 about1 = true := code_word (m := ⟨11, 1⟩) (meth := k11m1) (c := k11c1) (by decide +kernel) rfl rfl rfl (by decide +kernel)
set_option maxRecDepth 65536 in
theorem w_c23 : (Jvm.Cond.code ({ cls := "java/lang/String", name := "<init>", desc := "([C)V" } : Jvm.MethodName) jdk_42_method_3_code (2 : Nat) (Option.none : Option Jvm.ClassFile.FieldType)).before args0 about1 = true := code_word (m := ⟨7, 1⟩) (meth := k7m1) (c := k7c1) (by decide +kernel) rfl rfl rfl (by decide +kernel)
set_option maxRecDepth 65536 in
theorem w_c24 : (Jvm.Cond.code ({ cls := "java/lang/String", name := "<init>", desc := "([CIILjava/lang/Void;)V" } : Jvm.MethodName) jdk_42_method_149_code (6 : Nat) (Option.none : Option Jvm.ClassFile.FieldType)).before args0 about1 = true := code_word (m := ⟨7, 7⟩) (meth := k7m7) (c := k7c7) (by decide +kernel) rfl rfl rfl (by decide +kernel)
set_option maxRecDepth 65536 in
theorem w_c25 : (Jvm.Cond.code ({ cls := "java/lang/StringUTF16", name := "compress", desc := "([CII)[B" } : Jvm.MethodName) jdk_52_method_16_code (6 : Nat) (Option.some (Jvm.ClassFile.FieldType.array Jvm.ClassFile.FieldType.byte))).before args0 about1 = true := code_word (m := ⟨12, 2⟩) (meth := k12m2) (c := k12c2) (by decide +kernel) rfl rfl rfl (by decide +kernel)
set_option maxRecDepth 65536 in
theorem w_c26 : (Jvm.Cond.code ({ cls := "java/lang/StringUTF16", name := "compress", desc := "([CI[BII)I" } : Jvm.MethodName) jdk_52_method_21_code (7 : Nat) (Option.some Jvm.ClassFile.FieldType.int)).before args0 about1 = true := code_word (m := ⟨12, 3⟩) (meth := k12m3) (c := k12c3) (by decide +kernel) rfl rfl rfl (by decide +kernel)
set_option maxRecDepth 65536 in
theorem w_c27 : (Jvm.Cond.code ({ cls := "java/lang/StringUTF16", name := "coderFromArrayLen", desc := "([BI)B" } : Jvm.MethodName) jdk_52_method_15_code (2 : Nat) (Option.some Jvm.ClassFile.FieldType.byte)).before args0 about1 = true := code_word (m := ⟨12, 1⟩) (meth := k12m1) (c := k12c1) (by decide +kernel) rfl rfl rfl (by decide +kernel)
def codes1 : List Jvm.Cond := [Jvm.Cond.code x code maxLocals ret, Jvm.Cond.code ({ cls := "com/example/tariff/tariff/core/decimal/PlainDecimalIntegerDigitsPinLaw", name := "digit", desc := "(II)C" } : Jvm.MethodName) method_2_code (3 : Nat) (Option.some Jvm.ClassFile.FieldType.char), Jvm.Cond.code ({ cls := "java/lang/String", name := "valueOf", desc := "(C)Ljava/lang/String;" } : Jvm.MethodName) jdk_42_method_139_code (1 : Nat) (Option.some (Jvm.ClassFile.FieldType.object "java/lang/String")), Jvm.Cond.code ({ cls := "java/lang/StringLatin1", name := "canEncode", desc := "(C)Z" } : Jvm.MethodName) jdk_43_method_3_code (1 : Nat) (Option.some Jvm.ClassFile.FieldType.boolean), Jvm.Cond.code ({ cls := "java/lang/StringLatin1", name := "toBytes", desc := "(C)[B" } : Jvm.MethodName) jdk_43_method_46_code (1 : Nat) (Option.some (Jvm.ClassFile.FieldType.array Jvm.ClassFile.FieldType.byte)), Jvm.Cond.code ({ cls := "java/lang/String", name := "<init>", desc := "([BB)V" } : Jvm.MethodName) jdk_42_method_151_code (3 : Nat) (Option.none : Option Jvm.ClassFile.FieldType), Jvm.Cond.code ({ cls := "java/lang/Object", name := "<init>", desc := "()V" } : Jvm.MethodName) object_method_1_code (1 : Nat) (Option.none : Option Jvm.ClassFile.FieldType), Jvm.Cond.code ({ cls := "com/example/tariff/tariff/core/decimal/PlainDecimal", name := "integerDigits", desc := "(Ljava/lang/String;)I" } : Jvm.MethodName) prog_15_method_3_code (3 : Nat) (Option.some Jvm.ClassFile.FieldType.int), Jvm.Cond.code ({ cls := "com/example/tariff/tariff/core/decimal/PlainDecimal", name := "pointIndex", desc := "(Ljava/lang/String;)I" } : Jvm.MethodName) prog_15_method_9_code (2 : Nat) (Option.some Jvm.ClassFile.FieldType.int), Jvm.Cond.code ({ cls := "java/lang/String", name := "indexOf", desc := "(I)I" } : Jvm.MethodName) jdk_42_method_79_code (2 : Nat) (Option.some Jvm.ClassFile.FieldType.int), Jvm.Cond.code ({ cls := "java/lang/String", name := "indexOf", desc := "(II)I" } : Jvm.MethodName) jdk_42_method_80_code (3 : Nat) (Option.some Jvm.ClassFile.FieldType.int), Jvm.Cond.code ({ cls := "java/lang/String", name := "isLatin1", desc := "()Z" } : Jvm.MethodName) jdk_42_method_154_code (1 : Nat) (Option.some Jvm.ClassFile.FieldType.boolean), Jvm.Cond.code ({ cls := "java/lang/String", name := "length", desc := "()I" } : Jvm.MethodName) jdk_42_method_54_code (1 : Nat) (Option.some Jvm.ClassFile.FieldType.int), Jvm.Cond.code ({ cls := "java/lang/String", name := "coder", desc := "()B" } : Jvm.MethodName) jdk_42_method_152_code (1 : Nat) (Option.some Jvm.ClassFile.FieldType.byte), Jvm.Cond.code ({ cls := "java/lang/StringLatin1", name := "indexOf", desc := "([BIII)I" } : Jvm.MethodName) jdk_43_method_22_code (4 : Nat) (Option.some Jvm.ClassFile.FieldType.int), Jvm.Cond.code ({ cls := "java/lang/StringLatin1", name := "canEncode", desc := "(I)Z" } : Jvm.MethodName) jdk_43_method_4_code (1 : Nat) (Option.some Jvm.ClassFile.FieldType.boolean), Jvm.Cond.code ({ cls := "java/lang/Math", name := "max", desc := "(II)I" } : Jvm.MethodName) jdk_29_method_65_code (2 : Nat) (Option.some Jvm.ClassFile.FieldType.int), Jvm.Cond.code ({ cls := "java/lang/Math", name := "min", desc := "(II)I" } : Jvm.MethodName) jdk_29_method_69_code (2 : Nat) (Option.some Jvm.ClassFile.FieldType.int), Jvm.Cond.code ({ cls := "java/lang/StringLatin1", name := "indexOfChar", desc := "([BIII)I" } : Jvm.MethodName) jdk_43_method_23_code (6 : Nat) (Option.some Jvm.ClassFile.FieldType.int), Jvm.Cond.code ({ cls := "java/lang/String", name := "charAt", desc := "(I)C" } : Jvm.MethodName) jdk_42_method_56_code (2 : Nat) (Option.some Jvm.ClassFile.FieldType.char), Jvm.Cond.code ({ cls := "java/lang/StringLatin1", name := "charAt", desc := "([BI)C" } : Jvm.MethodName) jdk_43_method_2_code (2 : Nat) (Option.some Jvm.ClassFile.FieldType.char), Jvm.Cond.code ({ cls := "java/lang/String", name := "checkIndex", desc := "(II)V" } : Jvm.MethodName) jdk_42_method_155_code (2 : Nat) (Option.none : Option Jvm.ClassFile.FieldType), Jvm.Cond.code ({ cls := "jdk/internal/util/Preconditions", name := "checkIndex", desc := "(IILjava/util/function/BiFunction;)I" } : Jvm.MethodName) jdk_41_method_11_code (3 : Nat) (Option.some Jvm.ClassFile.FieldType.int), Jvm.Cond.code ({ cls := "java/lang/String", name := "<init>", desc := "([C)V" } : Jvm.MethodName) jdk_42_method_3_code (2 : Nat) (Option.none : Option Jvm.ClassFile.FieldType), Jvm.Cond.code ({ cls := "java/lang/String", name := "<init>", desc := "([CIILjava/lang/Void;)V" } : Jvm.MethodName) jdk_42_method_149_code (6 : Nat) (Option.none : Option Jvm.ClassFile.FieldType), Jvm.Cond.code ({ cls := "java/lang/StringUTF16", name := "compress", desc := "([CII)[B" } : Jvm.MethodName) jdk_52_method_16_code (6 : Nat) (Option.some (Jvm.ClassFile.FieldType.array Jvm.ClassFile.FieldType.byte)), Jvm.Cond.code ({ cls := "java/lang/StringUTF16", name := "compress", desc := "([CI[BII)I" } : Jvm.MethodName) jdk_52_method_21_code (7 : Nat) (Option.some Jvm.ClassFile.FieldType.int), Jvm.Cond.code ({ cls := "java/lang/StringUTF16", name := "coderFromArrayLen", desc := "([BI)B" } : Jvm.MethodName) jdk_52_method_15_code (2 : Nat) (Option.some Jvm.ClassFile.FieldType.byte)]
set_option maxRecDepth 65536 in
theorem codes_eq : words1.filter isCode = codes1 := rfl
theorem w_codes : ∀ c ∈ words1.filter isCode, c.before args0 about1 = true := by
  rw [codes_eq]
  intro c hc
  simp only [codes1, List.mem_cons, List.not_mem_nil, or_false] at hc
  rcases hc with rfl | rfl | rfl | rfl | rfl | rfl | rfl | rfl | rfl | rfl | rfl | rfl | rfl | rfl | rfl | rfl | rfl | rfl | rfl | rfl | rfl | rfl | rfl | rfl | rfl | rfl | rfl | rfl
  · exact w_c0
  · exact w_c1
  · exact w_c2
  · exact w_c3
  · exact w_c4
  · exact w_c5
  · exact w_c6
  · exact w_c7
  · exact w_c8
  · exact w_c9
  · exact w_c10
  · exact w_c11
  · exact w_c12
  · exact w_c13
  · exact w_c14
  · exact w_c15
  · exact w_c16
  · exact w_c17
  · exact w_c18
  · exact w_c19
  · exact w_c20
  · exact w_c21
  · exact w_c22
  · exact w_c23
  · exact w_c24
  · exact w_c25
  · exact w_c26
  · exact w_c27
set_option maxRecDepth 65536 in
theorem w_t1 : (words1.take 24).all (fun c => isCode c || c.before args0 about1) = true := by decide +kernel
set_option maxRecDepth 65536 in
theorem w_t2 : ((words1.drop 24).take 24).all (fun c => isCode c || c.before args0 about1) = true := by decide +kernel
set_option maxRecDepth 65536 in
theorem w_t3 : (((words1.drop 24).drop 24).take 24).all (fun c => isCode c || c.before args0 about1) = true := by decide +kernel
set_option maxRecDepth 65536 in
theorem w_t4 : ((((words1.drop 24).drop 24).drop 24).take 24).all (fun c => isCode c || c.before args0 about1) = true := by decide +kernel
set_option maxRecDepth 65536 in
theorem w_t5 : ((((words1.drop 24).drop 24).drop 24).drop 24).all (fun c => isCode c || c.before args0 about1) = true := by decide +kernel
theorem w_tables : (allAtoms (Jvm.Cond.code x code maxLocals ret :: tables_1)).before args0 about1 = true := by
  rw [allAtoms_all]
  show words1.all (fun c => c.before args0 about1) = true
  refine all_split ?_ w_codes
  rw [← List.take_append_drop 24 words1, List.all_append, w_t1, ← List.take_append_drop 24 (words1.drop 24), List.all_append, w_t2, ← List.take_append_drop 24 ((words1.drop 24).drop 24), List.all_append, w_t3, ← List.take_append_drop 24 (((words1.drop 24).drop 24).drop 24), List.all_append, w_t4, w_t5]
  rfl
set_option maxRecDepth 65536 in
theorem w_rest : rest_1_c.before args0 about1 = true := by decide +kernel
set_option maxRecDepth 65536 in
theorem w_case : (Jvm.Cond.and given_1 narrow_1).before args0 about1 = true := by decide +kernel
theorem w_applies : (headSpec (Jvm.Cond.code x code maxLocals ret :: tables_1) room_1).applies x e0.platform about1 = true :=
  (Spec.applies_iff w_frames).mpr ⟨w_running, w_runnable, w_alone, w_named, w_hears, w_ripe, w_room, w_tables⟩
theorem atStart : AtStart classFile x code maxLocals ret World_1 tables_1 room_1 Calls_1 rest_1 Pre_1 launch0 p0 e0 about1 theMethod args0 below0 :=
  ⟨lists_1, trivial, launch0.admits_env _ _ _, launch0.least_env, fairChoices_fair.cas, fairChoices_fair.clock, w_frames, w_args, w_heap, w_applies, trivial, w_rest, w_case⟩
end start1
theorem witness_1 : WitnessClaimed_1 := ⟨start1.p0, start1.e0, start1.about1, start1.theMethod, start1.args0, start1.below0, start1.atStart⟩
end Jvm.Pilot.@@N@@
