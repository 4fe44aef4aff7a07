import JvmDerived
import JvmDerived.Pilot.@@N@@Statement
import JvmDerived.Pilot.@@N@@Code
set_option linter.unusedVariables false
set_option linter.unusedSimpArgs false
/- laws to paste: Road.backV, Road.lenW, Road.chN (cut by pick.py; bodies as the Statement names them) -/
namespace Jvm.Pilot.@@N@@
namespace StrChars
open Jvm Sem ClassFile Op Lib Jvm.Stand Jvm.Free.XT Jvm.Free.ALB Jvm.Free.JM Jvm.Free
open Jvm.Lib.Cold (StaticIs)
/-- a char array whose places are chars -/
def Ch (a : Addr) (A : Cell) (U : State) : Prop := Arr .char a A U ∧ Typed .char A
theorem Ch.mv {a : Addr} {A : Cell} {U U' : State} (h : Ch a A U) (hal : U.vm.Alike U'.vm) (hh : U'.heap = U.heap) : Ch a A U' := ⟨h.1.mv hal hh, h.2⟩
theorem Ch.keep {a : Addr} {A : Cell} {U U' : State} (h : Ch a A U) (hal : U.vm.Alike U'.vm) (hk : U'.heap[a]? = some A) : Ch a A U' := ⟨h.1.keep hal hk, h.2⟩
/-- what place i of a char[]'s cell holds -/
def cv (A : Cell) (i : Nat) : Int32 := match A.slots[i]? with | some (.int x) => x | _ => 0
theorem Ch.get {a : Addr} {A : Cell} {U : State} (h : Ch a A U) {i : Nat} (hi : i < A.slots.size) : A.slots[i]? = some (.int (cv A i)) := by
  have e := Array.getElem?_eq_getElem hi
  have f := h.2 i _ e
  unfold cv; rw [e]
  generalize A.slots[i] = v at f
  cases v <;> simp [fits] at f ⊢
/-- the byte that i2b leaves of a char -/
def lo8 (x : Int32) : Int32 := x.toInt8.toInt32
theorem fits_lo8 (y : Int32) : fits .byte (.int (lo8 y)) = true := by
  have h1 := y.toInt8.le_toInt
  have h2 := y.toInt8.toInt_lt
  simp only [lo8, fits, Bool.and_eq_true, decide_eq_true_eq, Int32.le_iff_toInt_le, Int8.toInt_toInt32, show (-128 : Int32).toInt = -128 from by decide, show (127 : Int32).toInt = 127 from by decide]
  omega
/-- A' is A but that each place j of lo .. hi - 1 holds f j -/
def Laid (A A' : Cell) (lo hi : Nat) (f : Nat → Value) : Prop := A'.cls = A.cls ∧ A'.vm = A.vm ∧ A'.slots.size = A.slots.size ∧ ∀ i, A'.slots[i]? = if lo ≤ i ∧ i < hi then some (f i) else A.slots[i]?
theorem Laid.zero (A : Cell) (lo : Nat) (f : Nat → Value) : Laid A A lo (lo + 0) f := ⟨rfl, rfl, rfl, fun i => by rw [if_neg (by omega)]⟩
theorem Laid.step {A Ak : Cell} {lo k : Nat} {f : Nat → Value} {v : Value} (h : Laid A Ak lo k f) (hlo : lo ≤ k) (hk : k < Ak.slots.size) (hv : v = f k) : Laid A (Ak.setSlot k v) lo (k + 1) f := by
  refine ⟨h.1, h.2.1, by simpa [Cell.setSlot] using h.2.2.1, fun i => ?_⟩
  by_cases e : k = i
  · subst e; rw [Cell.slots_setSlot_self v hk, if_pos (by omega), hv]
  · rw [Cell.slots_setSlot_ne v e, h.2.2.2 i]
    by_cases q : lo ≤ i ∧ i < k
    · rw [if_pos q, if_pos (by omega)]
    · rw [if_neg q, if_neg (by omega)]
def U16 : String := "java/lang/StringUTF16"
namespace Cmp5
def yN : MethodName := ⟨"java/lang/StringUTF16", "compress", "([CI[BII)I"⟩
abbrev yB : ByteArray := jdk_52_method_21_code
theorem d0 : decode yB 0 = .ok (.iconst 0, 1) := by decide +kernel
theorem d1 : decode yB 1 = .ok (.istore 5, 2) := by decide +kernel
theorem d3 : decode yB 3 = .ok (.iload 5, 2) := by decide +kernel
theorem d5 : decode yB 5 = .ok (.iload 4, 2) := by decide +kernel
theorem d7 : decode yB 7 = .ok (.if_icmp (.ge) 37, 3) := by decide +kernel
theorem d10 : decode yB 10 = .ok (.aload_n 0, 1) := by decide +kernel
theorem d11 : decode yB 11 = .ok (.iload_n 1, 1) := by decide +kernel
theorem d12 : decode yB 12 = .ok (.caload, 1) := by decide +kernel
theorem d13 : decode yB 13 = .ok (.istore 6, 2) := by decide +kernel
theorem d15 : decode yB 15 = .ok (.iload 6, 2) := by decide +kernel
theorem d17 : decode yB 17 = .ok (.sipush 255, 3) := by decide +kernel
theorem d20 : decode yB 20 = .ok (.if_icmp (.le) 6, 3) := by decide +kernel
theorem d26 : decode yB 26 = .ok (.aload_n 2, 1) := by decide +kernel
theorem d27 : decode yB 27 = .ok (.iload_n 3, 1) := by decide +kernel
theorem d28 : decode yB 28 = .ok (.iload 6, 2) := by decide +kernel
theorem d30 : decode yB 30 = .ok (.i2b, 1) := by decide +kernel
theorem d31 : decode yB 31 = .ok (.bastore, 1) := by decide +kernel
theorem d32 : decode yB 32 = .ok (.iinc 1 1, 3) := by decide +kernel
theorem d35 : decode yB 35 = .ok (.iinc 3 1, 3) := by decide +kernel
theorem d38 : decode yB 38 = .ok (.iinc 5 1, 3) := by decide +kernel
theorem d41 : decode yB 41 = .ok (.goto (-38), 3) := by decide +kernel
theorem d44 : decode yB 44 = .ok (.iload 4, 2) := by decide +kernel
theorem d46 : decode yB 46 = .ok (.ireturn, 1) := by decide +kernel
def site : List Cond := []
def tab : Cond := tabOf yN yB 7 (some .int) site
def P (b : Addr) (A : Cell) (d : Addr) (B : Cell) (o q len : Nat) (args : Array Value) (s : State) : Prop := args = #[.ref b, .int (Int32.ofNat o), .ref d, .int (Int32.ofNat q), .int (Int32.ofNat len)] ∧ Ch b A s ∧ Arr .byte d B s ∧ b ≠ d ∧ o + len ≤ A.slots.size ∧ q + len ≤ B.slots.size ∧ ∀ i, i < len → ¬ 255 < cv A (o + i)
def E (b : Addr) (A : Cell) (d : Addr) (B : Cell) (o q len : Nat) (r : Option Value) (s u : State) : Prop := r = some (.int (Int32.ofNat len)) ∧ ∃ B', Put d B' s u ∧ Laid B B' q (q + len) (fun j => Value.int (lo8 (cv A (o + (j - q)))))
/-- no char of the range above 255: len; the places written hold each char's low byte -/
theorem law (l : Launch) (b : Addr) (A : Cell) (d : Addr) (B : Cell) (o q len : Nat) : Law l yN 5 5 0 0 yB 7 (some .int) site (P b A d B o q len) (E b A d B o q len) (copyLocs d q len) 0 0 := by
  refine Law.of_walk (plainFor_of_name (by decide +kernel)) (by decide +kernel) (by decide +kernel) (by decide) (fun _ _ h => by rw [h.1]; rfl) (fun _ U U' hal hh h => ⟨h.1, h.2.1.mv hal hh, h.2.2.1.mv hal hh, h.2.2.2⟩) (fun r U U' V V' h1 hal h2 h => ⟨h.1, h.2.elim fun B' q => ⟨B', q.1.mv h1 h2, q.2⟩⟩) ?_
  intro p e s m args below meth c s₁ X0 hexec hbytes hml hret hlk hnm hown hh0 W hP
  obtain ⟨rfl, hA, hB, hne, l1, l2, hp⟩ := hP
  have c1 : Steps p.tables e below (s₁.setTop (entryFrame m #[.ref b, .int (Int32.ofNat o), .ref d, .int (Int32.ofNat q), .int (Int32.ofNat len)] 7)) (s₁.setTop (mkF m 0 #[.val (.ref b), .val (.int (Int32.ofNat o)), .val (.ref d), .val (.int (Int32.ofNat q)), .val (.int (Int32.ofNat len)), .unset, .unset] [])) := entry rfl
  have hA0 := hA.1.mv X0.warmed.alike hh0
  have hB0 := hB.mv X0.warmed.alike hh0
  have a31 := hA.1.2.2.2
  have c2 : Steps p.tables e below (s₁.setTop (entryFrame m #[.ref b, .int (Int32.ofNat o), .ref d, .int (Int32.ofNat q), .int (Int32.ofNat len)] 7)) (s₁.setTop (mkF m 3 #[.val (.ref b), .val (.int (Int32.ofNat o)), .val (.ref d), .val (.int (Int32.ofNat q)), .val (.int (Int32.ofNat len)), .val (.int 0), .unset] [])) := c1.trans (by
    refine iconstV X0.here hexec rfl 0 (hb hbytes d0) (by decide) ?_
    refine XS.istore X0.here hexec rfl (hb hbytes d1) rfl rfl ?_
    exact Steps.refl _)
  have loop : ∀ (r i : Nat), i + r = len → ∀ (z : Slot), (z = .unset ∨ ∃ w, z = .val w ∧ w.category = 1) → ∀ (Tl : State) (Bk : Cell), Stand p l e { frames := 0, locals := 0, cells := 0, slots := 0 } s m #[.ref b, .int (Int32.ofNat o), .ref d, .int (Int32.ofNat q), .int (Int32.ofNat len)] below meth c Tl ([] ++ copyLocs d q i) 0 0 → Put d Bk s₁ Tl → Laid B Bk q (q + i) (fun j => Value.int (lo8 (cv A (o + (j - q))))) →
      Steps p.tables e below (s₁.setTop (entryFrame m #[.ref b, .int (Int32.ofNat o), .ref d, .int (Int32.ofNat q), .int (Int32.ofNat len)] 7)) (Tl.setTop (mkF m 3 #[.val (.ref b), .val (.int (Int32.ofNat (o + i))), .val (.ref d), .val (.int (Int32.ofNat (q + i))), .val (.int (Int32.ofNat len)), .val (.int (Int32.ofNat i)), z] [])) → ∃ (T' : State) (B' : Cell) (z' : Slot), Stand p l e { frames := 0, locals := 0, cells := 0, slots := 0 } s m #[.ref b, .int (Int32.ofNat o), .ref d, .int (Int32.ofNat q), .int (Int32.ofNat len)] below meth c T' ([] ++ copyLocs d q len) 0 0 ∧ Put d B' s₁ T' ∧ Laid B B' q (q + len) (fun j => Value.int (lo8 (cv A (o + (j - q))))) ∧
      Steps p.tables e below (s₁.setTop (entryFrame m #[.ref b, .int (Int32.ofNat o), .ref d, .int (Int32.ofNat q), .int (Int32.ofNat len)] 7)) (T'.setTop (mkF m 3 #[.val (.ref b), .val (.int (Int32.ofNat (o + len))), .val (.ref d), .val (.int (Int32.ofNat (q + len))), .val (.int (Int32.ofNat len)), .val (.int (Int32.ofNat len)), z'] [])) := by
    intro r
    induction r with
    | zero =>
      intro i hi z hz Tl Bk Xl pl fl cl
      have hil : i = len := by omega
      rw [hil] at Xl fl cl
      exact ⟨Tl, Bk, z, Xl, pl, fl, cl⟩
    | succ r ih =>
      intro i hi z hz Tl Bk Xl pl fl cl
      have all := X0.warmed.alike.symm.trans Xl.warmed.alike
      have hAl := hA0.keep all (pl.other hne hA0.1)
      have hBk := hB0.like all pl.1 fl.1 fl.2.1 fl.2.2.1
      have hlt : q + i < Bk.slots.size := by rw [fl.2.2.1]; omega
      have c3 : Steps p.tables e below (s₁.setTop (entryFrame m #[.ref b, .int (Int32.ofNat o), .ref d, .int (Int32.ofNat q), .int (Int32.ofNat len)] 7)) (Tl.setTop (mkF m 12 #[.val (.ref b), .val (.int (Int32.ofNat (o + i))), .val (.ref d), .val (.int (Int32.ofNat (q + i))), .val (.int (Int32.ofNat len)), .val (.int (Int32.ofNat i)), z] [.int (Int32.ofNat (o + i)), .ref b])) := cl.trans (by
        refine XS.iload Xl.here hexec rfl (hb hbytes d3) rfl ?_
        refine XS.iload Xl.here hexec rfl (hb hbytes d5) rfl ?_
        refine XS.icmpNo Xl.here hexec rfl (hb hbytes d7) rfl (ii_ge_f (lt32 (by omega) (by omega))) ?_
        refine XS.aloadN Xl.here hexec rfl (hb hbytes d10) rfl rfl ?_
        refine XS.iloadN Xl.here hexec rfl (hb hbytes d11) rfl ?_
        exact Steps.refl _)
      have c4 : Steps p.tables e below (s₁.setTop (entryFrame m #[.ref b, .int (Int32.ofNat o), .ref d, .int (Int32.ofNat q), .int (Int32.ofNat len)] 7)) (Tl.setTop (mkF m 13 #[.val (.ref b), .val (.int (Int32.ofNat (o + i))), .val (.ref d), .val (.int (Int32.ofNat (q + i))), .val (.int (Int32.ofNat len)), .val (.int (Int32.ofNat i)), z] [.int (cv A (o + i))])) := c3.trans (by
        refine Xl.aget hexec hAl rfl (hA.get (i := o + i) (by omega)) rfl rfl (hb hbytes d12) ?_
        exact Steps.refl _)
      have c5 : Steps p.tables e below (s₁.setTop (entryFrame m #[.ref b, .int (Int32.ofNat o), .ref d, .int (Int32.ofNat q), .int (Int32.ofNat len)] 7)) (Tl.setTop (mkF m 15 #[.val (.ref b), .val (.int (Int32.ofNat (o + i))), .val (.ref d), .val (.int (Int32.ofNat (q + i))), .val (.int (Int32.ofNat len)), .val (.int (Int32.ofNat i)), .val (.int (cv A (o + i)))] [])) := c4.trans (by
        refine XS.istoreS Xl.here hexec rfl (hb hbytes d13) rfl rfl hz ?_
        exact Steps.refl _)
      have c6 : Steps p.tables e below (s₁.setTop (entryFrame m #[.ref b, .int (Int32.ofNat o), .ref d, .int (Int32.ofNat q), .int (Int32.ofNat len)] 7)) (Tl.setTop (mkF m 31 #[.val (.ref b), .val (.int (Int32.ofNat (o + i))), .val (.ref d), .val (.int (Int32.ofNat (q + i))), .val (.int (Int32.ofNat len)), .val (.int (Int32.ofNat i)), .val (.int (cv A (o + i)))] [.int (lo8 (cv A (o + i))), .int (Int32.ofNat (q + i)), .ref d])) := c5.trans (by
        refine XS.iload Xl.here hexec rfl (hb hbytes d15) rfl ?_
        refine sipushV Xl.here hexec rfl 255 (hb hbytes d17) (by decide) ?_
        refine XS.icmpYes Xl.here hexec rfl (pc0 := 20) rfl (hb hbytes d20) rfl (ii_le_t (hp i (by omega))) (by decide) rfl ?_
        refine XS.aloadN Xl.here hexec rfl (hb hbytes d26) rfl rfl ?_
        refine XS.iloadN Xl.here hexec rfl (hb hbytes d27) rfl ?_
        refine XS.iload Xl.here hexec rfl (hb hbytes d28) rfl ?_
        refine i2b Xl.here hexec rfl (hb hbytes d30) rfl ?_
        exact Steps.refl _)
      obtain ⟨T7, X7, p7, st7⟩ := Xl.aput hexec hBk rfl hlt rfl (fits_lo8 (cv A (o + i))) (g := (mkF m 31 #[.val (.ref b), .val (.int (Int32.ofNat (o + i))), .val (.ref d), .val (.int (Int32.ofNat (q + i))), .val (.int (Int32.ofNat len)), .val (.int (Int32.ofNat i)), .val (.int (cv A (o + i)))] [.int (lo8 (cv A (o + i))), .int (Int32.ofNat (q + i)), .ref d])) rfl (rest := []) rfl (hb hbytes d31)
      have c8 : Steps p.tables e below (s₁.setTop (entryFrame m #[.ref b, .int (Int32.ofNat o), .ref d, .int (Int32.ofNat q), .int (Int32.ofNat len)] 7)) (T7.setTop (mkF m 32 #[.val (.ref b), .val (.int (Int32.ofNat (o + i))), .val (.ref d), .val (.int (Int32.ofNat (q + i))), .val (.int (Int32.ofNat len)), .val (.int (Int32.ofNat i)), .val (.int (cv A (o + i)))] [])) := c6.trans (st7 _ (Steps.refl _))
      have c9 : Steps p.tables e below (s₁.setTop (entryFrame m #[.ref b, .int (Int32.ofNat o), .ref d, .int (Int32.ofNat q), .int (Int32.ofNat len)] 7)) (T7.setTop (mkF m 3 #[.val (.ref b), .val (.int (Int32.ofNat (o + i) + 1)), .val (.ref d), .val (.int (Int32.ofNat (q + i) + 1)), .val (.int (Int32.ofNat len)), .val (.int (Int32.ofNat i + 1)), .val (.int (cv A (o + i)))] [])) := c8.trans (by
        refine iincV X7.here hexec rfl 1 (hb hbytes d32) (by decide) rfl rfl ?_
        refine iincV X7.here hexec rfl 1 (hb hbytes d35) (by decide) rfl rfl ?_
        refine iincV X7.here hexec rfl 1 (hb hbytes d38) (by decide) rfl rfl ?_
        refine XS.goto X7.here hexec rfl (pc0 := 41) rfl (hb hbytes d41) (by decide) rfl ?_
        exact Steps.refl _)
      have c10 : Steps p.tables e below (s₁.setTop (entryFrame m #[.ref b, .int (Int32.ofNat o), .ref d, .int (Int32.ofNat q), .int (Int32.ofNat len)] 7)) (T7.setTop (mkF m 3 #[.val (.ref b), .val (.int (Int32.ofNat (o + (i + 1)))), .val (.ref d), .val (.int (Int32.ofNat (q + (i + 1)))), .val (.int (Int32.ofNat len)), .val (.int (Int32.ofNat (i + 1))), .val (.int (cv A (o + i)))] [])) := by
        have := c9
        rw [succ32, succ32, succ32] at this
        exact this
      exact ih (i + 1) (by omega) _ (Or.inr ⟨_, rfl, rfl⟩) T7 _ (by rw [copyLocs_step, ← List.append_assoc]; exact X7) (pl.trans p7) (fl.step (by omega) hlt (by simp)) c10
  obtain ⟨T9, B9, z9, X9, p9, f9, g9⟩ := loop len 0 (by omega) .unset (Or.inl rfl) s₁ B (by simpa [copyLocs] using X0) ⟨hB0.1, fun _ _ => rfl, rfl⟩ (Laid.zero _ _ _) c2
  have c11 : Steps p.tables e below (s₁.setTop (entryFrame m #[.ref b, .int (Int32.ofNat o), .ref d, .int (Int32.ofNat q), .int (Int32.ofNat len)] 7)) (T9.setTop (mkF m 46 #[.val (.ref b), .val (.int (Int32.ofNat (o + len))), .val (.ref d), .val (.int (Int32.ofNat (q + len))), .val (.int (Int32.ofNat len)), .val (.int (Int32.ofNat len)), z9] [.int (Int32.ofNat len)])) := g9.trans (by
    refine XS.iload X9.here hexec rfl (hb hbytes d3) rfl ?_
    refine XS.iload X9.here hexec rfl (hb hbytes d5) rfl ?_
    refine XS.icmpYes X9.here hexec rfl (pc0 := 7) rfl (hb hbytes d7) rfl (ii_ge_t (nlt32 (by omega) (Nat.le_refl _))) (by decide) rfl ?_
    refine XS.iload X9.here hexec rfl (hb hbytes d44) rfl ?_
    exact Steps.refl _)
  exact ⟨T9, some (.int (Int32.ofNat len)), _, _, _, X9, by simp, rfl, rfl, (fun h => by cases h), ⟨rfl, B9, p9.from hh0, f9⟩, fun fs hl => c11.trans (X9.ireturnOut hexec hret rfl (Or.inl rfl) (hb hbytes d46) hl)⟩
end Cmp5
namespace Cmp3
def yN : MethodName := ⟨"java/lang/StringUTF16", "compress", "([CII)[B"⟩
abbrev yB : ByteArray := jdk_52_method_16_code
theorem d0 : decode yB 0 = .ok (.iload_n 2, 1) := by decide +kernel
theorem d1 : decode yB 1 = .ok (.newarray .byte, 2) := by decide +kernel
theorem d3 : decode yB 3 = .ok (.astore_n 3, 1) := by decide +kernel
theorem d4 : decode yB 4 = .ok (.aload_n 0, 1) := by decide +kernel
theorem d5 : decode yB 5 = .ok (.iload_n 1, 1) := by decide +kernel
theorem d6 : decode yB 6 = .ok (.aload_n 3, 1) := by decide +kernel
theorem d7 : decode yB 7 = .ok (.iconst 0, 1) := by decide +kernel
theorem d8 : decode yB 8 = .ok (.iload_n 2, 1) := by decide +kernel
theorem d9 : decode yB 9 = .ok (.invokestatic 115, 3) := by decide +kernel
theorem d12 : decode yB 12 = .ok (.istore 4, 2) := by decide +kernel
theorem d14 : decode yB 14 = .ok (.iload 4, 2) := by decide +kernel
theorem d16 : decode yB 16 = .ok (.iload_n 2, 1) := by decide +kernel
theorem d17 : decode yB 17 = .ok (.if_icmp (.eq) 40, 3) := by decide +kernel
theorem d57 : decode yB 57 = .ok (.aload_n 3, 1) := by decide +kernel
theorem d58 : decode yB 58 = .ok (.areturn, 1) := by decide +kernel
def site : List Cond := [.arrayClass .byte, Cmp5.tab] ++ staticW U16 115 Cmp5.yN
def tab : Cond := tabOf yN yB 6 (some (.array .byte)) site
def P (b : Addr) (A : Cell) (o len : Nat) (args : Array Value) (s : State) : Prop := args = #[.ref b, .int (Int32.ofNat o), .int (Int32.ofNat len)] ∧ Ch b A s ∧ o + len ≤ A.slots.size ∧ len ≤ 536870912 ∧ ∀ i, i < len → ¬ 255 < cv A (o + i)
def E (b : Addr) (A : Cell) (o len : Nat) (r : Option Value) (s u : State) : Prop := NewArr .byte "[B" len (fun j => .int (lo8 (cv A (o + j)))) r s u ∧ u.heap.size = s.heap.size + 1
/-- no char of the range above 255: a new byte[] of their low bytes -/
theorem law (l : Launch) (b : Addr) (A : Cell) (o len : Nat) : Law l yN 3 3 1 18 yB 6 (some (.array .byte)) site (P b A o len) (E b A o len) [] 1 len := by
  refine Law.of_walk (plainFor_of_name (by decide +kernel)) (by decide +kernel) (by decide +kernel) (by decide) (fun _ _ h => by rw [h.1]; rfl) (fun _ U U' hal hh h => ⟨h.1, h.2.1.mv hal hh, h.2.2⟩) (fun r U U' V V' h1 hal h2 h => ⟨NewArr.mv r U U' V V' h1 hal h2 h.1, by rw [h1, h2]; exact h.2⟩) ?_
  intro p e s m args below meth c s₁ X0 hexec hbytes hml hret hlk hnm hown hh0 W hP
  obtain ⟨rfl, hA, l1, l2, hp⟩ := hP
  have a31 := hA.1.2.2.2
  have c1 : Steps p.tables e below (s₁.setTop (entryFrame m #[.ref b, .int (Int32.ofNat o), .int (Int32.ofNat len)] 6)) (s₁.setTop (mkF m 0 #[.val (.ref b), .val (.int (Int32.ofNat o)), .val (.int (Int32.ofNat len)), .unset, .unset, .unset] [])) := entry rfl
  have c2 : Steps p.tables e below (s₁.setTop (entryFrame m #[.ref b, .int (Int32.ofNat o), .int (Int32.ofNat len)] 6)) (s₁.setTop (mkF m 1 #[.val (.ref b), .val (.int (Int32.ofNat o)), .val (.int (Int32.ofNat len)), .unset, .unset, .unset] [.int (Int32.ofNat len)])) := c1.trans (by
    refine XS.iloadN X0.here hexec rfl (hb hbytes d0) rfl ?_
    exact Steps.refl _)
  obtain ⟨T3, B3, X3, ba3, bs3, bv3, bh3, bf3, st3⟩ := X0.anew hexec (atype := .byte) (wk W (.arrayClass .byte)) rfl (by show len * 1 ≤ _; omega) (by omega) (g := (mkF m 1 #[.val (.ref b), .val (.int (Int32.ofNat o)), .val (.int (Int32.ofNat len)), .unset, .unset, .unset] [.int (Int32.ofNat len)])) rfl (hb hbytes d1) (rest := []) rfl (Nat.le_refl _) (by show 0 + len ≤ len; omega)
  rw [hh0] at ba3 st3
  have kp3 : XT.Kept s T3 := (XT.Kept.of_eq hh0).push bh3
  have hA3 := hA.keep X3.warmed.alike (kp3 _ _ hA.1.1)
  have hne : b ≠ s.heap.size := hA.1.ne
  have c4 : Steps p.tables e below (s₁.setTop (entryFrame m #[.ref b, .int (Int32.ofNat o), .int (Int32.ofNat len)] 6)) (T3.setTop (mkF m 3 #[.val (.ref b), .val (.int (Int32.ofNat o)), .val (.int (Int32.ofNat len)), .unset, .unset, .unset] [.ref s.heap.size])) := c2.trans (st3 _ (Steps.refl _))
  have c5 : Steps p.tables e below (s₁.setTop (entryFrame m #[.ref b, .int (Int32.ofNat o), .int (Int32.ofNat len)] 6)) (T3.setTop (mkF m 9 #[.val (.ref b), .val (.int (Int32.ofNat o)), .val (.int (Int32.ofNat len)), .val (.ref s.heap.size), .unset, .unset] [.int (Int32.ofNat len), .int 0, .ref s.heap.size, .int (Int32.ofNat o), .ref b])) := c4.trans (by
    refine XS.astoreN X3.here hexec rfl (hb hbytes d3) rfl rfl rfl ?_
    refine XS.aloadN X3.here hexec rfl (hb hbytes d4) rfl rfl ?_
    refine XS.iloadN X3.here hexec rfl (hb hbytes d5) rfl ?_
    refine XS.aloadN X3.here hexec rfl (hb hbytes d6) rfl rfl ?_
    refine iconstV X3.here hexec rfl 0 (hb hbytes d7) (by decide) ?_
    refine XS.iloadN X3.here hexec rfl (hb hbytes d8) rfl ?_
    exact Steps.refl _)
  obtain ⟨v6, T6, X6, E6, g6⟩ := X3.callS hexec (Cmp5.law l b A s.heap.size B3 o 0 len) hown (wks W (staticW U16 115 Cmp5.yN)) (wk W Cmp5.tab) (W := 0) (Nat.le_of_ble_eq_true rfl) (Nat.le_of_ble_eq_true rfl) (Nat.le_refl _) (by show 0 + len + 0 ≤ len; omega) (g := (mkF m 9 #[.val (.ref b), .val (.int (Int32.ofNat o)), .val (.int (Int32.ofNat len)), .val (.ref s.heap.size), .unset, .unset] [.int (Int32.ofNat len), .int (Int32.ofNat 0), .ref s.heap.size, .int (Int32.ofNat o), .ref b])) rfl (by rw [hml]; rfl) c5 (argsL := [.ref b, .int (Int32.ofNat o), .ref s.heap.size, .int (Int32.ofNat 0), .int (Int32.ofNat len)]) (rest := []) rfl rfl (by show 2 * 0 + 0 ≤ _; decide) (hb hbytes d9) (⟨rfl, hA3, ba3, hne, l1, by rw [bs3]; simp, hp⟩)
  obtain ⟨rfl, B6, p6, f6⟩ := E6
  have c7 : Steps p.tables e below (s₁.setTop (entryFrame m #[.ref b, .int (Int32.ofNat o), .int (Int32.ofNat len)] 6)) (T6.setTop (mkF m 12 #[.val (.ref b), .val (.int (Int32.ofNat o)), .val (.int (Int32.ofNat len)), .val (.ref s.heap.size), .unset, .unset] [.int (Int32.ofNat len)])) := g6
  have c8 : Steps p.tables e below (s₁.setTop (entryFrame m #[.ref b, .int (Int32.ofNat o), .int (Int32.ofNat len)] 6)) (T6.setTop (mkF m 58 #[.val (.ref b), .val (.int (Int32.ofNat o)), .val (.int (Int32.ofNat len)), .val (.ref s.heap.size), .val (.int (Int32.ofNat len)), .unset] [.ref s.heap.size])) := c7.trans (by
    refine XS.istore X6.here hexec rfl (hb hbytes d12) rfl rfl ?_
    refine XS.iload X6.here hexec rfl (hb hbytes d14) rfl ?_
    refine XS.iloadN X6.here hexec rfl (hb hbytes d16) rfl ?_
    refine XS.icmpYes X6.here hexec rfl (pc0 := 17) rfl (hb hbytes d17) rfl (ii_eq_t rfl) (by decide) rfl ?_
    refine XS.aloadN X6.here hexec rfl (hb hbytes d57) rfl rfl ?_
    exact Steps.refl _)
  have X8 := X6.wide (L' := []) (cells' := 1) (slots' := len) (fun x hx hlt => by
    simp only [List.nil_append, copyLocs, List.mem_map, List.mem_range] at hx
    obtain ⟨i, -, rfl⟩ := hx
    exact absurd hlt (Nat.lt_irrefl _)) (Nat.le_refl _) (by omega)
  exact ⟨T6, some (.ref s.heap.size), _, _, _, X8, rfl, rfl, rfl, (fun h => by cases h), ⟨⟨rfl, B6, ba3.like (X3.warmed.alike.symm.trans X6.warmed.alike) p6.1 f6.1 f6.2.1 f6.2.2.1, f6.2.1.trans bv3, by rw [X6.warmed.alike.findClass, f6.1]; exact bf3, by rw [f6.2.2.1, bs3]; simp, fun j hj => by rw [f6.2.2.2 j, if_pos (by omega)]; rfl, kp3.put p6 (Nat.le_refl _)⟩, by rw [p6.2.2, bh3, hh0]; simp⟩, fun fs hl => c8.trans (X8.areturnOut hexec rfl hret rfl (hb hbytes d58) hl)⟩
end Cmp3
namespace CodL
def yN : MethodName := ⟨"java/lang/StringUTF16", "coderFromArrayLen", "([BI)B"⟩
abbrev yB : ByteArray := jdk_52_method_15_code
theorem d0 : decode yB 0 = .ok (.iload_n 1, 1) := by decide +kernel
theorem d1 : decode yB 1 = .ok (.aload_n 0, 1) := by decide +kernel
theorem d2 : decode yB 2 = .ok (.arraylength, 1) := by decide +kernel
theorem d3 : decode yB 3 = .ok (.isub, 1) := by decide +kernel
theorem d4 : decode yB 4 = .ok (.bipush 31, 2) := by decide +kernel
theorem d6 : decode yB 6 = .ok (.iushr, 1) := by decide +kernel
theorem d7 : decode yB 7 = .ok (.i2b, 1) := by decide +kernel
theorem d8 : decode yB 8 = .ok (.ireturn, 1) := by decide +kernel
def site : List Cond := []
def tab : Cond := tabOf yN yB 2 (some .byte) site
def P (d : Addr) (B : Cell) (args : Array Value) (s : State) : Prop := args = #[.ref d, .int (Int32.ofNat B.slots.size)] ∧ Arr .byte d B s
def E (r : Option Value) (s u : State) : Prop := XT.PureE (some (.int 0)) r s u
/-- an array as long as the number of chars: LATIN1 -/
theorem law (l : Launch) (d : Addr) (B : Cell) : Law l yN 2 2 0 0 yB 2 (some .byte) site (P d B) E [] 0 0 := by
  refine Law.of_walk (plainFor_of_name (by decide +kernel)) (by decide +kernel) (by decide +kernel) (by decide) (fun _ _ h => by rw [h.1]; rfl) (fun _ U U' hal hh h => ⟨h.1, h.2.mv hal hh⟩) (fun r U U' V V' h1 hal h2 h => XT.PureE.mv r U U' V V' h1 hal h2 h) ?_
  intro p e s m args below meth c s₁ X0 hexec hbytes hml hret hlk hnm hown hh0 W hP
  obtain ⟨rfl, hB⟩ := hP
  have hB0 := hB.mv X0.warmed.alike hh0
  have c1 : Steps p.tables e below (s₁.setTop (entryFrame m #[.ref d, .int (Int32.ofNat B.slots.size)] 2)) (s₁.setTop (mkF m 0 #[.val (.ref d), .val (.int (Int32.ofNat B.slots.size))] [])) := entry rfl
  have c2 : Steps p.tables e below (s₁.setTop (entryFrame m #[.ref d, .int (Int32.ofNat B.slots.size)] 2)) (s₁.setTop (mkF m 2 #[.val (.ref d), .val (.int (Int32.ofNat B.slots.size))] [.ref d, .int (Int32.ofNat B.slots.size)])) := c1.trans (by
    refine XS.iloadN X0.here hexec rfl (hb hbytes d0) rfl ?_
    refine XS.aloadN X0.here hexec rfl (hb hbytes d1) rfl rfl ?_
    exact Steps.refl _)
  have c3 : Steps p.tables e below (s₁.setTop (entryFrame m #[.ref d, .int (Int32.ofNat B.slots.size)] 2)) (s₁.setTop (mkF m 8 #[.val (.ref d), .val (.int (Int32.ofNat B.slots.size))] [.int (lo8 (ushr (Int32.ofNat B.slots.size - Int32.ofNat B.slots.size) 31))])) := c2.trans (by
    refine X0.alen hexec hB0 rfl rfl (hb hbytes d2) ?_
    refine XS.isub X0.here hexec rfl (hb hbytes d3) rfl ?_
    refine bipushV X0.here hexec rfl 31 (hb hbytes d4) (by decide) ?_
    refine iushr X0.here hexec rfl (hb hbytes d6) rfl ?_
    refine i2b X0.here hexec rfl (hb hbytes d7) rfl ?_
    exact Steps.refl _)
  have e0 : lo8 (ushr (Int32.ofNat B.slots.size - Int32.ofNat B.slots.size) 31) = 0 := by rw [Int32.sub_self]; decide
  rw [e0] at c3
  exact ⟨s₁, some (.int 0), _, _, _, X0, rfl, rfl, rfl, (fun h => by cases h), ⟨rfl, hh0⟩, fun fs hl => c3.trans (X0.ireturnOut hexec hret rfl (Or.inr (Or.inr (Or.inl rfl))) (hb hbytes d8) hl)⟩
end CodL
/-- the String at a is Latin-1 over a new byte[] (the heap's one new cell): the low bytes of the len chars of A from o on; every cell but a is kept -/
def Got (a : Addr) (D : Cell) (fV fC : Field) (A : Cell) (o len : Nat) (r : Option Value) (s u : State) : Prop := r = none ∧ ∃ D' V : Cell, Blank "java/lang/String" a D' u ∧ Same D D' [fV.slot, fC.slot] ∧ D'.slots[fV.slot]? = some (.ref s.heap.size) ∧ D'.slots[fC.slot]? = some (.int 0) ∧ Arr .byte s.heap.size V u ∧ V.vm = .none ∧ u.vm.findClass "[B" = some V.cls ∧ V.slots.size = len ∧ (∀ j, j < len → V.slots[j]? = some (.int (lo8 (cv A (o + j))))) ∧ (∀ (y : Addr) (c : Cell), y ≠ a → s.heap[y]? = some c → u.heap[y]? = some c) ∧ u.heap.size = s.heap.size + 1
theorem Got.mv {a : Addr} {D A : Cell} {fV fC : Field} {o len : Nat} : ∀ r (U U' V V' : State), U'.heap = U.heap → V.vm.Alike V'.vm → V'.heap = V.heap → Got a D fV fC A o len r U V → Got a D fV fC A o len r U' V' :=
  fun r U U' V V' h1 hal h2 ⟨e0, D', X, a1, a2, a3, a4, a5, a6, a7, a8, a9, a10, a11⟩ => ⟨e0, D', X, a1.mv hal h2, a2, by rw [h1]; exact a3, a4, by rw [h1]; exact a5.mv hal h2, a6, by rw [hal.findClass]; exact a7, a8, a9, by rw [h1, h2]; exact a10, by rw [h1, h2]; exact a11⟩
namespace New4
def yN : MethodName := ⟨"java/lang/String", "<init>", "([CIILjava/lang/Void;)V"⟩
abbrev yB : ByteArray := jdk_42_method_149_code
theorem d0 : decode yB 0 = .ok (.aload_n 0, 1) := by decide +kernel
theorem d1 : decode yB 1 = .ok (.invokespecial 1, 3) := by decide +kernel
theorem d4 : decode yB 4 = .ok (.iload_n 3, 1) := by decide +kernel
theorem d5 : decode yB 5 = .ok (.ifCond (.ne) 22, 3) := by decide +kernel
theorem d27 : decode yB 27 = .ok (.getstatic 38, 3) := by decide +kernel
theorem d30 : decode yB 30 = .ok (.ifCond (.eq) 28, 3) := by decide +kernel
theorem d33 : decode yB 33 = .ok (.aload_n 1, 1) := by decide +kernel
theorem d34 : decode yB 34 = .ok (.iload_n 2, 1) := by decide +kernel
theorem d35 : decode yB 35 = .ok (.iload_n 3, 1) := by decide +kernel
theorem d36 : decode yB 36 = .ok (.invokestatic 177, 3) := by decide +kernel
theorem d39 : decode yB 39 = .ok (.astore 5, 2) := by decide +kernel
theorem d41 : decode yB 41 = .ok (.aload_n 0, 1) := by decide +kernel
theorem d42 : decode yB 42 = .ok (.aload 5, 2) := by decide +kernel
theorem d44 : decode yB 44 = .ok (.iload_n 3, 1) := by decide +kernel
theorem d45 : decode yB 45 = .ok (.invokestatic 47, 3) := by decide +kernel
theorem d48 : decode yB 48 = .ok (.putfield 15, 3) := by decide +kernel
theorem d51 : decode yB 51 = .ok (.aload_n 0, 1) := by decide +kernel
theorem d52 : decode yB 52 = .ok (.aload 5, 2) := by decide +kernel
theorem d54 : decode yB 54 = .ok (.putfield 9, 3) := by decide +kernel
theorem d57 : decode yB 57 = .ok (.return_, 1) := by decide +kernel
def site : List Cond := [.fieldLink "java/lang/String" 38 "java/lang/String" "COMPACT_STRINGS" "Z", Cmp3.tab, CodL.tab, .laysFinal "java/lang/String" "java/lang/String" "value" "[B", .fieldLink "java/lang/String" 9 "java/lang/String" "value" "[B", .laysFinal "java/lang/String" "java/lang/String" "coder" "B", .fieldLink "java/lang/String" 15 "java/lang/String" "coder" "B"] ++ objW "java/lang/String" 1 ++ staticW "java/lang/String" 177 Cmp3.yN ++ staticW "java/lang/String" 47 CodL.yN
def tab : Cond := tabOf yN yB 6 none site
def P (a : Addr) (D : Cell) (fV fC : Field) (b : Addr) (A : Cell) (z : Int32) (o len : Nat) (args : Array Value) (s : State) : Prop := args = #[.ref a, .ref b, .int (Int32.ofNat o), .int (Int32.ofNat len), .null] ∧ Blank "java/lang/String" a D s ∧ Found "java/lang/String" "value" "[B" fV s ∧ Found "java/lang/String" "coder" "B" fC s ∧ Ch b A s ∧ StaticIs s "java/lang/String" "COMPACT_STRINGS" "Z" (.int z) ∧ ¬ z = 0 ∧ 0 < len ∧ o + len ≤ A.slots.size ∧ len ≤ 536870912 ∧ ∀ i, i < len → ¬ 255 < cv A (o + i)
def E (a : Addr) (D : Cell) (fV fC : Field) (A : Cell) (o len : Nat) (r : Option Value) (s u : State) : Prop := Got a D fV fC A o len r s u
/-- len > 0, no char of the range above 255: a Latin-1 String of their low bytes -/
theorem law (l : Launch) (a : Addr) (D : Cell) (fV fC : Field) (b : Addr) (A : Cell) (z : Int32) (o len : Nat) : Law l yN 5 4 2 35 yB 6 none site (P a D fV fC b A z o len) (E a D fV fC A o len) [⟨a, fC.slot⟩, ⟨a, fV.slot⟩] 1 len := by
  refine Law.of_walk (plainFor_of_name (by decide +kernel)) (by decide +kernel) (by decide +kernel) (by decide) (fun _ _ h => by rw [h.1]; rfl) (fun _ U U' hal hh h => ⟨h.1, h.2.1.mv hal hh, h.2.2.1.al hal, h.2.2.2.1.al hal, h.2.2.2.2.1.mv hal hh, h.2.2.2.2.2.1.there hal hh, h.2.2.2.2.2.2⟩) (fun r U U' V V' h1 hal h2 h => Got.mv r U U' V V' h1 hal h2 h) ?_
  intro p e s m args below meth c s₁ X0 hexec hbytes hml hret hlk hnm hown hh0 W hP
  obtain ⟨rfl, hB, f1, f2, hA, s1, hz, l0, l1, l2, hp⟩ := hP
  have a31 := hA.1.2.2.2
  have c1 : Steps p.tables e below (s₁.setTop (entryFrame m #[.ref a, .ref b, .int (Int32.ofNat o), .int (Int32.ofNat len), .null] 6)) (s₁.setTop (mkF m 0 #[.val (.ref a), .val (.ref b), .val (.int (Int32.ofNat o)), .val (.int (Int32.ofNat len)), .val .null, .unset] [])) := entry rfl
  have c2 : Steps p.tables e below (s₁.setTop (entryFrame m #[.ref a, .ref b, .int (Int32.ofNat o), .int (Int32.ofNat len), .null] 6)) (s₁.setTop (mkF m 1 #[.val (.ref a), .val (.ref b), .val (.int (Int32.ofNat o)), .val (.int (Int32.ofNat len)), .val .null, .unset] [.ref a])) := c1.trans (by
    refine XS.aloadN X0.here hexec rfl (hb hbytes d0) rfl rfl ?_
    exact Steps.refl _)
  obtain ⟨T3, X3, q3, st3⟩ := X0.oinit hexec hown (wks W (objW "java/lang/String" 1)) (g := (mkF m 1 #[.val (.ref a), .val (.ref b), .val (.int (Int32.ofNat o)), .val (.int (Int32.ofNat len)), .val .null, .unset] [.ref a])) rfl (by rw [hml]; rfl) (rest := []) rfl (hb hbytes d1) (W := 0) (by show 2 * 0 + 0 ≤ _; decide) (Nat.le_of_ble_eq_true rfl) (Nat.le_of_ble_eq_true rfl)
  have hh3 := q3.trans hh0
  have c4 : Steps p.tables e below (s₁.setTop (entryFrame m #[.ref a, .ref b, .int (Int32.ofNat o), .int (Int32.ofNat len), .null] 6)) (T3.setTop (mkF m 27 #[.val (.ref a), .val (.ref b), .val (.int (Int32.ofNat o)), .val (.int (Int32.ofNat len)), .val .null, .unset] [])) := (c2.trans (st3 _ (Steps.refl _))).trans (by
    refine XS.iloadN X3.here hexec rfl (hb hbytes d4) rfl ?_
    refine XS.ifYes X3.here hexec rfl (pc0 := 5) rfl (hb hbytes d5) rfl (i0_ne_t (nz32 (by omega) l0)) (by decide) rfl ?_
    exact Steps.refl _)
  obtain ⟨T5, X5, q5, st5⟩ := X3.sget hexec hown (wk W (.fieldLink "java/lang/String" 38 "java/lang/String" "COMPACT_STRINGS" "Z")) s1 (fun _ _ h => by rw [hh3]; exact h) (g := (mkF m 27 #[.val (.ref a), .val (.ref b), .val (.int (Int32.ofNat o)), .val (.int (Int32.ofNat len)), .val .null, .unset] [])) rfl (hb hbytes d27)
  have hh5 := q5.trans hh3
  have c6 : Steps p.tables e below (s₁.setTop (entryFrame m #[.ref a, .ref b, .int (Int32.ofNat o), .int (Int32.ofNat len), .null] 6)) (T5.setTop (mkF m 30 #[.val (.ref a), .val (.ref b), .val (.int (Int32.ofNat o)), .val (.int (Int32.ofNat len)), .val .null, .unset] [.int z])) := c4.trans (st5 _ (Steps.refl _))
  have c7 : Steps p.tables e below (s₁.setTop (entryFrame m #[.ref a, .ref b, .int (Int32.ofNat o), .int (Int32.ofNat len), .null] 6)) (T5.setTop (mkF m 36 #[.val (.ref a), .val (.ref b), .val (.int (Int32.ofNat o)), .val (.int (Int32.ofNat len)), .val .null, .unset] [.int (Int32.ofNat len), .int (Int32.ofNat o), .ref b])) := c6.trans (by
    refine XS.ifNo X5.here hexec rfl (hb hbytes d30) rfl (i0_eq_f hz) ?_
    refine XS.aloadN X5.here hexec rfl (hb hbytes d33) rfl rfl ?_
    refine XS.iloadN X5.here hexec rfl (hb hbytes d34) rfl ?_
    refine XS.iloadN X5.here hexec rfl (hb hbytes d35) rfl ?_
    exact Steps.refl _)
  obtain ⟨v8, T8, X8, E8, g8⟩ := X5.callS hexec (Cmp3.law l b A o len) hown (wks W (staticW "java/lang/String" 177 Cmp3.yN)) (wk W Cmp3.tab) (W := 0) (Nat.le_of_ble_eq_true rfl) (Nat.le_of_ble_eq_true rfl) (Nat.le_refl _) (by show 0 + len ≤ len; omega) (g := (mkF m 36 #[.val (.ref a), .val (.ref b), .val (.int (Int32.ofNat o)), .val (.int (Int32.ofNat len)), .val .null, .unset] [.int (Int32.ofNat len), .int (Int32.ofNat o), .ref b])) rfl (by rw [hml]; rfl) c7 (argsL := [.ref b, .int (Int32.ofNat o), .int (Int32.ofNat len)]) (rest := []) rfl rfl (by show 2 * 0 + 0 ≤ _; decide) (hb hbytes d36) (⟨rfl, hA.mv X5.warmed.alike hh5, l1, l2, hp⟩)
  obtain ⟨e8, z8⟩ := E8
  obtain ⟨rfl, N, n1, n2, n3, n4, n5, n6⟩ := NewArr.mv _ T5 s _ _ hh5.symm (Vm.Alike.refl _) rfl e8
  rw [hh5] at z8
  have hB1 := hB.keep X8.warmed.alike (n6 _ _ hB.1)
  have hne : s.heap.size ≠ a := (Nat.ne_of_lt (Array.getElem?_eq_some_iff.mp hB.1).1).symm
  have c9 : Steps p.tables e below (s₁.setTop (entryFrame m #[.ref a, .ref b, .int (Int32.ofNat o), .int (Int32.ofNat len), .null] 6)) (T8.setTop (mkF m 39 #[.val (.ref a), .val (.ref b), .val (.int (Int32.ofNat o)), .val (.int (Int32.ofNat len)), .val .null, .unset] [.ref s.heap.size])) := g8
  have c10 : Steps p.tables e below (s₁.setTop (entryFrame m #[.ref a, .ref b, .int (Int32.ofNat o), .int (Int32.ofNat len), .null] 6)) (T8.setTop (mkF m 45 #[.val (.ref a), .val (.ref b), .val (.int (Int32.ofNat o)), .val (.int (Int32.ofNat len)), .val .null, .val (.ref s.heap.size)] [.int (Int32.ofNat N.slots.size), .ref s.heap.size, .ref a])) := by
    have hc : Steps p.tables e below (s₁.setTop (entryFrame m #[.ref a, .ref b, .int (Int32.ofNat o), .int (Int32.ofNat len), .null] 6)) (T8.setTop (mkF m 45 #[.val (.ref a), .val (.ref b), .val (.int (Int32.ofNat o)), .val (.int (Int32.ofNat len)), .val .null, .val (.ref s.heap.size)] [.int (Int32.ofNat len), .ref s.heap.size, .ref a])) := c9.trans (by
      refine XS.astore X8.here hexec rfl (hb hbytes d39) rfl rfl rfl ?_
      refine XS.aloadN X8.here hexec rfl (hb hbytes d41) rfl rfl ?_
      refine XS.aload X8.here hexec rfl (hb hbytes d42) rfl rfl ?_
      refine XS.iloadN X8.here hexec rfl (hb hbytes d44) rfl ?_
      exact Steps.refl _)
    rw [n4]; exact hc
  obtain ⟨v11, T11, X11, E11, g11⟩ := X8.callS hexec (CodL.law l s.heap.size N) hown (wks W (staticW "java/lang/String" 47 CodL.yN)) (wk W CodL.tab) (W := 1) (Nat.le_of_ble_eq_true rfl) (Nat.le_of_ble_eq_true rfl) (Nat.le_refl _) (by show 0 + len + 0 ≤ len; omega) (g := (mkF m 45 #[.val (.ref a), .val (.ref b), .val (.int (Int32.ofNat o)), .val (.int (Int32.ofNat len)), .val .null, .val (.ref s.heap.size)] [.int (Int32.ofNat N.slots.size), .ref s.heap.size, .ref a])) rfl (by rw [hml]; rfl) c10 (argsL := [.ref s.heap.size, .int (Int32.ofNat N.slots.size)]) (rest := [.ref a]) rfl rfl (by show 2 * 0 + (1 + 0) ≤ _; decide) (hb hbytes d45) (⟨rfl, n1⟩)
  obtain ⟨rfl, q11⟩ := E11
  have hB11 := hB1.mv (X8.warmed.alike.symm.trans X11.warmed.alike) q11
  have c12 : Steps p.tables e below (s₁.setTop (entryFrame m #[.ref a, .ref b, .int (Int32.ofNat o), .int (Int32.ofNat len), .null] 6)) (T11.setTop (mkF m 48 #[.val (.ref a), .val (.ref b), .val (.int (Int32.ofNat o)), .val (.int (Int32.ofNat len)), .val .null, .val (.ref s.heap.size)] [.int 0, .ref a])) := g11
  obtain ⟨T13, X13, p13, bl13, sl13, st13⟩ := X11.finit hexec hown (wk W (.fieldLink "java/lang/String" 15 "java/lang/String" "coder" "B")) (Or.inr ⟨_, (wk W (.laysFinal "java/lang/String" "java/lang/String" "coder" "B"))⟩) (Or.inl ⟨rfl, hnm⟩) f2 (Or.inl rfl) hB11 (t := .byte) (by decide +kernel) rfl (g := (mkF m 48 #[.val (.ref a), .val (.ref b), .val (.int (Int32.ofNat o)), .val (.int (Int32.ofNat len)), .val .null, .val (.ref s.heap.size)] [.int 0, .ref a])) rfl (rest := []) rfl (hb hbytes d48)
  have c14 : Steps p.tables e below (s₁.setTop (entryFrame m #[.ref a, .ref b, .int (Int32.ofNat o), .int (Int32.ofNat len), .null] 6)) (T13.setTop (mkF m 54 #[.val (.ref a), .val (.ref b), .val (.int (Int32.ofNat o)), .val (.int (Int32.ofNat len)), .val .null, .val (.ref s.heap.size)] [.ref s.heap.size, .ref a])) := (c12.trans (st13 _ (Steps.refl _))).trans (by
    refine XS.aloadN X13.here hexec rfl (hb hbytes d51) rfl rfl ?_
    refine XS.aload X13.here hexec rfl (hb hbytes d52) rfl rfl ?_
    exact Steps.refl _)
  obtain ⟨T15, X15, p15, bl15, sl15, st15⟩ := X13.finit hexec hown (wk W (.fieldLink "java/lang/String" 9 "java/lang/String" "value" "[B")) (Or.inr ⟨_, (wk W (.laysFinal "java/lang/String" "java/lang/String" "value" "[B"))⟩) (Or.inl ⟨rfl, hnm⟩) f1 (Or.inl rfl) bl13 (t := (.array .byte)) (by decide +kernel) rfl (g := (mkF m 54 #[.val (.ref a), .val (.ref b), .val (.int (Int32.ofNat o)), .val (.int (Int32.ofNat len)), .val .null, .val (.ref s.heap.size)] [.ref s.heap.size, .ref a])) rfl (rest := []) rfl (hb hbytes d54)
  have c16 : Steps p.tables e below (s₁.setTop (entryFrame m #[.ref a, .ref b, .int (Int32.ofNat o), .int (Int32.ofNat len), .null] 6)) (T15.setTop (mkF m 57 #[.val (.ref a), .val (.ref b), .val (.int (Int32.ofNat o)), .val (.int (Int32.ofNat len)), .val .null, .val (.ref s.heap.size)] [])) := c14.trans (st15 _ (Steps.refl _))
  have ap := apart (Or.inr ⟨_, (wk W (.laysFinal "java/lang/String" "java/lang/String" "value" "[B"))⟩) (Or.inr ⟨_, (wk W (.laysFinal "java/lang/String" "java/lang/String" "coder" "B"))⟩) f1 f2 (t₁ := .array .byte) (t₂ := .byte) (by decide +kernel) (by decide +kernel) (by decide)
  have al := X8.warmed.alike.symm.trans X15.warmed.alike
  have n7 : T11.heap[s.heap.size]? = some N := by rw [q11]; exact n1.1
  exact ⟨T15, none, _, _, _, X15, by simp, rfl, by omega, (fun _ => rfl), ⟨rfl, _, N, bl15, ((Same.refl D _).set _ (by simp)).set _ (by simp), sl15, (Cell.slots_setSlot_ne _ ap).trans sl13, n1.keep al (p15.other hne (p13.other hne n7)), n2, by rw [al.findClass]; exact n3, n4, n5, fun y c h1 h2 => p15.other h1 (p13.other h1 (by rw [q11]; exact n6 y c h2)), by rw [p15.2.2, p13.2.2, q11]; exact z8⟩, fun fs hl => c16.trans (X15.returnOut hexec hret (hb hbytes d57) hl)⟩
end New4
namespace New1
def yN : MethodName := ⟨"java/lang/String", "<init>", "([C)V"⟩
abbrev yB : ByteArray := jdk_42_method_3_code
theorem d0 : decode yB 0 = .ok (.aload_n 0, 1) := by decide +kernel
theorem d1 : decode yB 1 = .ok (.aload_n 1, 1) := by decide +kernel
theorem d2 : decode yB 2 = .ok (.iconst 0, 1) := by decide +kernel
theorem d3 : decode yB 3 = .ok (.aload_n 1, 1) := by decide +kernel
theorem d4 : decode yB 4 = .ok (.arraylength, 1) := by decide +kernel
theorem d5 : decode yB 5 = .ok (.aconst_null, 1) := by decide +kernel
theorem d6 : decode yB 6 = .ok (.invokespecial 27, 3) := by decide +kernel
theorem d9 : decode yB 9 = .ok (.return_, 1) := by decide +kernel
def site : List Cond := [New4.tab] ++ initW "java/lang/String" 27 New4.yN
def tab : Cond := tabOf yN yB 2 none site
def P (a : Addr) (D : Cell) (fV fC : Field) (b : Addr) (A : Cell) (z : Int32) (args : Array Value) (s : State) : Prop := args = #[.ref a, .ref b] ∧ Blank "java/lang/String" a D s ∧ Found "java/lang/String" "value" "[B" fV s ∧ Found "java/lang/String" "coder" "B" fC s ∧ Ch b A s ∧ StaticIs s "java/lang/String" "COMPACT_STRINGS" "Z" (.int z) ∧ ¬ z = 0 ∧ 0 < A.slots.size ∧ A.slots.size ≤ 536870912 ∧ ∀ i, i < A.slots.size → ¬ 255 < cv A i
def E (a : Addr) (D : Cell) (fV fC : Field) (A : Cell) (r : Option Value) (s u : State) : Prop := Got a D fV fC A 0 A.slots.size r s u
/-- new String(chars), not empty, no char above 255: a Latin-1 String of their low bytes -/
theorem law (l : Launch) (a : Addr) (D : Cell) (fV fC : Field) (b : Addr) (A : Cell) (z : Int32) : Law l yN 2 1 3 52 yB 2 none site (P a D fV fC b A z) (E a D fV fC A) [⟨a, fC.slot⟩, ⟨a, fV.slot⟩] 1 A.slots.size := by
  refine Law.of_walk (plainFor_of_name (by decide +kernel)) (by decide +kernel) (by decide +kernel) (by decide) (fun _ _ h => by rw [h.1]; rfl) (fun _ U U' hal hh h => ⟨h.1, h.2.1.mv hal hh, h.2.2.1.al hal, h.2.2.2.1.al hal, h.2.2.2.2.1.mv hal hh, h.2.2.2.2.2.1.there hal hh, h.2.2.2.2.2.2⟩) (fun r U U' V V' h1 hal h2 h => Got.mv r U U' V V' h1 hal h2 h) ?_
  intro p e s m args below meth c s₁ X0 hexec hbytes hml hret hlk hnm hown hh0 W hP
  obtain ⟨rfl, hB, f1, f2, hA, s1, hz, l0, l2, hp⟩ := hP
  have c1 : Steps p.tables e below (s₁.setTop (entryFrame m #[.ref a, .ref b] 2)) (s₁.setTop (mkF m 0 #[.val (.ref a), .val (.ref b)] [])) := entry rfl
  have c2 : Steps p.tables e below (s₁.setTop (entryFrame m #[.ref a, .ref b] 2)) (s₁.setTop (mkF m 6 #[.val (.ref a), .val (.ref b)] [.null, .int (Int32.ofNat A.slots.size), .int 0, .ref b, .ref a])) := c1.trans (by
    refine XS.aloadN X0.here hexec rfl (hb hbytes d0) rfl rfl ?_
    refine XS.aloadN X0.here hexec rfl (hb hbytes d1) rfl rfl ?_
    refine iconstV X0.here hexec rfl 0 (hb hbytes d2) (by decide) ?_
    refine XS.aloadN X0.here hexec rfl (hb hbytes d3) rfl rfl ?_
    refine X0.alen hexec (hA.1.mv X0.warmed.alike hh0) rfl rfl (hb hbytes d4) ?_
    refine XS.aconstNull X0.here hexec rfl (hb hbytes d5) ?_
    exact Steps.refl _)
  obtain ⟨v3, T3, X3, E3, g3⟩ := X0.callN hexec (New4.law l a D fV fC b A z 0 A.slots.size) rfl hown (wks W (initW "java/lang/String" 27 New4.yN)) (W New4.tab (by simp only [site, List.mem_cons, List.mem_append, true_or, or_true])) (W := 0) (Nat.le_of_ble_eq_true rfl) (Nat.le_of_ble_eq_true rfl) (Nat.le_refl _) (by show 0 + A.slots.size ≤ A.slots.size; omega) (g := (mkF m 6 #[.val (.ref a), .val (.ref b)] [.null, .int (Int32.ofNat A.slots.size), .int (Int32.ofNat 0), .ref b, .ref a])) rfl (by rw [hml]; rfl) c2 (argsL := [.ref b, .int (Int32.ofNat 0), .int (Int32.ofNat A.slots.size), .null]) (rest := []) rfl rfl (by show 2 * 0 + 0 ≤ _; decide) (hb hbytes d6) (⟨rfl, hB.mv X0.warmed.alike hh0, f1.al X0.warmed.alike, f2.al X0.warmed.alike, hA.mv X0.warmed.alike hh0, s1.there X0.warmed.alike hh0, hz, l0, by omega, l2, fun i hi => by rw [Nat.zero_add]; exact hp i hi⟩)
  have e0 := Got.mv _ s₁ s _ _ hh0.symm (Vm.Alike.refl _) rfl E3
  obtain rfl := e0.1
  have c4 : Steps p.tables e below (s₁.setTop (entryFrame m #[.ref a, .ref b] 2)) (T3.setTop (mkF m 9 #[.val (.ref a), .val (.ref b)] [])) := g3
  exact ⟨T3, none, _, _, _, X3, by simp, rfl, by omega, (fun _ => rfl), e0, fun fs hl => c4.trans (X3.returnOut hexec hret (hb hbytes d9) hl)⟩
theorem pays {l : Launch} {R : Room} {p : Program} {e : Env} {below : List Frame} {s : State} {sargs : Array Value} {len W : Nat} (a : Addr) (D : Cell) (fV fC : Field) (b : Addr) (A : Cell) (z : Int32) (htab : tab.before sargs s = true) (hfr : 4 ≤ R.frames) (hlo : W + 65 ≤ R.locals) :
    Back l R p e below s sargs yN len W (fun A₁ a₁ => A₁.cells + 1 ≤ R.cells ∧ A₁.slots + A.slots.size ≤ R.slots ∧ P a D fV fC b A z a₁ A₁.U) (fun A₁ _ v₁ B₁ => E a D fV fC A v₁ A₁.U B₁.U ∧ B₁.locs = A₁.locs ++ [⟨a, fC.slot⟩, ⟨a, fV.slot⟩] ∧ B₁.cells = A₁.cells + 1 ∧ B₁.slots = A₁.slots + A.slots.size) :=
  (law l a D fV fC b A z).pays htab hfr (by omega)
end New1
/-- the byte, read back as charAt reads it, is the char -/
theorem lo8_mask {x : Int32} (h0 : ¬ x < 0) (h1 : ¬ 255 < x) : lo8 x &&& 255 = x := by
  have t : ∀ k : Fin 256, lo8 (Int32.ofNat k.val) &&& 255 = Int32.ofNat k.val := by decide +kernel
  rw [Int32.lt_iff_toInt_lt] at h0 h1
  have e0 : (0 : Int32).toInt = 0 := rfl
  have e1 : (255 : Int32).toInt = 255 := rfl
  obtain ⟨k, hk⟩ : ∃ k : Nat, x.toInt = k := ⟨x.toInt.toNat, by omega⟩
  have hx : x = Int32.ofNat k := Int32.toInt_inj.mp (by rw [hk, Int32.toInt_ofNat_small (by omega)])
  rw [hx]
  exact t ⟨k, by omega⟩
end StrChars
namespace StrChars.Road
open Jvm Sem ClassFile Op Lib Jvm.Stand Jvm.Free Jvm.Free.XT
open Jvm.Lib.Cold (StaticIs)
abbrev ST : String := "java/lang/String"
/-- every table word that New1's law asks, flat -/
abbrev words : List Jvm.Cond := [.code New1.yN New1.yB 2 none, .initialized ST, .methodLink ST 27 New4.yN, .instanceMethod New4.yN,
  .code New4.yN New4.yB 6 none, .fieldLink ST 38 ST "COMPACT_STRINGS" "Z", .laysFinal ST ST "value" "[B", .fieldLink ST 9 ST "value" "[B", .laysFinal ST ST "coder" "B", .fieldLink ST 15 ST "coder" "B",
  .methodLink ST 1 Lib.objectInit, .instanceMethod Lib.objectInit, .code Lib.objectInit ⟨#[0xb1]⟩ 1 none, .methodLink ST 177 Cmp3.yN, .static Cmp3.yN, .methodLink ST 47 CodL.yN, .static CodL.yN,
  .code Cmp3.yN Cmp3.yB 6 (some (.array .byte)), .initialized U16, .arrayClass .byte, .methodLink U16 115 Cmp5.yN, .static Cmp5.yN, .code Cmp5.yN Cmp5.yB 7 (some .int), .code CodL.yN CodL.yB 2 (some .byte)]
theorem tab_of {a : Array Value} {s : State} (h : ∀ w ∈ words, w.before a s = true) : New1.tab.before a s = true := by
  have h5 : Cmp5.tab.before a s = true := unparts (wk h (.code Cmp5.yN Cmp5.yB 7 (some .int))) (wks h (.initialized Cmp5.yN.cls :: Cmp5.site))
  have hc : CodL.tab.before a s = true := unparts (wk h (.code CodL.yN CodL.yB 2 (some .byte))) (wks h (.initialized CodL.yN.cls :: CodL.site))
  have q5 : ∀ w ∈ Cmp5.tab :: words, w.before a s = true := fun w hw => (List.mem_cons.mp hw).elim (fun e => e ▸ h5) (h w)
  have h3 : Cmp3.tab.before a s = true := unparts (wk q5 (.code Cmp3.yN Cmp3.yB 6 (some (.array .byte)))) (wks q5 (.initialized Cmp3.yN.cls :: Cmp3.site))
  have q3 : ∀ w ∈ Cmp3.tab :: CodL.tab :: words, w.before a s = true := fun w hw => (List.mem_cons.mp hw).elim (fun e => e ▸ h3) fun hw => (List.mem_cons.mp hw).elim (fun e => e ▸ hc) (h w)
  have h4 : New4.tab.before a s = true := unparts (wk q3 (.code New4.yN New4.yB 6 none)) (wks q3 (.initialized New4.yN.cls :: New4.site))
  have q4 : ∀ w ∈ New4.tab :: words, w.before a s = true := fun w hw => (List.mem_cons.mp hw).elim (fun e => e ▸ h4) (h w)
  exact unparts (wk q4 (.code New1.yN New1.yB 2 none)) (wks q4 (.initialized New1.yN.cls :: New1.site))
/-- the words ride from the start Z to the walk's own state -/
theorem moved {Z s : State} {a0 args : Array Value} (hZ : Z.Warmed39 s.vm) (hw : ∀ d ∈ words, d.before a0 Z = true) : ∀ d ∈ words, d.before args s = true := fun d hd => by
  have q := hw d hd
  have t : ∀ d ∈ words, d = .arrayClass .byte ∨ (d.onTables && d.keepsFace) = true := by decide +kernel
  rcases t d hd with rfl | t
  · exact RoadKit.mvA hZ q
  · exact RoadKit.mv hZ q t
/-- WHAT COMES BACK, over the tables of the start Z: h the heap at the call, h' behind it -/
def Q (Z : State) (x : Addr) (A : Cell) (h : Heap) (v : Option Value) (h' : Heap) (L : List Loc) : Prop := v = none ∧ (∀ y ∈ L, y.base = x) ∧ RoadKit.Keep h h' [x] ∧ h'.size = h.size + 1 ∧ RoadKit.Exa Z h' x ST ∧ RoadKit.Fld Z h' x ST "value" "[B" (.ref h.size) ∧ RoadKit.Fld Z h' x ST "coder" "B" (.int 0) ∧
  (∃ V : Cell, RoadKit.Arr Z h' h.size V .byte ∧ V.vm = .none ∧ Z.vm.findClass "[B" = some V.cls ∧ V.slots.size = A.slots.size ∧ ∀ j, j < A.slots.size → V.slots[j]? = some (.int (lo8 (cv A j)))) ∧
  ∀ (O n d : String) (w : Value), RoadKit.Fld Z h x O n d w → RoadKit.slotOf Z O n d ≠ RoadKit.slotOf Z ST "value" "[B" → RoadKit.slotOf Z O n d ≠ RoadKit.slotOf Z ST "coder" "B" → RoadKit.Fld Z h' x O n d w
/-- **new String(chars) AT A CALL, IN THE ROAD'S FORM**: for specialBack behind newO: x the fresh String, b the char[] with the cell A -/
theorem back {p : Program} {l : Launch} {e : Env} {R : Room} {s : State} {args : Array Value} {below : List Frame} {len W : Nat} {Z : State} {a0 : Array Value} {h : Heap} (hZ : Z.Warmed39 s.vm) (hw : ∀ d ∈ words, d.before a0 Z = true) {kI : Nat} (wi : (Jvm.Cond.instantiable ST kI).before a0 Z = true)
    {x b : Addr} {A : Cell} {z : Int32} {v0 c0 : Value} (E : RoadKit.Exa Z h x ST) (V : RoadKit.Fld Z h x ST "value" "[B" v0) (C : RoadKit.Fld Z h x ST "coder" "B" c0) (K : RoadKit.Arr Z h b A .char) (hty : Typed .char A) (S : RoadKit.Sta Z h ST "COMPACT_STRINGS" "Z" (.int z)) (hz : ¬ z = 0)
    (l0 : 0 < A.slots.size) (l2 : A.slots.size ≤ 536870912) (hp : ∀ i, i < A.slots.size → ¬ 255 < cv A i) (hfr : 4 ≤ R.frames) (hlo : W + 65 ≤ R.locals) :
    Back l R p e below s args New1.yN len W (fun P a => a = #[.ref x, .ref b] ∧ P.U.heap = h ∧ P.cells + 1 ≤ R.cells ∧ P.slots + A.slots.size ≤ R.slots)
      (fun P _ v B => ∃ L, Q Z x A h v B.U.heap L ∧ B.locs = P.locs ++ L ∧ B.cells = P.cells + 1 ∧ B.slots = P.slots + A.slots.size) := by
  intro m meth c P g ig mk a X hg hsize hdg hW hn hp'
  obtain ⟨rfl, rfl, r1, r2⟩ := hp'
  have al : Z.vm.Alike P.U.vm := hZ.alike.trans X.warmed.alike
  obtain ⟨D, cfV, kV, iV, fV, hD, gV, stV, knV, obV, asV, slV⟩ := id V
  obtain ⟨D', cfC, kC, iC, fC, hD', gC, stC, -, -, asC, slC⟩ := id C
  cases hD.symm.trans hD'
  obtain ⟨D2, kD, e1, e2, e3, e4, e5⟩ := id E
  cases hD.symm.trans e1
  obtain ⟨c2, k2, i1, i2, i3, -⟩ := Cond.instantiable_spec wi
  cases e2.symm.trans i1
  cases e3.symm.trans i2
  obtain ⟨kU, u1, u2⟩ := al.2.2 _ _ e3
  have hB : Blank ST x D P.U := ⟨hD, ⟨knV, fun q hq => by rw [hq] at obV; cases obV⟩, by rw [al.findClass]; exact e2, kU, u1, by rw [u2]; exact i3, by rw [u2]; exact e5 i3⟩
  have F1 : Found ST "value" "[B" fV P.U := ⟨SBG.found_only al ⟨cfV, kV, iV, gV⟩, stV⟩
  have F2 : Found ST "coder" "B" fC P.U := ⟨SBG.found_only al ⟨cfC, kC, iC, gC⟩, stC⟩
  have hA : Ch b A P.U := ⟨⟨K.1, State.isArrayOf_alike al K.2.1, K.2.2, by omega⟩, hty⟩
  have hS : StaticIs P.U ST "COMPACT_STRINGS" "Z" (.int z) := by
    obtain ⟨cfS, iS, kS, fS, st, cS, t1, t2, t3, t4, t5, t6, t7⟩ := S
    exact StaticIs.there (s := { Z with heap := P.U.heap }) ⟨cfS, iS, kS, fS, st, cS, t1, t2, t3, t4, t5, (fun q => by rw [q] at t6; cases t6), t7⟩ al rfl
  obtain ⟨v, B, X', ⟨⟨hv, E', V', q1, q2, q3, q4, q5, q6, q7, q8, q9, q10, q11⟩, hl, hc, hs⟩, st⟩ := New1.pays x D fV fC b A z (tab_of (moved hZ hw)) hfr hlo m meth c P g ig mk _ X hg hsize hdg hW hn ⟨r1, r2, rfl, hB, F1, F2, hA, hS, hz, l0, l2, hp⟩
  have al' : Z.vm.Alike B.U.vm := hZ.alike.trans X'.warmed.alike
  have hsz : E'.slots.size = D.slots.size := by
    obtain ⟨-, -, -, kB, w1, w2, w3⟩ := q1
    obtain ⟨kB', y1, y2⟩ := al'.2.2 _ _ e3
    rw [q2.2.1] at w1
    cases w1.symm.trans y1
    rw [w3, e5 i3, y2]
  refine ⟨v, B, X', ⟨_, ⟨hv, ?_, ⟨by omega, fun y cy hy hn' => q10 y cy (by simpa using hn') hy, fun y cy hy => ?_⟩, q11, ⟨E', _, q1.1, by rw [q2.2.1]; exact e2, by rw [q2.2.1]; exact e3, by rw [q2.1]; exact obV, fun _ => by rw [hsz]; exact e5 i3⟩,
    ⟨E', cfV, kV, iV, fV, q1.1, gV, stV, by rw [q2.1]; exact knV, by rw [q2.1]; exact obV, by rw [q2.2.1]; exact asV, q3⟩, ⟨E', cfC, kC, iC, fC, q1.1, gC, stC, by rw [q2.1]; exact knV, by rw [q2.1]; exact obV, by rw [q2.2.1]; exact asC, q4⟩,
    ⟨V', ⟨q5.1, State.isArrayOf_alike al'.symm q5.2.1, q5.2.2.1⟩, q6, by rw [← al'.findClass]; exact q7, q8, fun j hj => by have := q9 j hj; rwa [Nat.zero_add] at this⟩, fun O n d w F n1 n2 => ?_⟩, hl, hc, hs⟩, st⟩
  · intro y hy
    simp only [List.mem_cons, List.not_mem_nil, or_false] at hy
    rcases hy with rfl | rfl <;> rfl
  · by_cases q : y = x
    · subst q
      cases hD.symm.trans hy
      exact ⟨E', q1.1, q2.2.1, q2.1, hsz⟩
    · exact ⟨cy, q10 y cy q hy, rfl, rfl, rfl⟩
  · obtain ⟨D3, cf, k, i, f, g1, g2, g3, g4, g5, g6, g7⟩ := F
    cases hD.symm.trans g1
    simp only [RoadKit.slotOf, g2, gV, gC, Option.map_some, Option.getD_some] at n1 n2
    exact ⟨E', cf, k, i, f, q1.1, g2, g3, by rw [q2.1]; exact g4, by rw [q2.1]; exact g5, by rw [q2.2.1]; exact g6, by rw [q2.2.2 f.slot (by simp [n1, n2])]; exact g7⟩
end StrChars.Road
namespace StrChars.Road
open Jvm Sem ClassFile Op Lib Jvm.Stand Jvm.Free Jvm.Free.XT
/-- WHAT COMES BACK, the byte[] as a list of values -/
def QA (Z : State) (x : Addr) (zn : Int32) (cs : List Int32) (h : Heap) (v : Option Value) (h' : Heap) (L : List Loc) : Prop := v = none ∧ (∀ y ∈ L, y.base = x) ∧ RoadKit.Keep h h' [x] ∧ h'.size = h.size + 1 ∧ RoadKit.Exa Z h' x ST ∧ RoadKit.Fld Z h' x ST "value" "[B" (.ref h.size) ∧ RoadKit.Fld Z h' x ST "coder" "B" (.int 0) ∧
  (∃ kb, Z.vm.findClass "[B" = some kb ∧ RoadKit.Arv Z h' h.size kb .byte zn (cs.map fun c => .int (lo8 c)) (.int 0)) ∧
  ∀ (O n d : String) (w : Value), RoadKit.Fld Z h x O n d w → RoadKit.slotOf Z O n d ≠ RoadKit.slotOf Z ST "value" "[B" → RoadKit.slotOf Z O n d ≠ RoadKit.slotOf Z ST "coder" "B" → RoadKit.Fld Z h' x O n d w
/-- **new String(chars) AT A CALL, THE ARRAYS AS LISTS**: the char[] at b holds cs, not empty, no char above 255 -/
theorem backArv {p : Program} {l : Launch} {e : Env} {R : Room} {s : State} {args : Array Value} {below : List Frame} {len W : Nat} {Z : State} {a0 : Array Value} {h : Heap} (hZ : Z.Warmed39 s.vm) (hw : ∀ d ∈ words, d.before a0 Z = true) {kI : Nat} (wi : (Jvm.Cond.instantiable ST kI).before a0 Z = true)
    {x b : Addr} {k : ClassId} {zn z : Int32} {cs : List Int32} {dv v0 c0 : Value} (E : RoadKit.Exa Z h x ST) (V : RoadKit.Fld Z h x ST "value" "[B" v0) (C : RoadKit.Fld Z h x ST "coder" "B" c0) (K : RoadKit.Arv Z h b k .char zn (cs.map Value.int) dv) (S : RoadKit.Sta Z h ST "COMPACT_STRINGS" "Z" (.int z)) (hz : ¬ z = 0)
    (hlen : zn.toNatClampNeg = cs.length) (h0 : 0 < cs.length) (hbig : cs.length ≤ 536870912) (hall : ∀ c ∈ cs, ¬ 255 < c) (hfr : 4 ≤ R.frames) (hlo : W + 65 ≤ R.locals) :
    Back l R p e below s args New1.yN len W (fun P a => a = #[.ref x, .ref b] ∧ P.U.heap = h ∧ P.cells + 1 ≤ R.cells ∧ P.slots + cs.length ≤ R.slots)
      (fun P _ v B => ∃ L, QA Z x zn cs h v B.U.heap L ∧ B.locs = P.locs ++ L ∧ B.cells = P.cells + 1 ∧ B.slots = P.slots + cs.length) := by
  obtain ⟨A, K1, K2, K3, K4, K5, K6⟩ := K
  have e : A.slots.size = cs.length := K3.trans hlen
  have hat : ∀ (i : Nat) (hi : i < cs.length), A.slots[i]? = some (.int cs[i]) := fun i hi => by rw [K5 i (by omega)]; simp [List.getD_eq_getElem?_getD, hi]
  have hcv : ∀ (i : Nat) (hi : i < cs.length), cv A i = cs[i] := fun i hi => by unfold cv; rw [hat i hi]
  have hty : Typed .char A := fun i v hv => by
    have hi : i < A.slots.size := (Array.getElem?_eq_some_iff.mp hv).1
    have q := K5 i hi
    rw [hv] at q
    rw [Option.some.inj q]
    exact K6 i hi
  refine Back.mono (back hZ hw wi E V C K1 hty S hz (by omega) (by omega) (fun i hi => by rw [hcv i (by omega)]; exact hall _ (List.getElem_mem _)) hfr hlo) (fun P a hp => ⟨hp.1, hp.2.1, hp.2.2.1, by rw [e]; exact hp.2.2.2⟩) (fun P a v B hp hq => ?_)
  obtain ⟨L, ⟨q1, q2, q3, q4, q5, q6, q7, ⟨V', v1, v2, v3, v4, v5⟩, q9⟩, hl, hc, hs⟩ := hq
  refine ⟨L, ⟨q1, q2, q3, q4, q5, q6, q7, ⟨V'.cls, v3, V', v1, rfl, by rw [v4, e, hlen], K4, fun i hi => ?_, fun i hi => ?_⟩, q9⟩, hl, hc, by rw [hs, e]⟩
  · have hi' : i < cs.length := by omega
    rw [v5 i (by omega), hcv i hi']; simp [List.getD_eq_getElem?_getD, hi']
  · have hi' : i < cs.length := by omega
    simp only [List.getD_eq_getElem?_getD, List.getElem?_map, List.getElem?_eq_getElem hi', Option.map_some, Option.getD_some]
    exact fits_lo8 _
end StrChars.Road
namespace StrChars.Road
open Jvm Sem ClassFile Op Lib Jvm.Stand Jvm.Free Jvm.Free.XT
/-- WHAT COMES BACK, in the writer's own shape -/
def QV (Z : State) (x : Addr) (N : Int32) (bs : List Int32) (h : Heap) (n0 : Nat) (v : Option Value) (h' : Heap) (L : List Loc) : Prop := v = none ∧ RoadKit.Fr n0 L ∧ RoadKit.Keep h h' [x] ∧ RoadKit.Exa Z h' x ST ∧ RoadKit.Fld Z h' x ST "coder" "B" (.int 0) ∧
  ∃ (t : Addr) (kb : ClassId), n0 ≤ t ∧ h.size ≤ t ∧ ¬ t = x ∧ RoadKit.Fld Z h' x ST "value" "[B" (.ref t) ∧ RoadKit.Arv Z h' t kb .byte N (bs.map Value.int) (.int 0)
/-- **new String(chars) AT A CALL, FOR THE WRITER**: a char[] of n known ints, each 0 to 255 -/
theorem backV {p : Program} {l : Launch} {e : Env} {R : Room} {s : State} {args : Array Value} {below : List Frame} {len W : Nat} {Z : State} {a0 : Array Value} {h : Heap} (hZ : Z.Warmed39 s.vm) (hw : ∀ d ∈ words, d.before a0 Z = true) {kI : Nat} (wi : (Jvm.Cond.instantiable ST kI).before a0 Z = true)
    {x b : Addr} {kC : ClassId} {cs bs : List Int32} {d v0 c0 : Value} {z N : Int32} {n n0 : Nat} (hx0 : n0 ≤ x) (hh0 : n0 ≤ h.size) (E : RoadKit.Exa Z h x ST) (V : RoadKit.Fld Z h x ST "value" "[B" v0) (C : RoadKit.Fld Z h x ST "coder" "B" c0) (K : RoadKit.Arv Z h b kC .char N (cs.map Value.int) d) (S : RoadKit.Sta Z h ST "COMPACT_STRINGS" "Z" (.int z)) (hz : ¬ z = 0)
    (hn : cs.length = n) (hN : N = Int32.ofNat n) (l0 : 0 < n) (l2 : n ≤ 4000) (hp : ∀ c ∈ cs, ¬ c < 0 ∧ ¬ (255 : Int32) < c) (hb : bs = cs.map (fun c => c.toInt8.toInt32)) (hfr : 4 ≤ R.frames) (hlo : W + 65 ≤ R.locals) :
    Back l R p e below s args (⟨"java/lang/String", "<init>", "([C)V"⟩ : MethodName) len W (fun P a => a = #[.ref x, .ref b] ∧ P.U.heap = h ∧ P.cells + 1 ≤ R.cells ∧ P.slots + n ≤ R.slots)
      (fun P _ v B => ∃ L, QV Z x N bs h n0 v B.U.heap L ∧ B.locs = P.locs ++ L ∧ B.cells = P.cells + 1 ∧ B.slots = P.slots + n) := by
  subst hn hN hb
  refine Back.mono (backArv hZ hw wi E V C K S hz (n32 (by omega)) l0 (by omega) (fun c hc => (hp c hc).2) hfr hlo) (fun P a hp => hp) (fun P a v B hp hq => ?_)
  obtain ⟨L, ⟨q1, q2, q3, q4, q5, q6, q7, ⟨kb, v1, v2⟩, q9⟩, hl, hc, hs⟩ := hq
  exact ⟨L, ⟨q1, fun y hy => by rw [q2 y hy]; exact hx0, q3, q5, q7, h.size, kb, hh0, Nat.le_refl _, Nat.ne_of_gt E.lt, q6, by rw [List.map_map]; exact v2⟩, hl, hc, hs⟩
end StrChars.Road
namespace StrChars
open Jvm Sem ClassFile Op Lib Jvm.Stand Jvm.Free.XT Jvm.Free.ALB Jvm.Free.JM Jvm.Free
open Jvm.Lib.Cold (StaticIs)
def hi8 (x : Int32) : Int32 := lo8 (x >>> ((8 : Int32) &&& 31))
/-- what StringUTF16.getChar makes of two bytes -/
def pairCh (u v : Int32) : Int32 := (((u &&& 255) <<< ((0 : Int32) &&& 31)) ||| ((v &&& 255) <<< ((8 : Int32) &&& 31))).toUInt32.toUInt16.toUInt32.toInt32
theorem shr0 (c : Int32) : c >>> ((0 : Int32) &&& 31) = c := by
  have e : ((0 : Int32) &&& 31) = 0 := by decide
  rw [e]
  apply Int32.toBitVec_inj.mp
  rw [Int32.toBitVec_shiftRight]
  have e1 : ((0 : Int32).toBitVec.smod 32) = 0#32 := by decide
  rw [e1, BitVec.sshiftRight_eq']
  exact BitVec.sshiftRight_zero
theorem lo8_and (x : Int32) : (lo8 x &&& 255).toBitVec.toNat = x.toBitVec.toNat % 256 := by
  have h : (lo8 x).toBitVec = (x.toBitVec.signExtend 8).signExtend 32 := by rw [lo8, Int8.toBitVec_toInt32, Int32.toBitVec_toInt8]
  rw [Int32.toBitVec_and, BitVec.toNat_and, h]
  have e : ((x.toBitVec.signExtend 8).signExtend 32).toNat % 256 = x.toBitVec.toNat % 256 := by
    rw [BitVec.toNat_signExtend]
    have hlt := x.toBitVec.isLt
    simp only [BitVec.toNat_setWidth, BitVec.toNat_signExtend]
    split <;> split <;> omega
  rw [← e]
  exact Nat.and_two_pow_sub_one_eq_mod _ 8
theorem pair_says {c : Int32} (h0 : ¬ c < 0) (h1 : ¬ 65535 < c) : pairCh (lo8 c) (hi8 c) = c := by
  rw [Int32.lt_iff_toInt_lt] at h0 h1
  have e0 : (0 : Int32).toInt = 0 := rfl
  have e1 : (65535 : Int32).toInt = 65535 := rfl
  have hc : c.toInt = c.toBitVec.toNat := by
    have := c.toBitVec.isLt
    have e : c.toInt = c.toBitVec.toInt := rfl
    rw [e] at h0 h1
    rw [e]
    rw [BitVec.toInt_eq_toNat_cond] at h0 h1 ⊢
    split at h0 <;> split <;> omega
  have hn : c.toBitVec.toNat < 65536 := by omega
  have a1 := lo8_and c
  have a2 : (hi8 c &&& 255).toBitVec.toNat = c.toBitVec.toNat / 256 := by
    rw [hi8, lo8_and]
    have e : ((8 : Int32) &&& 31) = 8 := by decide
    rw [e, Int32.toBitVec_shiftRight]
    have e2 : ((8 : Int32).toBitVec.smod 32) = 8#32 := by decide
    rw [e2, BitVec.sshiftRight_eq', BitVec.toNat_sshiftRight_of_msb_false (by rw [BitVec.msb_eq_false_iff_two_mul_lt]; omega)]
    show c.toBitVec.toNat >>> 8 % 256 = _
    rw [Nat.shiftRight_eq_div_pow]
    omega
  unfold pairCh
  apply Int32.toBitVec_inj.mp
  apply BitVec.eq_of_toNat_eq
  have f0 : ((0 : Int32) &&& 31) = 0 := by decide
  have f8 : ((8 : Int32) &&& 31) = 8 := by decide
  rw [f0, f8]
  have g : (((lo8 c &&& 255) <<< (0 : Int32)) ||| ((hi8 c &&& 255) <<< (8 : Int32))).toBitVec.toNat = c.toBitVec.toNat := by
    rw [Int32.toBitVec_or, Int32.toBitVec_shiftLeft, Int32.toBitVec_shiftLeft]
    have s0 : ((0 : Int32).toBitVec.smod 32) = 0#32 := by decide
    have s8 : ((8 : Int32).toBitVec.smod 32) = 8#32 := by decide
    rw [s0, s8, BitVec.toNat_or]
    simp only [BitVec.shiftLeft_eq', BitVec.toNat_shiftLeft, a1, a2]
    show (c.toBitVec.toNat % 256) <<< 0 % 2 ^ 32 ||| (c.toBitVec.toNat / 256) <<< 8 % 2 ^ 32 = _
    rw [Nat.shiftLeft_zero, Nat.mod_eq_of_lt (show c.toBitVec.toNat % 256 < 2 ^ 32 by omega), Nat.mod_eq_of_lt (show (c.toBitVec.toNat / 256) <<< 8 < 2 ^ 32 by rw [Nat.shiftLeft_eq]; omega), Nat.or_comm, ← Nat.shiftLeft_add_eq_or_of_lt (by omega), Nat.shiftLeft_eq]
    omega
  show BitVec.toNat (((((lo8 c &&& 255) <<< (0 : Int32)) ||| ((hi8 c &&& 255) <<< (8 : Int32))).toBitVec.setWidth 16).setWidth 32) = _
  rw [BitVec.toNat_setWidth, BitVec.toNat_setWidth, g]
  omega
end StrChars
namespace StrChars
open Jvm Sem ClassFile Op Lib Jvm.Stand Jvm.Free.XT Jvm.Free.ALB Jvm.Free.JM Jvm.Free
open Jvm.Lib.Cold (StaticIs)
theorem shr1 {n : Nat} (h : 2 * n < 2 ^ 31) : Int32.ofNat (2 * n) >>> ((1 : Int32) &&& 31) = Int32.ofNat n := by
  have e : ((1 : Int32) &&& 31) = 1 := by decide
  rw [e]
  apply Int32.toBitVec_inj.mp
  rw [Int32.toBitVec_shiftRight]
  have e1 : ((1 : Int32).toBitVec.smod 32) = 1#32 := by decide
  have hm : (BitVec.ofNat 32 (2 * n)).toNat = 2 * n := by rw [BitVec.toNat_ofNat, Nat.mod_eq_of_lt (by omega)]
  rw [e1, BitVec.sshiftRight_eq']
  apply BitVec.eq_of_toNat_eq
  show ((BitVec.ofNat 32 (2 * n)).sshiftRight 1).toNat = (BitVec.ofNat 32 n).toNat
  rw [BitVec.toNat_sshiftRight_of_msb_false (by rw [BitVec.msb_eq_false_iff_two_mul_lt, hm]; omega), hm, BitVec.toNat_ofNat, Nat.shiftRight_eq_div_pow]
  omega
/-- charAt's cast of a byte read back -/
def chr8 (u : Int32) : Int32 := (u &&& 255).toUInt32.toUInt16.toUInt32.toInt32
theorem chr8_lo8 {c : Int32} (h0 : ¬ c < 0) (h1 : ¬ 255 < c) : chr8 (lo8 c) = c := by
  have t : ∀ k : Fin 256, (Int32.ofNat k.val).toUInt32.toUInt16.toUInt32.toInt32 = Int32.ofNat k.val := by decide +kernel
  unfold chr8
  rw [lo8_mask h0 h1]
  rw [Int32.lt_iff_toInt_lt] at h0 h1
  have e0 : (0 : Int32).toInt = 0 := rfl
  have e1 : (255 : Int32).toInt = 255 := rfl
  obtain ⟨k, hk⟩ : ∃ k : Nat, c.toInt = k := ⟨c.toInt.toNat, by omega⟩
  have hx : c = Int32.ofNat k := Int32.toInt_inj.mp (by rw [hk, Int32.toInt_ofNat_small (by omega)])
  rw [hx]
  exact t ⟨k, by omega⟩
theorem narrow_ch {c : Int32} (h0 : ¬ c < 0) (h1 : ¬ 65535 < c) : narrow .char (.int c) = .int c := by
  have q : narrow .char (.int (pairCh (lo8 c) (hi8 c))) = .int (pairCh (lo8 c) (hi8 c)) := narrow_c _
  rwa [pair_says h0 h1] at q
/-- the array's cell V codes the n chars f 0 .. f (n - 1) by the coder cd, as the JDK does: coder 1 just where some char is above 255 -/
def Cod (cd : Int32) (n : Nat) (f : Nat → Int32) (V : Cell) : Prop := (cd = 0 ∧ V.slots.size = n ∧ ∀ j, j < n → V.slots[j]? = some (.int (lo8 (f j))) ∧ ¬ 255 < f j) ∨ (cd = 1 ∧ V.slots.size = 2 * n ∧ (∀ j, j < n → V.slots[2 * j]? = some (.int (lo8 (f j))) ∧ V.slots[2 * j + 1]? = some (.int (hi8 (f j)))) ∧ ∃ j, j < n ∧ 255 < f j)
theorem Cod.cd {cd : Int32} {n : Nat} {f : Nat → Int32} {V : Cell} (h : Cod cd n f V) : cd = 0 ∨ cd = 1 := h.imp (fun q => q.1) fun q => q.1
theorem Cod.len {cd : Int32} {n : Nat} {f : Nat → Int32} {V : Cell} (h : Cod cd n f V) (hs : V.slots.size < 2 ^ 31) : Int32.ofNat V.slots.size >>> (cd &&& 31) = Int32.ofNat n := by
  rcases h with ⟨rfl, h, -⟩ | ⟨rfl, h, -⟩
  · rw [shr0, h]
  · rw [h, shr1 (by omega)]
/-- **x is a String of the n chars f 0 .. f (n - 1)**, Latin-1 or UTF-16; its array at t has the cell V -/
def Txt (x t : Addr) (V : Cell) (cd : Int32) (n : Nat) (f : Nat → Int32) (U : State) : Prop := Exact "java/lang/String" x U ∧ Has x "java/lang/String" "value" "[B" (.ref t) U ∧ Has x "java/lang/String" "coder" "B" (.int cd) U ∧ XT.Arr .byte t V U ∧ Cod cd n f V ∧ ∀ j, j < n → ¬ f j < 0 ∧ ¬ 65535 < f j
theorem Txt.mv {x t : Addr} {V : Cell} {cd : Int32} {n : Nat} {f : Nat → Int32} {U U' : State} (h : Txt x t V cd n f U) (hal : U.vm.Alike U'.vm) (hh : U'.heap = U.heap) : Txt x t V cd n f U' := ⟨h.1.mv hal hh, h.2.1.mv hal hh, h.2.2.1.mv hal hh, h.2.2.2.1.mv hal hh, h.2.2.2.2⟩
namespace Cdr
def yN : MethodName := ⟨"java/lang/String", "coder", "()B"⟩
abbrev yB : ByteArray := jdk_42_method_152_code
theorem d0 : decode yB 0 = .ok (.getstatic 38, 3) := by decide +kernel
theorem d3 : decode yB 3 = .ok (.ifCond (.eq) 10, 3) := by decide +kernel
theorem d6 : decode yB 6 = .ok (.aload_n 0, 1) := by decide +kernel
theorem d7 : decode yB 7 = .ok (.getfield 15, 3) := by decide +kernel
theorem d10 : decode yB 10 = .ok (.goto 4, 3) := by decide +kernel
theorem d14 : decode yB 14 = .ok (.ireturn, 1) := by decide +kernel
def site : List Cond := [.fieldLink "java/lang/String" 38 "java/lang/String" "COMPACT_STRINGS" "Z", .fieldLink "java/lang/String" 15 "java/lang/String" "coder" "B"]
def tab : Cond := tabOf yN yB 1 (some .byte) site
def P (x : Addr) (cd z : Int32) (args : Array Value) (s : State) : Prop := args = #[.ref x] ∧ Has x "java/lang/String" "coder" "B" (.int cd) s ∧ (cd = 0 ∨ cd = 1) ∧ StaticIs s "java/lang/String" "COMPACT_STRINGS" "Z" (.int z) ∧ ¬ z = 0
def E (cd : Int32) (r : Option Value) (s u : State) : Prop := XT.PureE (some (.int cd)) r s u
theorem law (l : Launch) (x : Addr) (cd z : Int32) : Law l yN 1 0 0 0 yB 1 (some .byte) site (P x cd z) (E cd) [] 0 0 := by
  refine Law.of_walk (plainFor_of_name (by decide +kernel)) (by decide +kernel) (by decide +kernel) (by decide) (fun _ _ h => by rw [h.1]; rfl) (fun _ U U' hal hh h => ⟨h.1, h.2.1.mv hal hh, h.2.2.1, h.2.2.2.1.there hal hh, h.2.2.2.2⟩) (fun r U U' V V' h1 hal h2 h => XT.PureE.mv r U U' V V' h1 hal h2 h) ?_
  intro p e s m args below meth c s₁ X0 hexec hbytes hml hret hlk hnm hown hh0 W hP
  obtain ⟨rfl, hx, hc, s1, hz⟩ := hP
  have c1 : Steps p.tables e below (s₁.setTop (entryFrame m #[.ref x] 1)) (s₁.setTop (mkF m 0 #[.val (.ref x)] [])) := entry rfl
  obtain ⟨T2, X2, q2, st2⟩ := X0.sget hexec hown (wk W (.fieldLink "java/lang/String" 38 "java/lang/String" "COMPACT_STRINGS" "Z")) s1 (fun _ _ h => by rw [hh0]; exact h) (g := (mkF m 0 #[.val (.ref x)] [])) rfl (hb hbytes d0)
  have hh2 := q2.trans hh0
  have c3 : Steps p.tables e below (s₁.setTop (entryFrame m #[.ref x] 1)) (T2.setTop (mkF m 7 #[.val (.ref x)] [.ref x])) := (c1.trans (st2 _ (Steps.refl _))).trans (by
    refine XS.ifNo X2.here hexec rfl (hb hbytes d3) rfl (i0_eq_f hz) ?_
    refine XS.aloadN X2.here hexec rfl (hb hbytes d6) rfl rfl ?_
    exact Steps.refl _)
  obtain ⟨T4, X4, q4, st4⟩ := X2.hget hexec hown (wk W (.fieldLink "java/lang/String" 15 "java/lang/String" "coder" "B")) (hx.mv X2.warmed.alike hh2) (g := (mkF m 7 #[.val (.ref x)] [.ref x])) rfl (rest := []) rfl (hb hbytes d7)
  have c5 : Steps p.tables e below (s₁.setTop (entryFrame m #[.ref x] 1)) (T4.setTop (mkF m 14 #[.val (.ref x)] [.int cd])) := (c3.trans (st4 _ (Steps.refl _))).trans (by
    refine XS.goto X4.here hexec rfl (pc0 := 10) rfl (hb hbytes d10) (by decide) rfl ?_
    exact Steps.refl _)
  exact ⟨T4, some (.int cd), _, _, _, X4, rfl, rfl, rfl, (fun h => by cases h), ⟨rfl, q4.trans hh2⟩, fun fs hl => c5.trans (X4.ireturnOut hexec hret (by rcases hc with rfl | rfl <;> rfl) (Or.inr (Or.inr (Or.inl rfl))) (hb hbytes d14) hl)⟩
end Cdr
namespace Len
def yN : MethodName := ⟨"java/lang/String", "length", "()I"⟩
abbrev yB : ByteArray := jdk_42_method_54_code
theorem d0 : decode yB 0 = .ok (.aload_n 0, 1) := by decide +kernel
theorem d1 : decode yB 1 = .ok (.getfield 9, 3) := by decide +kernel
theorem d4 : decode yB 4 = .ok (.arraylength, 1) := by decide +kernel
theorem d5 : decode yB 5 = .ok (.aload_n 0, 1) := by decide +kernel
theorem d6 : decode yB 6 = .ok (.invokevirtual 335, 3) := by decide +kernel
theorem d9 : decode yB 9 = .ok (.ishr, 1) := by decide +kernel
theorem d10 : decode yB 10 = .ok (.ireturn, 1) := by decide +kernel
def site : List Cond := [.fieldLink "java/lang/String" 9 "java/lang/String" "value" "[B", Cdr.tab] ++ virtW "java/lang/String" 335 "java/lang/String" Cdr.yN Cdr.yN
def tab : Cond := tabOf yN yB 1 (some .int) site
def P (x t : Addr) (V : Cell) (cd : Int32) (n : Nat) (f : Nat → Int32) (z : Int32) (args : Array Value) (s : State) : Prop := args = #[.ref x] ∧ Txt x t V cd n f s ∧ StaticIs s "java/lang/String" "COMPACT_STRINGS" "Z" (.int z) ∧ ¬ z = 0
def E (n : Nat) (r : Option Value) (s u : State) : Prop := XT.PureE (some (.int (Int32.ofNat n))) r s u
/-- length() of a String of n chars, in either coding -/
theorem law (l : Launch) (x t : Addr) (V : Cell) (cd : Int32) (n : Nat) (f : Nat → Int32) (z : Int32) : Law l yN 1 0 1 13 yB 1 (some .int) site (P x t V cd n f z) (E n) [] 0 0 := by
  refine Law.of_walk (plainFor_of_name (by decide +kernel)) (by decide +kernel) (by decide +kernel) (by decide) (fun _ _ h => by rw [h.1]; rfl) (fun _ U U' hal hh h => ⟨h.1, h.2.1.mv hal hh, h.2.2.1.there hal hh, h.2.2.2⟩) (fun r U U' V V' h1 hal h2 h => XT.PureE.mv r U U' V V' h1 hal h2 h) ?_
  intro p e s m args below meth c s₁ X0 hexec hbytes hml hret hlk hnm hown hh0 W hP
  obtain ⟨rfl, hx, s1, hz⟩ := hP
  have v31 := hx.2.2.2.1.2.2.2
  have c1 : Steps p.tables e below (s₁.setTop (entryFrame m #[.ref x] 1)) (s₁.setTop (mkF m 1 #[.val (.ref x)] [.ref x])) := Steps.trans (entry rfl) (by
    show Steps p.tables e below (s₁.setTop (mkF m 0 #[.val (.ref x)] [])) _
    refine XS.aloadN X0.here hexec rfl (hb hbytes d0) rfl rfl ?_
    exact Steps.refl _)
  obtain ⟨T2, X2, q2, st2⟩ := X0.hget hexec hown (wk W (.fieldLink "java/lang/String" 9 "java/lang/String" "value" "[B")) (hx.mv X0.warmed.alike hh0).2.1 (g := (mkF m 1 #[.val (.ref x)] [.ref x])) rfl (rest := []) rfl (hb hbytes d1)
  have hh2 := q2.trans hh0
  have hx2 := hx.mv X2.warmed.alike hh2
  have c3 : Steps p.tables e below (s₁.setTop (entryFrame m #[.ref x] 1)) (T2.setTop (mkF m 6 #[.val (.ref x)] [.ref x, .int (Int32.ofNat V.slots.size)])) := (c1.trans (st2 _ (Steps.refl _))).trans (by
    refine X2.alen hexec hx2.2.2.2.1 rfl rfl (hb hbytes d4) ?_
    refine XS.aloadN X2.here hexec rfl (hb hbytes d5) rfl rfl ?_
    exact Steps.refl _)
  obtain ⟨v4, T4, X4, E4, g4⟩ := X2.callV hexec (Cdr.law l x cd z) hown (wks W (virtW "java/lang/String" 335 "java/lang/String" Cdr.yN Cdr.yN)) rfl (by decide) (wk W Cdr.tab) (W := 1) (Nat.le_of_ble_eq_true rfl) (Nat.le_of_ble_eq_true rfl) (Nat.le_refl _) (Nat.le_refl _) (hx2.1.fc X2.warmed.alike) hx2.1.is (g := (mkF m 6 #[.val (.ref x)] [.ref x, .int (Int32.ofNat V.slots.size)])) rfl (by rw [hml]; rfl) c3 (argsL := []) (rest := [.int (Int32.ofNat V.slots.size)]) rfl rfl (by show 2 * 0 + (1 + 0) ≤ _; decide) (hb hbytes d6) (⟨rfl, hx2.2.2.1, hx.2.2.2.2.1.cd, s1.there X2.warmed.alike hh2, hz⟩)
  obtain ⟨rfl, q4⟩ := E4
  have c5 : Steps p.tables e below (s₁.setTop (entryFrame m #[.ref x] 1)) (T4.setTop (mkF m 10 #[.val (.ref x)] [.int (Int32.ofNat V.slots.size >>> (cd &&& 31))])) := Steps.trans g4 (by
    refine ishr X4.here hexec rfl (hb hbytes d9) rfl ?_
    exact Steps.refl _)
  rw [hx.2.2.2.2.1.len v31] at c5
  exact ⟨T4, some (.int (Int32.ofNat n)), _, _, _, X4, rfl, rfl, rfl, (fun h => by cases h), ⟨rfl, q4.trans hh2⟩, fun fs hl => c5.trans (X4.ireturnOut hexec hret rfl (Or.inl rfl) (hb hbytes d10) hl)⟩
theorem pays {l : Launch} {R : Room} {p : Program} {e : Env} {below : List Frame} {s : State} {sargs : Array Value} {len W : Nat} (x t : Addr) (V : Cell) (cd : Int32) (n : Nat) (f : Nat → Int32) (z : Int32) (htab : tab.before sargs s = true) (hfr : 2 ≤ R.frames) (hlo : W + 25 ≤ R.locals) :
    Back l R p e below s sargs yN len W (fun A₁ a₁ => A₁.cells + 0 ≤ R.cells ∧ A₁.slots + 0 ≤ R.slots ∧ P x t V cd n f z a₁ A₁.U) (fun A₁ _ v₁ B₁ => E n v₁ A₁.U B₁.U ∧ B₁.locs = A₁.locs ++ [] ∧ B₁.cells = A₁.cells + 0 ∧ B₁.slots = A₁.slots + 0) :=
  (law l x t V cd n f z).pays htab hfr (by omega)
end Len
namespace IsL
def yN : MethodName := ⟨"java/lang/String", "isLatin1", "()Z"⟩
abbrev yB : ByteArray := jdk_42_method_154_code
theorem d0 : decode yB 0 = .ok (.getstatic 38, 3) := by decide +kernel
theorem d3 : decode yB 3 = .ok (.ifCond (.eq) 14, 3) := by decide +kernel
theorem d6 : decode yB 6 = .ok (.aload_n 0, 1) := by decide +kernel
theorem d7 : decode yB 7 = .ok (.getfield 15, 3) := by decide +kernel
theorem d10 : decode yB 10 = .ok (.ifCond (.ne) 7, 3) := by decide +kernel
theorem d13 : decode yB 13 = .ok (.iconst 1, 1) := by decide +kernel
theorem d14 : decode yB 14 = .ok (.goto 4, 3) := by decide +kernel
theorem d17 : decode yB 17 = .ok (.iconst 0, 1) := by decide +kernel
theorem d18 : decode yB 18 = .ok (.ireturn, 1) := by decide +kernel
def site : List Cond := [.fieldLink "java/lang/String" 38 "java/lang/String" "COMPACT_STRINGS" "Z", .fieldLink "java/lang/String" 15 "java/lang/String" "coder" "B"]
def tab : Cond := tabOf yN yB 1 (some .boolean) site
def P (x : Addr) (cd z : Int32) (args : Array Value) (s : State) : Prop := args = #[.ref x] ∧ Has x "java/lang/String" "coder" "B" (.int cd) s ∧ (cd = 0 ∨ cd = 1) ∧ StaticIs s "java/lang/String" "COMPACT_STRINGS" "Z" (.int z) ∧ ¬ z = 0
def E (cd : Int32) (r : Option Value) (s u : State) : Prop := XT.PureE (some (.int (1 - cd))) r s u
theorem law (l : Launch) (x : Addr) (cd z : Int32) : Law l yN 1 0 0 0 yB 1 (some .boolean) site (P x cd z) (E cd) [] 0 0 := by
  refine Law.of_walk (plainFor_of_name (by decide +kernel)) (by decide +kernel) (by decide +kernel) (by decide) (fun _ _ h => by rw [h.1]; rfl) (fun _ U U' hal hh h => ⟨h.1, h.2.1.mv hal hh, h.2.2.1, h.2.2.2.1.there hal hh, h.2.2.2.2⟩) (fun r U U' V V' h1 hal h2 h => XT.PureE.mv r U U' V V' h1 hal h2 h) ?_
  intro p e s m args below meth c s₁ X0 hexec hbytes hml hret hlk hnm hown hh0 W hP
  obtain ⟨rfl, hx, hc, s1, hz⟩ := hP
  have c1 : Steps p.tables e below (s₁.setTop (entryFrame m #[.ref x] 1)) (s₁.setTop (mkF m 0 #[.val (.ref x)] [])) := entry rfl
  obtain ⟨T2, X2, q2, st2⟩ := X0.sget hexec hown (wk W (.fieldLink "java/lang/String" 38 "java/lang/String" "COMPACT_STRINGS" "Z")) s1 (fun _ _ h => by rw [hh0]; exact h) (g := (mkF m 0 #[.val (.ref x)] [])) rfl (hb hbytes d0)
  have hh2 := q2.trans hh0
  have c3 : Steps p.tables e below (s₁.setTop (entryFrame m #[.ref x] 1)) (T2.setTop (mkF m 7 #[.val (.ref x)] [.ref x])) := (c1.trans (st2 _ (Steps.refl _))).trans (by
    refine XS.ifNo X2.here hexec rfl (hb hbytes d3) rfl (i0_eq_f hz) ?_
    refine XS.aloadN X2.here hexec rfl (hb hbytes d6) rfl rfl ?_
    exact Steps.refl _)
  obtain ⟨T4, X4, q4, st4⟩ := X2.hget hexec hown (wk W (.fieldLink "java/lang/String" 15 "java/lang/String" "coder" "B")) (hx.mv X2.warmed.alike hh2) (g := (mkF m 7 #[.val (.ref x)] [.ref x])) rfl (rest := []) rfl (hb hbytes d7)
  have c5 : Steps p.tables e below (s₁.setTop (entryFrame m #[.ref x] 1)) (T4.setTop (mkF m 10 #[.val (.ref x)] [.int cd])) := c3.trans (st4 _ (Steps.refl _))
  have c6 : Steps p.tables e below (s₁.setTop (entryFrame m #[.ref x] 1)) (T4.setTop (mkF m 18 #[.val (.ref x)] [.int (1 - cd)])) := by
    rcases hc with rfl | rfl
    · exact c5.trans (by
        refine XS.ifNo X4.here hexec rfl (hb hbytes d10) rfl (i0_ne_f rfl) ?_
        refine iconstV X4.here hexec rfl 1 (hb hbytes d13) (by decide) ?_
        refine XS.goto X4.here hexec rfl (pc0 := 14) rfl (hb hbytes d14) (by decide) rfl ?_
        exact Steps.refl _)
    · exact c5.trans (by
        refine XS.ifYes X4.here hexec rfl (pc0 := 10) rfl (hb hbytes d10) rfl (i0_ne_t (by decide)) (by decide) rfl ?_
        refine iconstV X4.here hexec rfl 0 (hb hbytes d17) (by decide) ?_
        exact Steps.refl _)
  exact ⟨T4, some (.int (1 - cd)), _, _, _, X4, rfl, rfl, rfl, (fun h => by cases h), ⟨rfl, q4.trans hh2⟩, fun fs hl => c6.trans (X4.ireturnOut hexec hret (by rcases hc with rfl | rfl <;> rfl) (Or.inr (Or.inl rfl)) (hb hbytes d18) hl)⟩
end IsL
namespace LChA
def yN : MethodName := ⟨"java/lang/StringLatin1", "charAt", "([BI)C"⟩
abbrev yB : ByteArray := jdk_43_method_2_code
theorem d0 : decode yB 0 = .ok (.iload_n 1, 1) := by decide +kernel
theorem d1 : decode yB 1 = .ok (.aload_n 0, 1) := by decide +kernel
theorem d2 : decode yB 2 = .ok (.arraylength, 1) := by decide +kernel
theorem d3 : decode yB 3 = .ok (.invokestatic 9, 3) := by decide +kernel
theorem d6 : decode yB 6 = .ok (.aload_n 0, 1) := by decide +kernel
theorem d7 : decode yB 7 = .ok (.iload_n 1, 1) := by decide +kernel
theorem d8 : decode yB 8 = .ok (.baload, 1) := by decide +kernel
theorem d9 : decode yB 9 = .ok (.sipush 255, 3) := by decide +kernel
theorem d12 : decode yB 12 = .ok (.iand, 1) := by decide +kernel
theorem d13 : decode yB 13 = .ok (.i2c, 1) := by decide +kernel
theorem d14 : decode yB 14 = .ok (.ireturn, 1) := by decide +kernel
def site : List Cond := [JO.Str_checkIndex.tab] ++ staticW "java/lang/StringLatin1" 9 JO.Str_checkIndex.yN
def tab : Cond := tabOf yN yB 2 (some .char) site
def P (t : Addr) (V : Cell) (i : Nat) (u : Int32) (fm : Value) (args : Array Value) (s : State) : Prop := args = #[.ref t, .int (Int32.ofNat i)] ∧ XT.Arr .byte t V s ∧ V.slots[i]? = some (.int u) ∧ (StaticIs s "jdk/internal/util/Preconditions" "SIOOBE_FORMATTER" "Ljava/util/function/BiFunction;" fm ∧ fm.isRef = true)
def E (u : Int32) (r : Option Value) (s w : State) : Prop := XT.PureE (some (.int (chr8 u))) r s w
theorem law (l : Launch) (t : Addr) (V : Cell) (i : Nat) (u : Int32) (fm : Value) : Law l yN 2 2 2 27 yB 2 (some .char) site (P t V i u fm) (E u) [] 0 0 := by
  refine Law.of_walk (plainFor_of_name (by decide +kernel)) (by decide +kernel) (by decide +kernel) (by decide) (fun _ _ h => by rw [h.1]; rfl) (fun _ U U' hal hh h => ⟨h.1, h.2.1.mv hal hh, h.2.2.1, h.2.2.2.1.there hal hh, h.2.2.2.2⟩) (fun r U U' V V' h1 hal h2 h => XT.PureE.mv r U U' V V' h1 hal h2 h) ?_
  intro p e s m args below meth c s₁ X0 hexec hbytes hml hret hlk hnm hown hh0 W hP
  obtain ⟨rfl, hV, hu, s1, rf⟩ := hP
  have v31 := hV.2.2.2
  have hi : i < V.slots.size := (Array.getElem?_eq_some_iff.mp hu).1
  have c1 : Steps p.tables e below (s₁.setTop (entryFrame m #[.ref t, .int (Int32.ofNat i)] 2)) (s₁.setTop (mkF m 0 #[.val (.ref t), .val (.int (Int32.ofNat i))] [])) := entry rfl
  have c2 : Steps p.tables e below (s₁.setTop (entryFrame m #[.ref t, .int (Int32.ofNat i)] 2)) (s₁.setTop (mkF m 3 #[.val (.ref t), .val (.int (Int32.ofNat i))] [.int (Int32.ofNat V.slots.size), .int (Int32.ofNat i)])) := c1.trans (by
    refine XS.iloadN X0.here hexec rfl (hb hbytes d0) rfl ?_
    refine XS.aloadN X0.here hexec rfl (hb hbytes d1) rfl rfl ?_
    refine X0.alen hexec (hV.mv X0.warmed.alike hh0) rfl rfl (hb hbytes d2) ?_
    exact Steps.refl _)
  obtain ⟨v3, T3, X3, E3, g3⟩ := X0.callS hexec (JO.Str_checkIndex.law l (Int32.ofNat i) (Int32.ofNat V.slots.size) fm) hown (wks W (staticW "java/lang/StringLatin1" 9 JO.Str_checkIndex.yN)) (wk W JO.Str_checkIndex.tab) (W := 0) (Nat.le_of_ble_eq_true rfl) (Nat.le_of_ble_eq_true rfl) (Nat.le_refl _) (Nat.le_refl _) (g := (mkF m 3 #[.val (.ref t), .val (.int (Int32.ofNat i))] [.int (Int32.ofNat V.slots.size), .int (Int32.ofNat i)])) rfl (by rw [hml]; rfl) c2 (argsL := [.int (Int32.ofNat i), .int (Int32.ofNat V.slots.size)]) (rest := []) rfl rfl (by show 2 * 0 + 0 ≤ _; decide) (hb hbytes d3) (⟨rfl, rf, s1.there X0.warmed.alike hh0, Int32.ofNat_not_neg (by omega), lt32 v31 hi⟩)
  obtain ⟨rfl, q3⟩ := E3
  have hh3 := q3.trans hh0
  have c4 : Steps p.tables e below (s₁.setTop (entryFrame m #[.ref t, .int (Int32.ofNat i)] 2)) (T3.setTop (mkF m 14 #[.val (.ref t), .val (.int (Int32.ofNat i))] [.int (chr8 u)])) := Steps.trans g3 (by
    refine XS.aloadN X3.here hexec rfl (hb hbytes d6) rfl rfl ?_
    refine XS.iloadN X3.here hexec rfl (hb hbytes d7) rfl ?_
    refine X3.aget hexec (hV.mv X3.warmed.alike hh3) rfl hu rfl rfl (hb hbytes d8) ?_
    refine sipushV X3.here hexec rfl 255 (hb hbytes d9) (by decide) ?_
    refine XS.iand X3.here hexec rfl (hb hbytes d12) rfl ?_
    refine i2c X3.here hexec rfl (hb hbytes d13) rfl ?_
    exact Steps.refl _)
  exact ⟨T3, some (.int (chr8 u)), _, _, _, X3, rfl, rfl, rfl, (fun h => by cases h), ⟨rfl, hh3⟩, fun fs hl => c4.trans (X3.ireturnOut hexec hret (narrow_c _) (Or.inr (Or.inr (Or.inr (Or.inl rfl)))) (hb hbytes d14) hl)⟩
end LChA
end StrChars
namespace StrChars.Road
open Jvm Sem ClassFile Op Lib Jvm.Stand Jvm.Free Jvm.Free.XT
open Jvm.Lib.Cold (StaticIs)
theorem consq {a : Array Value} {s : State} {c : Jvm.Cond} {L : List Jvm.Cond} (h0 : c.before a s = true) (h : ∀ w ∈ L, w.before a s = true) : ∀ w ∈ c :: L, w.before a s = true := fun w hw => (List.mem_cons.mp hw).elim (fun e => e ▸ h0) (h w)
/-- the words of String.length(), either coding -/
abbrev wordsLen : List Jvm.Cond := [.code Len.yN Len.yB 1 (some .int), .initialized ST, .fieldLink ST 9 ST "value" "[B", .fieldLink ST 38 ST "COMPACT_STRINGS" "Z", .fieldLink ST 15 ST "coder" "B", .code Cdr.yN Cdr.yB 1 (some .byte), .methodLink ST 335 Cdr.yN, .declares Cdr.yN, .selects ST Cdr.yN Cdr.yN, .instanceMethod Cdr.yN]
theorem tabLen_of {a : Array Value} {s : State} (h : ∀ w ∈ wordsLen, w.before a s = true) : Len.tab.before a s = true := by
  have hc : Cdr.tab.before a s = true := unparts (wk h (.code Cdr.yN Cdr.yB 1 (some .byte))) (wks h (.initialized Cdr.yN.cls :: Cdr.site))
  have q := consq hc h
  exact unparts (wk q (.code Len.yN Len.yB 1 (some .int))) (wks q (.initialized Len.yN.cls :: Len.site))
theorem movedLen {Z s : State} {a0 args : Array Value} (hZ : Z.Warmed39 s.vm) (hw : ∀ d ∈ wordsLen, d.before a0 Z = true) : ∀ d ∈ wordsLen, d.before args s = true := fun d hd => by
  have q := hw d hd
  have t : ∀ d ∈ wordsLen, d = .arrayClass .byte ∨ (d.onTables && d.keepsFace) = true := by decide +kernel
  rcases t d hd with rfl | t
  · exact RoadKit.mvA hZ q
  · exact RoadKit.mv hZ q t
/-- the bytes of the chars cs, low before high -/
def wideBytes : List Int32 → List Value
  | [] => []
  | c :: cs => .int (lo8 c) :: .int (hi8 c) :: wideBytes cs
theorem wide_lo (d : Value) : ∀ (cs : List Int32) (j : Nat), j < cs.length → (wideBytes cs).getD (2 * j) d = .int (lo8 (cs.getD j 0))
  | [], j, h => absurd h (Nat.not_lt_zero j)
  | c :: cs, 0, _ => rfl
  | c :: cs, j + 1, h => by
    have q := wide_lo d cs j (by simpa using h)
    rw [show 2 * (j + 1) = 2 * j + 1 + 1 from by omega]
    simpa [wideBytes] using q
theorem wide_hi (d : Value) : ∀ (cs : List Int32) (j : Nat), j < cs.length → (wideBytes cs).getD (2 * j + 1) d = .int (hi8 (cs.getD j 0))
  | [], j, h => absurd h (Nat.not_lt_zero j)
  | c :: cs, 0, _ => rfl
  | c :: cs, j + 1, h => by
    have q := wide_hi d cs j (by simpa using h)
    rw [show 2 * (j + 1) + 1 = 2 * j + 1 + 1 + 1 from by omega]
    simpa [wideBytes] using q
theorem low_at (d : Value) (cs : List Int32) (j : Nat) (h : j < cs.length) : (cs.map fun c => Value.int (lo8 c)).getD j d = .int (lo8 (cs.getD j 0)) := by
  simp [List.getD_eq_getElem?_getD, h]
/-- an array of N2 bytes vs codes the chars cs by the coder cd -/
def CodA (cs : List Int32) (cd N2 : Int32) (vs : List Value) : Prop := (cd = 0 ∧ N2 = Int32.ofNat cs.length ∧ vs = (cs.map fun c => Value.int (lo8 c)) ∧ ∀ c ∈ cs, ¬ 255 < c) ∨ (cd = 1 ∧ N2 = Int32.ofNat (2 * cs.length) ∧ vs = wideBytes cs ∧ ∃ c ∈ cs, 255 < c)
theorem CodA.cod {cs : List Int32} {cd N2 : Int32} {vs : List Value} {V : Cell} (h : CodA cs cd N2 vs) (hn : 2 * cs.length < 2 ^ 31) (hs : V.slots.size = N2.toNatClampNeg) (hv : RoadKit.Has V vs (.int 0)) : Cod cd cs.length (fun j => cs.getD j 0) V := by
  rcases h with ⟨rfl, rfl, rfl, h⟩ | ⟨rfl, rfl, rfl, c, hc, hw⟩
  · rw [n32 (by omega)] at hs
    exact Or.inl ⟨rfl, hs, fun j hj => ⟨by rw [hv j (by omega), low_at _ _ _ hj], by
      have e : cs.getD j 0 = cs[j] := by simp [List.getD_eq_getElem?_getD, hj]
      show ¬ 255 < cs.getD j 0
      rw [e]; exact h _ (List.getElem_mem _)⟩⟩
  · rw [n32 (by omega)] at hs
    obtain ⟨j, hj, rfl⟩ := List.getElem_of_mem hc
    exact Or.inr ⟨rfl, hs, fun j hj => ⟨by rw [hv _ (by omega), wide_lo _ _ _ hj], by rw [hv _ (by omega), wide_hi _ _ _ hj]⟩, j, hj, by
      have e : cs.getD j 0 = cs[j] := by simp [List.getD_eq_getElem?_getD, hj]
      show 255 < cs.getD j 0
      rw [e]; exact hw⟩
/-- an object of exactly java/lang/String, its two fields found: as the laws ask it -/
theorem strObj {Z U : State} {a0 : Array Value} {kI : Nat} (wi : (Jvm.Cond.instantiable ST kI).before a0 Z = true) (al : Z.vm.Alike U.vm) {x : Addr} {v0 c0 : Value} (E : RoadKit.Exa Z U.heap x ST) (V : RoadKit.Fld Z U.heap x ST "value" "[B" v0) (C : RoadKit.Fld Z U.heap x ST "coder" "B" c0) :
    ∃ (D : Cell) (fV fC : Field), Blank ST x D U ∧ Found ST "value" "[B" fV U ∧ Found ST "coder" "B" fC U ∧ D.slots[fV.slot]? = some v0 ∧ D.slots[fC.slot]? = some c0 ∧ RoadKit.slotOf Z ST "value" "[B" = fV.slot ∧ RoadKit.slotOf Z ST "coder" "B" = fC.slot := by
  obtain ⟨D, cfV, kV, iV, fV, hD, gV, stV, knV, obV, asV, slV⟩ := V
  obtain ⟨D', cfC, kC, iC, fC, hD', gC, stC, -, -, asC, slC⟩ := C
  cases hD.symm.trans hD'
  obtain ⟨D2, kD, e1, e2, e3, e4, e5⟩ := E
  cases hD.symm.trans e1
  obtain ⟨c2, k2, i1, i2, i3, -⟩ := Cond.instantiable_spec wi
  cases e2.symm.trans i1
  cases e3.symm.trans i2
  obtain ⟨kU, u1, u2⟩ := al.2.2 _ _ e3
  exact ⟨D, fV, fC, ⟨hD, ⟨knV, fun q hq => by rw [hq] at obV; cases obV⟩, by rw [al.findClass]; exact e2, kU, u1, by rw [u2]; exact i3, by rw [u2]; exact e5 i3⟩, ⟨SBG.found_only al ⟨cfV, kV, iV, gV⟩, stV⟩, ⟨SBG.found_only al ⟨cfC, kC, iC, gC⟩, stC⟩, slV, slC, by simp [RoadKit.slotOf, gV], by simp [RoadKit.slotOf, gC]⟩
theorem sta_is {Z U : State} (al : Z.vm.Alike U.vm) {C n d : String} {v : Value} (S : RoadKit.Sta Z U.heap C n d v) : StaticIs U C n d v := by
  obtain ⟨cfS, iS, kS, fS, st, cS, t1, t2, t3, t4, t5, t6, t7⟩ := S
  exact StaticIs.there (s := { Z with heap := U.heap }) ⟨cfS, iS, kS, fS, st, cS, t1, t2, t3, t4, t5, (fun q => by rw [q] at t6; cases t6), t7⟩ al rfl
/-- **length() OF SUCH A STRING** -/
theorem lenW {p : Program} {l : Launch} {e : Env} {R : Room} {s : State} {args : Array Value} {below : List Frame} {len W : Nat} {Z : State} {a0 : Array Value} {h : Heap} (hZ : Z.Warmed39 s.vm) (hw : ∀ d ∈ wordsLen, d.before a0 Z = true) {kI : Nat} (wi : (Jvm.Cond.instantiable ST kI).before a0 Z = true)
    {x t : Addr} {kb : ClassId} {cs : List Int32} {cd N2 z : Int32} {vs : List Value} (E : RoadKit.Exa Z h x ST) (V : RoadKit.Fld Z h x ST "value" "[B" (.ref t)) (C : RoadKit.Fld Z h x ST "coder" "B" (.int cd)) (K : RoadKit.Arv Z h t kb .byte N2 vs (.int 0)) (hc : CodA cs cd N2 vs) (hb : ∀ c ∈ cs, ¬ c < 0 ∧ ¬ (65535 : Int32) < c)
    (S : RoadKit.Sta Z h ST "COMPACT_STRINGS" "Z" (.int z)) (hz : ¬ z = 0) (l2 : cs.length ≤ 4000) (hfr : 2 ≤ R.frames) (hlo : W + 25 ≤ R.locals) :
    Back l R p e below s args (⟨"java/lang/String", "length", "()I"⟩ : MethodName) len W (fun P a => a = #[.ref x] ∧ P.U.heap = h ∧ P.cells + 0 ≤ R.cells ∧ P.slots + 0 ≤ R.slots)
      (fun P _ v B => ∃ L, (v = some (.int (Int32.ofNat cs.length)) ∧ L = [] ∧ B.U.heap = h) ∧ B.locs = P.locs ++ L ∧ B.cells = P.cells + 0 ∧ B.slots = P.slots + 0) := by
  obtain ⟨A, K1, K2, K3, K4, K5, K6⟩ := K
  have hcod := hc.cod (by omega) K3 K5
  intro m meth c P g ig mk a X hg hsize hdg hW hn hp'
  obtain ⟨rfl, rfl, r1, r2⟩ := hp'
  have al : Z.vm.Alike P.U.vm := hZ.alike.trans X.warmed.alike
  obtain ⟨D, fV, fC, hB, F1, F2, g1, g2, -, -⟩ := strObj wi al E V C
  have hx : Txt x t A cd cs.length (fun j => cs.getD j 0) P.U := ⟨⟨_, hB.2.2.1, D, hB.1, rfl, by cases q : D.vm <;> first | rfl | exact absurd q (hB.2.1.2 _)⟩, Has.of hB F1 g1, Has.of hB F2 g2, ⟨K1.1, State.isArrayOf_alike al K1.2.1, K1.2.2, by rcases hcod with ⟨-, q, -⟩ | ⟨-, q, -⟩ <;> omega⟩, hcod, fun j hj => by
    have e : cs.getD j 0 = cs[j] := by simp [List.getD_eq_getElem?_getD, hj]
    show ¬ cs.getD j 0 < 0 ∧ ¬ 65535 < cs.getD j 0
    rw [e]; exact hb _ (List.getElem_mem _)⟩
  obtain ⟨v, B, X', ⟨⟨hv, hh⟩, hl, hk, hs⟩, st⟩ := Len.pays x t A cd cs.length (fun j => cs.getD j 0) z (tabLen_of (movedLen hZ hw)) hfr hlo m meth c P g ig mk _ X hg hsize hdg hW hn ⟨r1, r2, rfl, hx, sta_is al S, hz⟩
  exact ⟨v, B, X', ⟨[], ⟨hv, rfl, hh⟩, hl, hk, hs⟩, st⟩
end StrChars.Road
namespace StrChars.Road
open Jvm Sem ClassFile Op Lib Jvm.Stand Jvm.Free Jvm.Free.XT
open Jvm.Lib.Cold (StaticIs)
/-- the road's facts of a String, as the laws ask it -/
theorem txt_of {Z U : State} {a0 : Array Value} {kI : Nat} (wi : (Jvm.Cond.instantiable ST kI).before a0 Z = true) (al : Z.vm.Alike U.vm) {x t : Addr} {kb : ClassId} {cs : List Int32} {cd N2 : Int32} {vs : List Value} (E : RoadKit.Exa Z U.heap x ST) (V : RoadKit.Fld Z U.heap x ST "value" "[B" (.ref t)) (C : RoadKit.Fld Z U.heap x ST "coder" "B" (.int cd)) (K : RoadKit.Arv Z U.heap t kb .byte N2 vs (.int 0)) (hc : CodA cs cd N2 vs) (hb : ∀ c ∈ cs, ¬ c < 0 ∧ ¬ (65535 : Int32) < c) (l2 : cs.length ≤ 4000) :
    ∃ A, Txt x t A cd cs.length (fun j => cs.getD j 0) U := by
  obtain ⟨A, K1, K2, K3, K4, K5, K6⟩ := K
  have hcod := hc.cod (by omega) K3 K5
  obtain ⟨D, fV, fC, hB, F1, F2, g1, g2, -, -⟩ := strObj wi al E V C
  exact ⟨A, ⟨_, hB.2.2.1, D, hB.1, rfl, by cases q : D.vm <;> first | rfl | exact absurd q (hB.2.1.2 _)⟩, Has.of hB F1 g1, Has.of hB F2 g2, ⟨K1.1, State.isArrayOf_alike al K1.2.1, K1.2.2, by rcases hcod with ⟨-, q, -⟩ | ⟨-, q, -⟩ <;> omega⟩, hcod, fun j hj => by
    have e : cs.getD j 0 = cs[j] := by simp [List.getD_eq_getElem?_getD, hj]
    show ¬ cs.getD j 0 < 0 ∧ ¬ 65535 < cs.getD j 0
    rw [e]; exact hb _ (List.getElem_mem _)⟩
end StrChars.Road
namespace StrChars
open Jvm Sem ClassFile Op Lib Jvm.Stand Jvm.Free.XT Jvm.Free.ALB Jvm.Free.JM Jvm.Free
open Jvm.Lib.Cold (StaticIs)
namespace ChN
def yN : MethodName := ⟨"java/lang/String", "charAt", "(I)C"⟩
abbrev yB : ByteArray := jdk_42_method_56_code
theorem d0 : decode yB 0 = .ok (.aload_n 0, 1) := by decide +kernel
theorem d1 : decode yB 1 = .ok (.invokevirtual 492, 3) := by decide +kernel
theorem d4 : decode yB 4 = .ok (.ifCond (.eq) 12, 3) := by decide +kernel
theorem d7 : decode yB 7 = .ok (.aload_n 0, 1) := by decide +kernel
theorem d8 : decode yB 8 = .ok (.getfield 9, 3) := by decide +kernel
theorem d11 : decode yB 11 = .ok (.iload_n 1, 1) := by decide +kernel
theorem d12 : decode yB 12 = .ok (.invokestatic 495, 3) := by decide +kernel
theorem d15 : decode yB 15 = .ok (.ireturn, 1) := by decide +kernel
def site : List Cond := [.fieldLink "java/lang/String" 9 "java/lang/String" "value" "[B", IsL.tab, LChA.tab] ++ virtW "java/lang/String" 492 "java/lang/String" IsL.yN IsL.yN ++ staticW "java/lang/String" 495 LChA.yN
def tab : Cond := tabOf yN yB 2 (some .char) site
def P (x t : Addr) (V : Cell) (n : Nat) (f : Nat → Int32) (z : Int32) (fm : Value) (i : Nat) (args : Array Value) (s : State) : Prop := args = #[.ref x, .int (Int32.ofNat i)] ∧ Txt x t V 0 n f s ∧ i < n ∧ StaticIs s "java/lang/String" "COMPACT_STRINGS" "Z" (.int z) ∧ ¬ z = 0 ∧ StaticIs s "jdk/internal/util/Preconditions" "SIOOBE_FORMATTER" "Ljava/util/function/BiFunction;" fm ∧ fm.isRef = true
def E (f : Nat → Int32) (i : Nat) (r : Option Value) (s u : State) : Prop := XT.PureE (some (.int (f i))) r s u
/-- charAt(i) of a Latin-1 String of n chars, i < n: f i -/
theorem law (l : Launch) (x t : Addr) (V : Cell) (n : Nat) (f : Nat → Int32) (z : Int32) (fm : Value) (i : Nat) : Law l yN 2 1 3 40 yB 2 (some .char) site (P x t V n f z fm i) (E f i) [] 0 0 := by
  refine Law.of_walk (plainFor_of_name (by decide +kernel)) (by decide +kernel) (by decide +kernel) (by decide) (fun _ _ h => by rw [h.1]; rfl) (fun _ U U' hal hh h => ⟨h.1, h.2.1.mv hal hh, h.2.2.1, h.2.2.2.1.there hal hh, h.2.2.2.2.1, h.2.2.2.2.2.1.there hal hh, h.2.2.2.2.2.2⟩) (fun r U U' V V' h1 hal h2 h => XT.PureE.mv r U U' V V' h1 hal h2 h) ?_
  intro p e s m args below meth c s₁ X0 hexec hbytes hml hret hlk hnm hown hh0 W hP
  obtain ⟨rfl, hx, hi, s1, hz, s3, rf⟩ := hP
  have v31 := hx.2.2.2.1.2.2.2
  have hr := hx.2.2.2.2.2 i hi
  have hx0 := hx.mv X0.warmed.alike hh0
  have c1 : Steps p.tables e below (s₁.setTop (entryFrame m #[.ref x, .int (Int32.ofNat i)] 2)) (s₁.setTop (mkF m 1 #[.val (.ref x), .val (.int (Int32.ofNat i))] [.ref x])) := Steps.trans (entry rfl) (by
    show Steps p.tables e below (s₁.setTop (mkF m 0 #[.val (.ref x), .val (.int (Int32.ofNat i))] [])) _
    refine XS.aloadN X0.here hexec rfl (hb hbytes d0) rfl rfl ?_
    exact Steps.refl _)
  obtain ⟨v2, T2, X2, E2, g2⟩ := X0.callV hexec (IsL.law l x 0 z) hown (wks W (virtW "java/lang/String" 492 "java/lang/String" IsL.yN IsL.yN)) rfl (by decide) (wk W IsL.tab) (W := 0) (Nat.le_of_ble_eq_true rfl) (Nat.le_of_ble_eq_true rfl) (Nat.le_refl _) (Nat.le_refl _) (hx0.1.fc X0.warmed.alike) hx0.1.is (g := (mkF m 1 #[.val (.ref x), .val (.int (Int32.ofNat i))] [.ref x])) rfl (by rw [hml]; rfl) c1 (argsL := []) (rest := []) rfl rfl (by show 2 * 0 + 0 ≤ _; decide) (hb hbytes d1) (⟨rfl, hx0.2.2.1, hx.2.2.2.2.1.cd, s1.there X0.warmed.alike hh0, hz⟩)
  obtain ⟨rfl, q2⟩ := E2
  have hh2 := q2.trans hh0
  have hx2 := hx.mv X2.warmed.alike hh2
  obtain ⟨-, k1, k2⟩ | ⟨k0, -⟩ := hx.2.2.2.2.1
  · have c3 : Steps p.tables e below (s₁.setTop (entryFrame m #[.ref x, .int (Int32.ofNat i)] 2)) (T2.setTop (mkF m 8 #[.val (.ref x), .val (.int (Int32.ofNat i))] [.ref x])) := Steps.trans g2 (by
      refine XS.ifNo X2.here hexec rfl (hb hbytes d4) rfl (i0_eq_f (by decide)) ?_
      refine XS.aloadN X2.here hexec rfl (hb hbytes d7) rfl rfl ?_
      exact Steps.refl _)
    obtain ⟨T4, X4, q4, st4⟩ := X2.hget hexec hown (wk W (.fieldLink "java/lang/String" 9 "java/lang/String" "value" "[B")) hx2.2.1 (g := (mkF m 8 #[.val (.ref x), .val (.int (Int32.ofNat i))] [.ref x])) rfl (rest := []) rfl (hb hbytes d8)
    have hh4 := q4.trans hh2
    have c5 : Steps p.tables e below (s₁.setTop (entryFrame m #[.ref x, .int (Int32.ofNat i)] 2)) (T4.setTop (mkF m 12 #[.val (.ref x), .val (.int (Int32.ofNat i))] [.int (Int32.ofNat i), .ref t])) := (c3.trans (st4 _ (Steps.refl _))).trans (by
      refine XS.iloadN X4.here hexec rfl (hb hbytes d11) rfl ?_
      exact Steps.refl _)
    obtain ⟨v6, T6, X6, E6, g6⟩ := X4.callS hexec (LChA.law l t V i (lo8 (f i)) fm) hown (wks W (staticW "java/lang/String" 495 LChA.yN)) (wk W LChA.tab) (W := 0) (Nat.le_of_ble_eq_true rfl) (Nat.le_of_ble_eq_true rfl) (Nat.le_refl _) (Nat.le_refl _) (g := (mkF m 12 #[.val (.ref x), .val (.int (Int32.ofNat i))] [.int (Int32.ofNat i), .ref t])) rfl (by rw [hml]; rfl) c5 (argsL := [.ref t, .int (Int32.ofNat i)]) (rest := []) rfl rfl (by show 2 * 0 + 0 ≤ _; decide) (hb hbytes d12) (⟨rfl, hx.2.2.2.1.mv X4.warmed.alike hh4, (k2 i hi).1, s3.there X4.warmed.alike hh4, rf⟩)
    obtain ⟨rfl, q6⟩ := E6
    rw [chr8_lo8 hr.1 (k2 i hi).2] at g6
    exact ⟨T6, some (.int (f i)), _, _, _, X6, rfl, rfl, rfl, (fun h => by cases h), ⟨rfl, q6.trans hh4⟩, fun fs hl => Steps.trans g6 (X6.ireturnOut hexec hret (narrow_ch hr.1 hr.2) (Or.inr (Or.inr (Or.inr (Or.inl rfl)))) (hb hbytes d15) hl)⟩
  · exact absurd k0 (by decide)
theorem pays {l : Launch} {R : Room} {p : Program} {e : Env} {below : List Frame} {s : State} {sargs : Array Value} {len W : Nat} (x t : Addr) (V : Cell) (n : Nat) (f : Nat → Int32) (z : Int32) (fm : Value) (i : Nat) (htab : tab.before sargs s = true) (hfr : 4 ≤ R.frames) (hlo : W + 53 ≤ R.locals) :
    Back l R p e below s sargs yN len W (fun A₁ a₁ => A₁.cells + 0 ≤ R.cells ∧ A₁.slots + 0 ≤ R.slots ∧ P x t V n f z fm i a₁ A₁.U) (fun A₁ _ v₁ B₁ => E f i v₁ A₁.U B₁.U ∧ B₁.locs = A₁.locs ++ [] ∧ B₁.cells = A₁.cells + 0 ∧ B₁.slots = A₁.slots + 0) :=
  (law l x t V n f z fm i).pays htab hfr (by omega)
end ChN
end StrChars
namespace StrChars.Road
open Jvm Sem ClassFile Op Lib Jvm.Stand Jvm.Free Jvm.Free.XT
open Jvm.Lib.Cold (StaticIs)
/-- the words of String.charAt(int), the Latin-1 road alone -/
abbrev wordsChN : List Jvm.Cond := [.code ChN.yN ChN.yB 2 (some .char), .initialized ST, .fieldLink ST 9 ST "value" "[B", .fieldLink ST 38 ST "COMPACT_STRINGS" "Z", .fieldLink ST 15 ST "coder" "B", .code IsL.yN IsL.yB 1 (some .boolean), .methodLink ST 492 IsL.yN, .declares IsL.yN, .selects ST IsL.yN IsL.yN, .instanceMethod IsL.yN,
  .methodLink ST 495 LChA.yN, .static LChA.yN, .code LChA.yN LChA.yB 2 (some .char), .initialized "java/lang/StringLatin1", .methodLink "java/lang/StringLatin1" 9 JO.Str_checkIndex.yN, .static JO.Str_checkIndex.yN, .code JO.Str_checkIndex.yN JO.Str_checkIndex.yB 2 none,
  .fieldLink ST 1053 "jdk/internal/util/Preconditions" "SIOOBE_FORMATTER" "Ljava/util/function/BiFunction;", .methodLink ST 1059 JC.PreCheck.yN, .static JC.PreCheck.yN, .code JC.PreCheck.yN JC.PreCheck.yB 3 (some .int), .initialized "jdk/internal/util/Preconditions"]
theorem tabChN_of {a : Array Value} {s : State} (h : ∀ w ∈ wordsChN, w.before a s = true) : ChN.tab.before a s = true := by
  have hp : JC.PreCheck.tab.before a s = true := unparts (wk h (.code JC.PreCheck.yN JC.PreCheck.yB 3 (some .int))) (wks h (.initialized JC.PreCheck.yN.cls :: JC.PreCheck.site))
  have qk := consq hp h
  have hk : JO.Str_checkIndex.tab.before a s = true := unparts (wk qk (.code JO.Str_checkIndex.yN JO.Str_checkIndex.yB 2 none)) (wks qk (.initialized JO.Str_checkIndex.yN.cls :: JO.Str_checkIndex.site))
  have ql := consq hk h
  have hl : LChA.tab.before a s = true := unparts (wk ql (.code LChA.yN LChA.yB 2 (some .char))) (wks ql (.initialized LChA.yN.cls :: LChA.site))
  have hi : IsL.tab.before a s = true := unparts (wk h (.code IsL.yN IsL.yB 1 (some .boolean))) (wks h (.initialized IsL.yN.cls :: IsL.site))
  have q := consq hi (consq hl h)
  exact unparts (wk q (.code ChN.yN ChN.yB 2 (some .char))) (wks q (.initialized ChN.yN.cls :: ChN.site))
theorem movedChN {Z s : State} {a0 args : Array Value} (hZ : Z.Warmed39 s.vm) (hw : ∀ d ∈ wordsChN, d.before a0 Z = true) : ∀ d ∈ wordsChN, d.before args s = true := fun d hd => by
  have t : ∀ d ∈ wordsChN, (d.onTables && d.keepsFace) = true := by decide +kernel
  exact RoadKit.mv hZ (hw d hd) (t d hd)
/-- **charAt(i) OF A LATIN-1 STRING**, i < n: the char -/
theorem chN {p : Program} {l : Launch} {e : Env} {R : Room} {s : State} {args : Array Value} {below : List Frame} {len W : Nat} {Z : State} {a0 : Array Value} {h : Heap} (hZ : Z.Warmed39 s.vm) (hw : ∀ d ∈ wordsChN, d.before a0 Z = true) {kI : Nat} (wi : (Jvm.Cond.instantiable ST kI).before a0 Z = true)
    {x t : Addr} {kb : ClassId} {cs : List Int32} {N2 z : Int32} {vs : List Value} {fm : Value} {i : Nat} {j : Int32} (E : RoadKit.Exa Z h x ST) (V : RoadKit.Fld Z h x ST "value" "[B" (.ref t)) (C : RoadKit.Fld Z h x ST "coder" "B" (.int 0)) (K : RoadKit.Arv Z h t kb .byte N2 vs (.int 0)) (hc : CodA cs 0 N2 vs) (hb : ∀ c ∈ cs, ¬ c < 0 ∧ ¬ (65535 : Int32) < c)
    (S : RoadKit.Sta Z h ST "COMPACT_STRINGS" "Z" (.int z)) (hz : ¬ z = 0) (F : RoadKit.Sta Z h "jdk/internal/util/Preconditions" "SIOOBE_FORMATTER" "Ljava/util/function/BiFunction;" fm) (rf : fm.isRef = true) (l2 : cs.length ≤ 4000) (hi : i < cs.length) (hj : j = Int32.ofNat i) (hfr : 4 ≤ R.frames) (hlo : W + 53 ≤ R.locals) :
    Back l R p e below s args (⟨"java/lang/String", "charAt", "(I)C"⟩ : MethodName) len W (fun P a => a = #[.ref x, .int j] ∧ P.U.heap = h ∧ P.cells + 0 ≤ R.cells ∧ P.slots + 0 ≤ R.slots)
      (fun P _ v B => ∃ L, (v = some (.int (cs.getD i 0)) ∧ L = [] ∧ B.U.heap = h) ∧ B.locs = P.locs ++ L ∧ B.cells = P.cells + 0 ∧ B.slots = P.slots + 0) := by
  subst hj
  intro m meth c P g ig mk a X hg hsize hdg hW hn hp'
  obtain ⟨rfl, rfl, r1, r2⟩ := hp'
  have al : Z.vm.Alike P.U.vm := hZ.alike.trans X.warmed.alike
  obtain ⟨A, hx⟩ := txt_of wi al E V C K hc hb l2
  obtain ⟨v, B, X', ⟨⟨hv, hh⟩, hl, hk, hs⟩, st⟩ := ChN.pays x t A cs.length (fun j => cs.getD j 0) z fm i (tabChN_of (movedChN hZ hw)) hfr hlo m meth c P g ig mk _ X hg hsize hdg hW hn ⟨r1, r2, rfl, hx, hi, sta_is al S, hz, sta_is al F, rf⟩
  exact ⟨v, B, X', ⟨[], ⟨hv, rfl, hh⟩, hl, hk, hs⟩, st⟩
end StrChars.Road
end Jvm.Pilot.@@N@@
namespace Jvm.Pilot.@@N@@
open Jvm Jvm.ClassFile Sem Op Lib Jvm.Free Jvm.Stand Jvm.LawKit Jvm.RoadKit Bundle Jvm.Pilot.@@N@@.Jvm.D
def Goes (p : Program) (e : Env) (below : List Frame) (Post : Outcome → State → Prop) (T : State) (g : JFrame) : Prop := ∃ (t : State) (o : Outcome), Steps p.tables e below (T.setTop g) t ∧ t.status = .running ∧ Ended t below o ∧ Post o t
theorem Goes.step {p : Program} {e : Env} {below : List Frame} {Post : Outcome → State → Prop} {T T' : State} {g g' : JFrame} (k : ∀ t, Steps p.tables e below (T'.setTop g') t → Steps p.tables e below (T.setTop g) t) (h : Goes p e below Post T' g') : Goes p e below Post T g := by
  obtain ⟨t, o, h1, h2⟩ := h; exact ⟨t, o, k _ h1, h2⟩
theorem Goes.run {p : Program} {e : Env} {below : List Frame} {Post : Outcome → State → Prop} {T T' : State} {g g' : JFrame} (k : Steps p.tables e below (T.setTop g) (T'.setTop g')) (h : Goes p e below Post T' g') : Goes p e below Post T g := by
  obtain ⟨t, o, h1, h2⟩ := h; exact ⟨t, o, k.trans h1, h2⟩
theorem own_cat {v : Value} (h : v.isRef = true) : v.category = 1 := by rcases ref_cases h with rfl | ⟨_, rfl⟩ <;> rfl
theorem own_nref {v : Value} {C : String} (h : v.isRef = true) : narrow (.object C) v = v := by rcases ref_cases h with rfl | ⟨_, rfl⟩ <;> rfl
theorem own_nref' {v : Value} {t : FieldType} (h : v.isRef = true) : narrow t v = v := by rcases ref_cases h with rfl | ⟨_, rfl⟩ <;> cases t <;> rfl
theorem own_fref {v : Value} {C : String} (h : v.isRef = true) : fits (.object C) v = true := by rcases ref_cases h with rfl | ⟨_, rfl⟩ <;> rfl
theorem own_n0 {Z : State} {n0 : Nat} {h : Heap} (O : Old Z n0 h) : n0 ≤ h.size := O.1 ▸ O.2.1
theorem own_since0 (s : State) (n : Nat) : s.Since s.vm n := (State.WarmedH.refl s).since n
theorem own_mono {s t : State} {o : Outcome} {L : List Loc} {k n k' n' : Nat} (h : ReturnedEndW s o t L k n) (hk : k ≤ k') (hn : n ≤ n') : ReturnedEndW s o t L k' n' := ⟨h.1, h.2.1, h.2.2.1, h.2.2.2.mono hk hn⟩
/-- a value that is null or a String -/
def SN (Z : State) (h : Heap) (r : Value) : Prop := r.isRef = true ∧ (r = .null ∨ ∃ a, r = .ref a ∧ Exa Z h a "java/lang/String")
theorem SN.ext {Z : State} {h h' : Heap} {r : Value} (F : SN Z h r) (E : Ext h h') : SN Z h' r := ⟨F.1, F.2.imp id fun ⟨a, q, G⟩ => ⟨a, q, G.ext E⟩⟩
theorem SN.wr {Z : State} {h h' : Heap} {r : Value} {a : Addr} {sl : Nat} {v : Value} (F : SN Z h r) (W : Wr h h' a sl v) : SN Z h' r := ⟨F.1, F.2.imp id fun ⟨a, q, G⟩ => ⟨a, q, G.wr W⟩⟩
theorem SN.keep {Z : State} {h h' : Heap} {r : Value} {ws : List Addr} (F : SN Z h r) (K : Keep h h' ws) : SN Z h' r := ⟨F.1, F.2.imp id fun ⟨a, q, G⟩ => ⟨a, q, G.keep K⟩⟩
theorem own_and255 (x : Int32) : ¬ (x &&& 255) < 0 ∧ ¬ (255 : Int32) < (x &&& 255) := by
  have e : (x &&& 255).toBitVec = x.toBitVec &&& 255#32 := rfl
  have e1 : (x &&& 255).toInt = (x.toBitVec &&& 255#32).toInt := by rw [← e]; rfl
  have e2 : (x.toBitVec &&& 255#32).toNat < 256 := by
    rw [BitVec.toNat_and]; exact Nat.lt_of_le_of_lt Nat.and_le_right (by decide)
  have e3 : (x.toBitVec &&& 255#32).toInt = (x.toBitVec &&& 255#32).toNat := by
    rw [BitVec.toInt_eq_toNat_of_lt]; omega
  rw [Int32.lt_iff_toInt_lt, Int32.lt_iff_toInt_lt, e1, e3]
  have : (0 : Int32).toInt = 0 := rfl
  have : (255 : Int32).toInt = 255 := rfl
  omega
theorem own_nar8 (x : Int32) : nar .char (x &&& 255) = x &&& 255 := i2c_mask x
theorem own_c8 (x : Int32) : ¬ nar .char ((x &&& 255).toUInt32.toUInt16.toUInt32.toInt32) < 0 ∧ ¬ (255 : Int32) < nar .char ((x &&& 255).toUInt32.toUInt16.toUInt32.toInt32) := by
  rw [i2c_mask, own_nar8]; exact own_and255 x
theorem own_wBV {Z : State} {a0 : Array Value} (hw : ∀ d ∈ tables_1, d.before a0 Z = true) : ∀ d ∈ StrChars.Road.words, d.before a0 Z = true := fun d hd => hw d ((by decide +kernel : ∀ d ∈ StrChars.Road.words, d ∈ tables_1) d hd)
theorem own_kext {h h' : Heap} (K : Keep h h' []) : Ext h h' := ⟨K.1, fun a c q => K.2.1 a c q nin0⟩
/-- a compact String of these chars -/
def SX (Z : State) (h : Heap) (a : Addr) (cs : List Int32) : Prop := Exa Z h a "java/lang/String" ∧ Fld Z h a "java/lang/String" "coder" "B" (.int 0) ∧ (∀ c ∈ cs, ¬ c < 0 ∧ ¬ (255 : Int32) < c) ∧ ∃ (t : Addr) (kb : ClassId), Fld Z h a "java/lang/String" "value" "[B" (.ref t) ∧ Arv Z h t kb .byte (Int32.ofNat cs.length) (cs.map fun c => .int (c.toInt8.toInt32)) (.int 0)
theorem SX.ext {Z : State} {h h' : Heap} {a : Addr} {cs : List Int32} (F : SX Z h a cs) (E : Ext h h') : SX Z h' a cs := by
  obtain ⟨f1, f2, f3, t, kb, f4, f5⟩ := F; exact ⟨f1.ext E, f2.ext E, f3, t, kb, f4.ext E, f5.ext E⟩
theorem SX.keepE {Z : State} {a0 : Array Value} {h h' : Heap} {a o : Addr} {cs : List Int32} {C : String} {n : Nat} (F : SX Z h a cs) (K : Keep h h' [o]) (E : Exa Z h o C) (hC : C ≠ "java/lang/String") (wi : (Cond.instantiable C n).before a0 Z = true) : SX Z h' a cs := by
  obtain ⟨f1, f2, f3, t, kb, f4, f5⟩ := F
  have n1 : a ≠ o := (ne_exa E f1 hC).symm
  have n2 : t ≠ o := (Exa.neArv E f5 wi).symm
  exact ⟨f1.keep K, f2.keep K (ninS n1 nin0), f3, t, kb, f4.keep K (ninS n1 nin0), f5.keep K (ninS n2 nin0)⟩
theorem SX.wrE {Z : State} {a0 : Array Value} {h h' : Heap} {a o : Addr} {sl : Nat} {v : Value} {cs : List Int32} {C : String} {n : Nat} (F : SX Z h a cs) (W : Wr h h' o sl v) (E : Exa Z h o C) (hC : C ≠ "java/lang/String") (wi : (Cond.instantiable C n).before a0 Z = true) : SX Z h' a cs := F.keepE (Keep.of_wr W) E hC wi
theorem own_cod {cs : List Int32} (h : ∀ c ∈ cs, ¬ c < 0 ∧ ¬ (255 : Int32) < c) : StrChars.Road.CodA cs 0 (Int32.ofNat cs.length) (cs.map fun c => .int (c.toInt8.toInt32)) := Or.inl ⟨rfl, rfl, rfl, fun c hc => (h c hc).2⟩
theorem own_up {cs : List Int32} (h : ∀ c ∈ cs, ¬ c < 0 ∧ ¬ (255 : Int32) < c) : ∀ c ∈ cs, ¬ c < 0 ∧ ¬ (65535 : Int32) < c := fun c hc => ⟨(h c hc).1, fun q => (h c hc).2 (Int32.lt_trans (by decide) q)⟩
theorem own_wLen {Z : State} {a0 : Array Value} (hw : ∀ d ∈ tables_1, d.before a0 Z = true) : ∀ d ∈ StrChars.Road.wordsLen, d.before a0 Z = true := fun d hd => hw d ((by decide +kernel : ∀ d ∈ StrChars.Road.wordsLen, d ∈ tables_1) d hd)
theorem own_lenW {p : Program} {l : Launch} {e : Env} {R : Room} {s : State} {args : Array Value} {below : List Frame} {len W : Nat} {Z : State} {a0 : Array Value} {h : Heap} (hZ : Z.Warmed39 s.vm) (hw : ∀ d ∈ tables_1, d.before a0 Z = true) (wi : (Jvm.Cond.instantiable "java/lang/String" 4).before a0 Z = true)
    {x : Addr} {cs : List Int32} (F : SX Z h x cs) (l1 : cs.length ≤ 4000) {z : Int32} (S : Sta Z h "java/lang/String" "COMPACT_STRINGS" "Z" (.int z)) (hz : ¬ z = 0) (hfr : 2 ≤ R.frames) (hlo : W + 25 ≤ R.locals) :
    Back l R p e below s args (⟨"java/lang/String", "length", "()I"⟩ : MethodName) len W (fun P a => a = #[.ref x] ∧ P.U.heap = h ∧ P.cells + 0 ≤ R.cells ∧ P.slots + 0 ≤ R.slots)
      (fun P _ v B => ∃ L, (v = some (.int (Int32.ofNat cs.length)) ∧ L = [] ∧ B.U.heap = h) ∧ B.locs = P.locs ++ L ∧ B.cells = P.cells + 0 ∧ B.slots = P.slots + 0) := by
  obtain ⟨f1, f2, f3, t, kb, f4, f5⟩ := F
  exact StrChars.Road.lenW hZ (own_wLen hw) (kI := 4) wi f1 f4 f2 f5 (own_cod f3) (own_up f3) S hz l1 hfr hlo
theorem own_wChN {Z : State} {a0 : Array Value} (hw : ∀ d ∈ tables_1, d.before a0 Z = true) : ∀ d ∈ StrChars.Road.wordsChN, d.before a0 Z = true := fun d hd => hw d ((by decide +kernel : ∀ d ∈ StrChars.Road.wordsChN, d ∈ tables_1) d hd)
theorem own_chN {p : Program} {l : Launch} {e : Env} {R : Room} {s : State} {args : Array Value} {below : List Frame} {len W : Nat} {Z : State} {a0 : Array Value} {h : Heap} (hZ : Z.Warmed39 s.vm) (hw : ∀ d ∈ tables_1, d.before a0 Z = true) (wi : (Jvm.Cond.instantiable "java/lang/String" 4).before a0 Z = true)
    {x : Addr} {cs : List Int32} (F : SX Z h x cs) (l1 : cs.length ≤ 4000) {z : Int32} (S : Sta Z h "java/lang/String" "COMPACT_STRINGS" "Z" (.int z)) (hz : ¬ z = 0) {fm : Value} (SF : Sta Z h "jdk/internal/util/Preconditions" "SIOOBE_FORMATTER" "Ljava/util/function/BiFunction;" fm) (rf : fm.isRef = true) {i : Nat} {j : Int32} (hi : i < cs.length) (hj : j = Int32.ofNat i) (hfr : 4 ≤ R.frames) (hlo : W + 53 ≤ R.locals) :
    Back l R p e below s args (⟨"java/lang/String", "charAt", "(I)C"⟩ : MethodName) len W (fun P a => a = #[.ref x, .int j] ∧ P.U.heap = h ∧ P.cells + 0 ≤ R.cells ∧ P.slots + 0 ≤ R.slots)
      (fun P _ v B => ∃ L, (v = some (.int (cs.getD i 0)) ∧ L = [] ∧ B.U.heap = h) ∧ B.locs = P.locs ++ L ∧ B.cells = P.cells + 0 ∧ B.slots = P.slots + 0) := by
  obtain ⟨f1, f2, f3, t, kb, f4, f5⟩ := F
  exact StrChars.Road.chN hZ (own_wChN hw) (kI := 4) wi f1 f4 f2 f5 (own_cod f3) (own_up f3) S hz SF rf l1 hi hj hfr hlo
/-- the place of the first point, or the length -/
def IX : List Int32 → Nat
  | [] => 0
  | c :: r => if c = 46 then 0 else IX r + 1
theorem IX_le : ∀ cs : List Int32, IX cs ≤ cs.length
  | [] => Nat.le_refl _
  | c :: r => by have := IX_le r; simp only [IX]; split <;> simp; omega
theorem IX_drop {cs : List Int32} {i : Nat} (hi : i < cs.length) : IX (cs.drop i) = if cs.getD i 0 = 46 then 0 else IX (cs.drop (i + 1)) + 1 := by
  rw [List.drop_eq_getElem_cons hi, IX]; simp [List.getD_eq_getElem?_getD, hi]
theorem own_n32 {n : Nat} (h : n ≤ 4000) : (Int32.ofNat n).toInt = n := Int32.toInt_ofNat_small (by omega)
theorem own_lt {a b : Nat} (ha : a ≤ 4000) (hb : b ≤ 4000) : Int32.ofNat a < Int32.ofNat b ↔ a < b := by rw [Int32.lt_iff_toInt_lt, own_n32 ha, own_n32 hb]; omega
theorem own_eq {a b : Nat} (ha : a ≤ 4000) (hb : b ≤ 4000) : Int32.ofNat a = Int32.ofNat b ↔ a = b := by rw [← Int32.toInt_inj, own_n32 ha, own_n32 hb]; omega
theorem own_nn {a : Nat} (ha : a ≤ 4000) : ¬ Int32.ofNat a < 0 := by rw [Int32.lt_iff_toInt_lt, own_n32 ha]; simp
theorem own_clamp {a : Nat} (ha : a ≤ 4000) : (Int32.ofNat a).toNatClampNeg = a := by rw [Int32.toNatClampNeg, own_n32 ha]; rfl
theorem own_sub {a b : Nat} (hb : b ≤ 4000) (ha : a ≤ 4000) : (Int32.ofNat a - Int32.ofNat b).toInt = (a : Int) - b := by
  rw [Int32.toInt_sub, own_n32 ha, own_n32 hb, Int.bmod_eq_of_le] <;> omega
/-- a byte that is 46 is a char that is 46 -/
theorem own_by46 {c : Int32} (h : ¬ c < 0 ∧ ¬ (255 : Int32) < c) : c.toInt8.toInt32 = 46 ↔ c = 46 := by
  rw [Int32.lt_iff_toInt_lt, Int32.lt_iff_toInt_lt] at h
  have z : (0 : Int32).toInt = 0 := rfl
  have y : (255 : Int32).toInt = 255 := rfl
  have e : c.toInt8.toInt32.toInt = c.toInt.bmod 256 := by simp [Int32.toInt_toInt8]
  rw [← Int32.toInt_inj, ← Int32.toInt_inj, e]
  have x : (46 : Int32).toInt = 46 := rfl
  rw [x]; simp only [Int.bmod_def]; omega
theorem own_at {cs : List Int32} {i : Nat} (hi : i < cs.length) : (cs.map fun c => Value.int (c.toInt8.toInt32)).getD i (.int 0) = .int ((cs.getD i 0).toInt8.toInt32) := by
  simp [List.getD_eq_getElem?_getD, hi]
theorem own_mem {cs : List Int32} {i : Nat} (hi : i < cs.length) : cs.getD i 0 ∈ cs := by
  simp [List.getD_eq_getElem?_getD, hi]
theorem own_skip {Z : State} {h : Heap} {a : Addr} {k : ClassId} {ty : FieldType} {n : Int32} {vs : List Value} {dv : Value} (V : Arv Z h a k ty n vs dv) (j : Nat) (hj : n.toNatClampNeg ≤ j) (v : Value) : Arv Z h a k ty n (vs.set j v) dv := by
  obtain ⟨c, A, r1, r2, r3, H, G⟩ := V
  have q : ∀ i, i < c.slots.size → (vs.set j v).getD i dv = vs.getD i dv := fun i hi => by
    rw [r2] at hi; simp only [List.getD_eq_getElem?_getD]; rw [List.getElem?_set_ne (by omega)]
  exact ⟨c, A, r1, r2, r3, fun i hi => by rw [q i hi]; exact H i hi, fun i hi => by rw [q i hi]; exact G i hi⟩
theorem own_takeV {Z : State} {h : Heap} {a : Addr} {k : ClassId} {ty : FieldType} {n : Int32} {vs : List Int32} {dv : Value} (V : Arv Z h a k ty n (vs.map Value.int) dv) (j : Nat) (hj : n.toNatClampNeg ≤ j) : Arv Z h a k ty n ((vs.take j).map Value.int) dv := by
  obtain ⟨c, A, r1, r2, r3, H, G⟩ := V
  have q : ∀ i, i < c.slots.size → ((vs.take j).map Value.int).getD i dv = (vs.map Value.int).getD i dv := fun i hi => by
    rw [r2] at hi; simp only [List.getD_eq_getElem?_getD, List.getElem?_map]; rw [List.getElem?_take_of_lt (by omega)]
  exact ⟨c, A, r1, r2, r3, fun i hi => by rw [q i hi]; exact H i hi, fun i hi => by rw [q i hi]; exact G i hi⟩
theorem IX_none : ∀ {cs : List Int32}, (∀ c ∈ cs, c ≠ 46) → IX cs = cs.length
  | [], _ => rfl
  | c :: r, h => by rw [IX, if_neg (h c (List.mem_cons_self ..)), IX_none (fun d hd => h d (List.mem_cons_of_mem _ hd))]; rfl
theorem IX_set : ∀ {cs : List Int32} {j : Nat}, (∀ c ∈ cs, c ≠ 46) → j < cs.length → IX (cs.set j 46) = j
  | c :: r, 0, _, _ => by simp [IX]
  | c :: r, j + 1, h, hj => by rw [List.set_cons_succ, IX, if_neg (h c (List.mem_cons_self ..)), IX_set (fun d hd => h d (List.mem_cons_of_mem _ hd)) (by simpa using hj)]
theorem own_digit (x : Int32) : ¬ nar .char ((48 + (x &&& 15) % 10).toUInt32.toUInt16.toUInt32.toInt32) < 48 ∧ ¬ (57 : Int32) < nar .char ((48 + (x &&& 15) % 10).toUInt32.toUInt16.toUInt32.toInt32) := by
  have e2 : (x.toBitVec &&& 15#32).toNat < 16 := by
    rw [BitVec.toNat_and]; exact Nat.lt_of_le_of_lt Nat.and_le_right (by decide)
  have e1 : (x &&& 15).toInt = (x.toBitVec &&& 15#32).toNat := by
    show (x.toBitVec &&& 15#32).toInt = _
    rw [BitVec.toInt_eq_toNat_of_lt]; omega
  have : ∀ n : Nat, n < 16 → ∀ y : Int32, y.toInt = n → ¬ nar .char ((48 + y % 10).toUInt32.toUInt16.toUInt32.toInt32) < 48 ∧ ¬ (57 : Int32) < nar .char ((48 + y % 10).toUInt32.toUInt16.toUInt32.toInt32) := by
    intro n hn y hy
    have hy' : y = Int32.ofNat n := Int32.toInt_inj.mp (by rw [hy]; exact (Int32.toInt_ofNat_small (by omega)).symm)
    rw [hy']
    exact (by decide : ∀ n : Fin 16, ¬ nar .char ((48 + (Int32.ofNat n.val) % 10).toUInt32.toUInt16.toUInt32.toInt32) < 48 ∧ ¬ (57 : Int32) < nar .char ((48 + (Int32.ofNat n.val) % 10).toUInt32.toUInt16.toUInt32.toInt32)) ⟨n, hn⟩
  exact this _ e2 _ e1
theorem own_narC (y : Int32) : nar .char (nar .char y) = nar .char y := by
  have h : ∀ u : UInt16, (u.toUInt32.toInt32).toUInt32.toUInt16 = u := fun u => by
    rw [show u.toUInt32.toInt32.toUInt32 = u.toUInt32 from rfl]; exact UInt16.toUInt16_toUInt32 u
  show ((y.toUInt32.toUInt16).toUInt32.toInt32).toUInt32.toUInt16.toUInt32.toInt32 = _
  rw [h]; rfl
theorem own_and7 (x : Int32) : ∃ k : Nat, 1 ≤ k ∧ k ≤ 8 ∧ 1 + (x &&& 7) = Int32.ofNat k := by
  have e2 : (x.toBitVec &&& 7#32).toNat < 8 := by
    rw [BitVec.toNat_and]; exact Nat.lt_of_le_of_lt Nat.and_le_right (by decide)
  have e1 : (x &&& 7).toInt = (x.toBitVec &&& 7#32).toNat := by
    show (x.toBitVec &&& 7#32).toInt = _
    rw [BitVec.toInt_eq_toNat_of_lt]; omega
  refine ⟨(x.toBitVec &&& 7#32).toNat + 1, by omega, by omega, Int32.toInt_inj.mp ?_⟩
  have o : (1 : Int32).toInt = 1 := rfl
  rw [Int32.toInt_add, e1, o, Int32.toInt_ofNat_small (by omega)]
  simp only [Int.bmod_def]; omega
theorem own_mask (x : Int32) : 0 ≤ (x &&& 2147483647).toInt := by
  have e2 : (x.toBitVec &&& 2147483647#32).toNat ≤ 2147483647 := by
    rw [BitVec.toNat_and]; exact Nat.and_le_right
  have e1 : (x &&& 2147483647).toInt = (x.toBitVec &&& 2147483647#32).toNat := by
    show (x.toBitVec &&& 2147483647#32).toInt = _
    rw [BitVec.toInt_eq_toNat_of_lt]; omega
  omega
/-- a nonnegative number modulo a small one -/
theorem own_mod {x : Int32} (hx : 0 ≤ x.toInt) {m : Nat} (hm : 1 ≤ m) (h4 : m ≤ 4000) : ∃ j : Nat, j < m ∧ x % Int32.ofNat m = Int32.ofNat j := by
  refine ⟨(x.toInt % m).toNat, by have := Int.emod_lt_of_pos x.toInt (show (0 : Int) < m by omega); have := Int.emod_nonneg x.toInt (show (m : Int) ≠ 0 by omega); omega, Int32.toInt_inj.mp ?_⟩
  have h1 := Int.emod_lt_of_pos x.toInt (show (0 : Int) < m by omega)
  have h2 := Int.emod_nonneg x.toInt (show (m : Int) ≠ 0 by omega)
  rw [Int32.toInt_mod, own_n32 h4, Int32.toInt_ofNat_small (by omega), Int.tmod_eq_emod_of_nonneg hx]; omega
/-- how many '0' lead -/
def LZ : List Int32 → Nat
  | [] => 0
  | c :: r => if c = 48 then LZ r + 1 else 0
theorem LZ_le : ∀ cs : List Int32, LZ cs ≤ IX cs
  | [] => Nat.le_refl _
  | c :: r => by
    have := LZ_le r
    simp only [LZ, IX]
    by_cases h : c = 48
    · rw [if_pos h, if_neg (by rw [h]; decide)]; omega
    · rw [if_neg h]; exact Nat.zero_le _
theorem LZ_drop {cs : List Int32} {i : Nat} (hi : i < cs.length) : LZ (cs.drop i) = if cs.getD i 0 = 48 then LZ (cs.drop (i + 1)) + 1 else 0 := by
  rw [List.drop_eq_getElem_cons hi, LZ]; simp [List.getD_eq_getElem?_getD, hi]
theorem IX_eq : ∀ {cs : List Int32} {j : Nat}, j ≤ cs.length → (∀ i, i < j → cs.getD i 0 ≠ 46) → (j = cs.length ∨ cs.getD j 0 = 46) → IX cs = j
  | [], j, h, _, _ => by simp at h; simp [IX, h]
  | c :: r, 0, _, _, h => by
    rcases h with h | h
    · simp at h
    · simp at h; simp [IX, h]
  | c :: r, j + 1, h1, h2, h3 => by
    have h0 := h2 0 (by omega); simp at h0
    rw [IX, if_neg h0, IX_eq (j := j) (by simpa using h1) (fun i hi => by have := h2 (i + 1) (by omega); simpa using this) (by simpa using h3)]
theorem LZ_eq : ∀ {cs : List Int32} {j : Nat}, j ≤ cs.length → (∀ i, i < j → cs.getD i 0 = 48) → (j = cs.length ∨ cs.getD j 0 ≠ 48) → LZ cs = j
  | [], j, h, _, _ => by simp at h; simp [LZ, h]
  | c :: r, 0, _, _, h => by
    rcases h with h | h
    · simp at h
    · simp at h; simp [LZ, h]
  | c :: r, j + 1, h1, h2, h3 => by
    have h0 := h2 0 (by omega); simp at h0
    rw [LZ, if_pos h0, LZ_eq (j := j) (by simpa using h1) (fun i hi => by have := h2 (i + 1) (by omega); simpa using this) (by simpa using h3)]
def AT (i z p l s : Int32) : Int32 := if i < z then 48 else if i = p then 46 else if i = z then nar .char l else nar .char ((48 + (((s.toUInt32 >>> ((((i * 5) &&& 31)) &&& 31).toUInt32).toInt32) &&& 15) % 10).toUInt32.toUInt16.toUInt32.toInt32)
def FL (z p l s : Int32) : List Int32 := (List.range 44).map fun i => nar .char (AT (Int32.ofNat i) z p l s)
def FLP (z p l s : Int32) (n : Nat) : List Value := (List.range 44).map fun i => if i < n then .int (nar .char (AT (Int32.ofNat i) z p l s)) else .int (0 : Int32)
theorem flp_len {z p l s : Int32} {n : Nat} : (FLP z p l s n).length = 44 := by simp [FLP]
theorem flp_zero (z p l s : Int32) : FLP z p l s 0 = List.replicate 44 (Value.int (0 : Int32)) := by
  apply List.ext_getElem
  · simp [FLP]
  · intro i h1 h2; rw [List.getElem_replicate]; simp [FLP]
theorem flp_last {z p l s : Int32} : FLP z p l s 44 = (FL z p l s).map Value.int := by
  apply List.ext_getElem
  · simp [FLP, FL]
  · intro i h1 h2; rw [flp_len] at h1; simp [FLP, FL, h1]
theorem flp_step {z p l s c : Int32} {i : Nat} (hc : c.toNatClampNeg = i) (hc2 : c = Int32.ofNat i) (hi : i < 44) : (FLP z p l s i).set c.toNatClampNeg (.int (nar .char (AT c z p l s))) = FLP z p l s (i + 1) := by
  rw [hc, hc2]
  apply List.ext_getElem
  · simp [FLP]
  · intro j h1 h2
    rw [List.getElem_set]
    by_cases q : i = j
    · subst q; simp [FLP]
    · rw [if_neg q]; simp only [FLP, List.getElem_map, List.getElem_range]
      by_cases r : j < i
      · rw [if_pos r, if_pos (by omega)]
      · rw [if_neg r, if_neg (by omega)]
theorem own_clampLe {i N : Int32} (h0 : ¬ i < 0) (h : ¬ i < N) : N.toNatClampNeg ≤ i.toNatClampNeg := by
  rw [Int32.lt_iff_toInt_lt] at h h0; have : (0 : Int32).toInt = 0 := rfl; simp only [Int32.toNatClampNeg]; omega
theorem own_mod' {x : Int32} (hx : 0 ≤ x.toInt) {m : Nat} (hm : 1 ≤ m) (h4 : m ≤ 4000) {M : Int32} (hM : M = Int32.ofNat m) : ∃ j : Nat, j < m ∧ x % M = Int32.ofNat j := by subst hM; exact own_mod hx hm h4
theorem own_sub2 {k : Nat} (h : 3 ≤ k) (h8 : k ≤ 44) : Int32.ofNat k - 2 = Int32.ofNat (k - 2) := Int32.toInt_inj.mp (by
  rw [Int32.toInt_sub, own_n32 (by omega), own_n32 (by omega), show (2 : Int32).toInt = 2 from rfl]; simp only [Int.bmod_def]; omega)
theorem own_add1 (j : Nat) : (1 : Int32) + Int32.ofNat j = Int32.ofNat (j + 1) := by rw [Int32.add_comm]; exact (inc_ofNat j).symm
theorem own_ne0 {m : Nat} (h : 1 ≤ m) (h4 : m ≤ 4000) {M : Int32} (hM : M = Int32.ofNat m) : M ≠ 0 := by
  subst hM; intro q; have := congrArg Int32.toInt q; rw [own_n32 h4] at this; simp at this; omega
theorem own_k3 {k : Nat} (h8 : k ≤ 44) (h : ¬ Int32.ofNat k < 3) : 3 ≤ k := by
  rw [Int32.lt_iff_toInt_lt, own_n32 (by omega), show (3 : Int32).toInt = 3 from rfl] at h; omega
/-- whether a point is drawn, its place, the integer part's length -/
def Chosen (k : Nat) (hp pt : Int32) (il : Nat) : Prop := (hp = 0 ∧ pt = -1 ∧ il = k) ∨ (hp = 1 ∧ pt = Int32.ofNat il ∧ 1 ≤ il ∧ il + 2 ≤ k)
theorem own_len (x : Int32) : ∃ k : Nat, 1 ≤ k ∧ k ≤ 44 ∧ 1 + (x &&& 2147483647) % 44 = Int32.ofNat k := by
  obtain ⟨j, h1, h2⟩ := own_mod' (own_mask x) (m := 44) (by omega) (by omega) (M := 44) rfl
  exact ⟨j + 1, by omega, by omega, by rw [h2, own_add1]⟩
theorem own_pt {k : Nat} (h : 3 ≤ k) (h8 : k ≤ 44) (x : Int32) : ∃ j : Nat, 1 ≤ j ∧ j + 2 ≤ k ∧ 1 + (x &&& 2147483647) % (Int32.ofNat k - 2) = Int32.ofNat j := by
  obtain ⟨j, h1, h2⟩ := own_mod (own_mask x) (m := k - 2) (by omega) (by omega)
  exact ⟨j + 1, by omega, by omega, by rw [own_sub2 h h8, h2, own_add1]⟩
theorem own_zz {il : Nat} (h : il ≤ 44) (x : Int32) : ∃ z : Nat, z ≤ il ∧ (x &&& 2147483647) % (Int32.ofNat il + 1) = Int32.ofNat z := by
  obtain ⟨j, h1, h2⟩ := own_mod' (own_mask x) (m := il + 1) (by omega) (by omega) (M := Int32.ofNat il + 1) (inc_ofNat il).symm
  exact ⟨j, by omega, h2⟩
theorem own_ld (x : Int32) : ∃ l : Int32, (49 + (x &&& 2147483647) % 9).toUInt32.toUInt16.toUInt32.toInt32 = l ∧ nar .char l = l ∧ ¬ l < 49 ∧ ¬ (57 : Int32) < l := by
  obtain ⟨j, h1, h2⟩ := own_mod' (own_mask x) (m := 9) (by omega) (by omega) (M := 9) rfl
  rw [h2]
  exact ⟨_, rfl, (by decide : ∀ j : Fin 9, nar .char (49 + Int32.ofNat j.val).toUInt32.toUInt16.toUInt32.toInt32 = (49 + Int32.ofNat j.val).toUInt32.toUInt16.toUInt32.toInt32 ∧ ¬ (49 + Int32.ofNat j.val).toUInt32.toUInt16.toUInt32.toInt32 < 49 ∧ ¬ (57 : Int32) < (49 + Int32.ofNat j.val).toUInt32.toUInt16.toUInt32.toInt32) ⟨j, h1⟩⟩
theorem own_49 {l : Int32} (h : ¬ l < 49 ∧ ¬ (57 : Int32) < l) : l ≠ 46 ∧ l ≠ 48 ∧ ¬ l < 0 ∧ ¬ (255 : Int32) < l := by
  have a : (49 : Int32).toInt = 49 := rfl
  have b : (57 : Int32).toInt = 57 := rfl
  have d : (255 : Int32).toInt = 255 := rfl
  have z : (0 : Int32).toInt = 0 := rfl
  simp only [Int32.lt_iff_toInt_lt, a, b, d, z] at h ⊢
  refine ⟨fun q => ?_, fun q => ?_, by omega, by omega⟩
  · rw [q, show (46 : Int32).toInt = 46 from rfl] at h; omega
  · rw [q, show (48 : Int32).toInt = 48 from rfl] at h; omega
theorem own_r {c : Int32} (h : ¬ c < 48 ∧ ¬ (57 : Int32) < c) : c ≠ 46 ∧ ¬ c < 0 ∧ ¬ (255 : Int32) < c := by
  have a : (48 : Int32).toInt = 48 := rfl
  have b : (57 : Int32).toInt = 57 := rfl
  have d : (255 : Int32).toInt = 255 := rfl
  have z : (0 : Int32).toInt = 0 := rfl
  have f : (46 : Int32).toInt = 46 := rfl
  simp only [Int32.lt_iff_toInt_lt, a, b, d, z] at h ⊢
  refine ⟨fun q => ?_, by omega, by omega⟩
  rw [q, f] at h; omega
section
variable {k il zz : Nat} {hp pt l s : Int32}
theorem at_val (hC : Chosen k hp pt il) (hk : k ≤ 44) (hz : zz ≤ il) (hl : nar .char l = l ∧ ¬ l < 49 ∧ ¬ (57 : Int32) < l) {i : Nat} (hi : i < k) :
    (i < zz → AT (Int32.ofNat i) (Int32.ofNat zz) pt l s = 48) ∧ (hp = 1 → i = il → AT (Int32.ofNat i) (Int32.ofNat zz) pt l s = 46) ∧ (¬ i < zz → ¬ (hp = 1 ∧ i = il) → (¬ AT (Int32.ofNat i) (Int32.ofNat zz) pt l s < 48 ∧ ¬ (57 : Int32) < AT (Int32.ofNat i) (Int32.ofNat zz) pt l s)) ∧ (i = zz → ¬ (hp = 1 ∧ i = il) → AT (Int32.ofNat i) (Int32.ofNat zz) pt l s ≠ 48) := by
  have hil : il ≤ k := by rcases hC with ⟨-, -, h⟩ | ⟨-, -, -, h⟩ <;> omega
  have lt := @own_lt i zz (by omega) (by omega)
  have hpt : Int32.ofNat i = pt ↔ (hp = 1 ∧ i = il) := by
    rcases hC with ⟨rfl, rfl, -⟩ | ⟨rfl, rfl, -, -⟩
    · constructor
      · intro q; have := congrArg Int32.toInt q; rw [own_n32 (by omega)] at this; have h1 : (-1 : Int32).toInt = -1 := rfl; omega
      · intro q; exact absurd q.1 (by decide)
    · rw [own_eq (by omega) (by omega)]; simp
  have heq := @own_eq i zz (by omega) (by omega)
  refine ⟨fun h => by rw [AT, if_pos (lt.mpr h)], fun h1 h2 => ?_, fun h1 h2 => ?_, fun h1 h2 => ?_⟩
  · rw [AT, if_neg (fun q => by have := lt.mp q; omega), if_pos (hpt.mpr ⟨h1, h2⟩)]
  · rw [AT, if_neg (fun q => h1 (lt.mp q)), if_neg (fun q => h2 (hpt.mp q))]
    by_cases q : Int32.ofNat i = Int32.ofNat zz
    · rw [if_pos q, hl.1]
      have a : (49 : Int32).toInt = 49 := rfl
      have b : (48 : Int32).toInt = 48 := rfl
      refine ⟨fun r => hl.2.1 ?_, hl.2.2⟩
      rw [Int32.lt_iff_toInt_lt] at r ⊢; omega
    · rw [if_neg q]; exact own_digit _
  · rw [AT, if_neg (fun q => by have := lt.mp q; omega), if_neg (fun q => h2 (hpt.mp q)), if_pos (heq.mpr h1), hl.1]; exact (own_49 hl.2).2.1
theorem at_nar (hC : Chosen k hp pt il) (hk : k ≤ 44) (hz : zz ≤ il) (hl : nar .char l = l ∧ ¬ l < 49 ∧ ¬ (57 : Int32) < l) (i : Int32) : nar .char (AT i (Int32.ofNat zz) pt l s) = AT i (Int32.ofNat zz) pt l s := by
  unfold AT; split
  · decide
  · split
    · decide
    · split
      · exact own_narC _
      · exact own_narC _
theorem fl_get (hC : Chosen k hp pt il) (hk : k ≤ 44) (hz : zz ≤ il) (hl : nar .char l = l ∧ ¬ l < 49 ∧ ¬ (57 : Int32) < l) {i : Nat} (hi : i < k) : ((FL (Int32.ofNat zz) pt l s).take k).getD i 0 = AT (Int32.ofNat i) (Int32.ofNat zz) pt l s := by
  have h44 : i < 44 := by omega
  rw [List.getD_eq_getElem?_getD, List.getElem?_take_of_lt hi, FL, List.getElem?_map, List.getElem?_range h44]
  exact at_nar hC hk hz hl _
theorem fl_len (hk : k ≤ 44) : ((FL (Int32.ofNat zz) pt l s).take k).length = k := by rw [List.length_take, FL, List.length_map, List.length_range]; omega
theorem fl_all (hC : Chosen k hp pt il) (hk : k ≤ 44) (hz : zz ≤ il) (hl : nar .char l = l ∧ ¬ l < 49 ∧ ¬ (57 : Int32) < l) : ∀ c ∈ (FL (Int32.ofNat zz) pt l s).take k, ¬ c < 0 ∧ ¬ (255 : Int32) < c := by
  intro c hc
  obtain ⟨i, hi, rfl⟩ := List.getElem_of_mem hc
  rw [fl_len hk] at hi
  have e := fl_get (s := s) hC hk hz hl hi
  have e2 : ((FL (Int32.ofNat zz) pt l s).take k)[i]'(by rw [fl_len hk]; exact hi) = ((FL (Int32.ofNat zz) pt l s).take k).getD i 0 := by rw [List.getD_eq_getElem?_getD, List.getElem?_eq_getElem]; rfl
  rw [e2, e]
  obtain ⟨h1, h2, h3, -⟩ := at_val (s := s) hC hk hz hl hi
  by_cases q1 : i < zz
  · rw [h1 q1]; decide
  · by_cases q2 : hp = 1 ∧ i = il
    · rw [h2 q2.1 q2.2]; decide
    · exact (own_r (h3 q1 q2)).2
theorem fl_IX (hC : Chosen k hp pt il) (hk : k ≤ 44) (hz : zz ≤ il) (hl : nar .char l = l ∧ ¬ l < 49 ∧ ¬ (57 : Int32) < l) : IX ((FL (Int32.ofNat zz) pt l s).take k) = il := by
  have hil : il ≤ k := by rcases hC with ⟨-, -, h⟩ | ⟨-, -, -, h⟩ <;> omega
  refine IX_eq (by rw [fl_len hk]; exact hil) (fun i hi => ?_) ?_
  · rw [fl_get hC hk hz hl (by omega)]
    obtain ⟨h1, h2, h3, -⟩ := at_val (s := s) hC hk hz hl (i := i) (by omega)
    by_cases q1 : i < zz
    · rw [h1 q1]; decide
    · exact (own_r (h3 q1 (fun q => by omega))).1
  · rcases hC with ⟨h0, h1, h2⟩ | ⟨h0, h1, h2, h3⟩
    · exact Or.inl (by rw [fl_len hk]; exact h2)
    · right; rw [fl_get (Or.inr ⟨h0, h1, h2, h3⟩) hk hz hl (by omega)]
      exact (at_val (s := s) (Or.inr ⟨h0, h1, h2, h3⟩) hk hz hl (i := il) (by omega)).2.1 h0 rfl
theorem fl_LZ (hC : Chosen k hp pt il) (hk : k ≤ 44) (hz : zz ≤ il) (hl : nar .char l = l ∧ ¬ l < 49 ∧ ¬ (57 : Int32) < l) : LZ ((FL (Int32.ofNat zz) pt l s).take k) = zz := by
  have hil : il ≤ k := by rcases hC with ⟨-, -, h⟩ | ⟨-, -, -, h⟩ <;> omega
  refine LZ_eq (by rw [fl_len hk]; omega) (fun i hi => ?_) ?_
  · rw [fl_get hC hk hz hl (by omega)]; exact (at_val (s := s) hC hk hz hl (i := i) (by omega)).1 hi
  · by_cases q : zz = k
    · exact Or.inl (by rw [fl_len hk]; exact q)
    · right; rw [fl_get hC hk hz hl (by omega)]
      obtain ⟨-, h2, -, h4⟩ := at_val (s := s) hC hk hz hl (i := zz) (by omega)
      by_cases q2 : hp = 1 ∧ zz = il
      · rw [h2 q2.1 q2.2]; decide
      · exact h4 rfl q2
end
theorem d_jdk_43_method_4_0 : decode jdk_43_method_4_code 0 = .ok (.iload_n 0, 1) := by decide +kernel
theorem d_jdk_43_method_4_1 : decode jdk_43_method_4_code 1 = .ok (.ifCond .lt 14, 3) := by decide +kernel
theorem d_jdk_43_method_4_4 : decode jdk_43_method_4_code 4 = .ok (.iload_n 0, 1) := by decide +kernel
theorem d_jdk_43_method_4_5 : decode jdk_43_method_4_code 5 = .ok (.sipush 255, 3) := by decide +kernel
theorem d_jdk_43_method_4_8 : decode jdk_43_method_4_code 8 = .ok (.if_icmp .gt 7, 3) := by decide +kernel
theorem d_jdk_43_method_4_11 : decode jdk_43_method_4_code 11 = .ok (.iconst 1, 1) := by decide +kernel
theorem d_jdk_43_method_4_12 : decode jdk_43_method_4_code 12 = .ok (.goto 4, 3) := by decide +kernel
theorem d_jdk_43_method_4_16 : decode jdk_43_method_4_code 16 = .ok (.ireturn, 1) := by decide +kernel
theorem pn_0 : plainName "java/lang/StringLatin1" = true := by first | (simp [plainName, overriddenIn]; done) | decide +kernel
theorem ef_canEncI (m : MethodId)  : entryFrame m #[(.int (46 : Int32))] 1 = mkF m 0 #[.val (.int (46 : Int32))] [] := by first | (simp [entryFrame, mkF, argsToLocals, Value.category, maxLocals]; done) | rfl
def Q_canEncI (Z : State)  (h0 : Heap) (n0 : Nat) (v : Option Value) (h : Heap) (L : List Loc) : Prop := (v = some (.int (1 : Int32))) ∧ (L = []) ∧ (h = h0)
set_option maxRecDepth 65536 in
set_option maxHeartbeats 40000000 in
theorem rm_canEncI (l : Launch) (Z : State) (a0 : Array Value) (hw : ∀ d ∈ tables_1, d.before a0 Z = true) (ws : List Jvm.Cond)  (h0 : Heap) (n0 : Nat) (O0 : Old Z n0 h0)   :
    MetFree l (⟨"java/lang/StringLatin1", "canEncode", "(I)Z"⟩ : MethodName) (head1 ((Jvm.Cond.code (⟨"java/lang/StringLatin1", "canEncode", "(I)Z"⟩ : MethodName) jdk_43_method_4_code 1 (some .boolean)) :: ws) ({ frames := 0, cells := 0, slots := 0, locals := 0 } : Room)) (fun a U => a = #[(.int (46 : Int32))] ∧ Z.Warmed39 U.vm ∧ U.heap = h0) (fun _ _ _ _ _ => True) (fun _ U o U' => ∃ v L, o = .returned v ∧ Q_canEncI Z  h0 n0 v U'.heap L ∧ FrameEnd U o U' L ({ frames := 0, cells := 0, slots := 0, locals := 0 } : Room).cells ({ frames := 0, cells := 0, slots := 0, locals := 0 } : Room).slots) := by
  refine MetFree.of_bodySF (plainFor_of_name pn_0) hisR ?_
  intro p e s m args below meth c s₁ Bd hml0 hP hK
  obtain ⟨rfl, hZ, hh⟩ := hP
  have hx := Bd.exec
  have hby := Bd.bytes
  have hml : c.maxLocals = 1 := hml0
  have hown : s.vm.findClass "java/lang/StringLatin1" = some m.cls := findClass_of_methodNamed Bd.named
  have hnm := (name_of_methodNamed Bd.named Bd.method).1
  have X0 : Stand p l e ({ frames := 0, cells := 0, slots := 0, locals := 0 } : Room) s m #[(.int (46 : Int32))] below meth c s₁ [] 0 0 := Stand.of_body Bd
  have e0 : s₁.heap = h0 := by rw [← hh, Bd.state]; rfl
  have N0 := Fr.nil n0
  have K0 : Keep h0 h0 [] := Keep.refl _ _
  suffices hG : Goes p e below (fun o U' => ∃ v L, o = .returned v ∧ Q_canEncI Z  h0 n0 v U'.heap L ∧ FrameEnd s o U' L ({ frames := 0, cells := 0, slots := 0, locals := 0 } : Room).cells ({ frames := 0, cells := 0, slots := 0, locals := 0 } : Room).slots) s₁ (mkF m 0 #[.val (.int (46 : Int32))] []) by
    obtain ⟨t, o, h1, h2⟩ := hG; exact ⟨t, o, castTop (ef_canEncI m ) h1, h2⟩
  refine Goes.step (T' := s₁) (g' := (mkF m 1 #[.val (.int (46 : Int32))] [(.int (46 : Int32))])) (fun _ kz => XS.iloadN X0.here hx rfl (hb hby d_jdk_43_method_4_0) rfl  kz) ?_
  refine Goes.step (T' := s₁) (g' := (mkF m 4 #[.val (.int (46 : Int32))] [])) (fun _ kz => XS.ifNo X0.here hx rfl (hb hby d_jdk_43_method_4_1) rfl ((if0 _ _).trans (flt (by decide : ¬ ((46 : Int32) < (0 : Int32)))).1) kz) ?_
  refine Goes.step (T' := s₁) (g' := (mkF m 5 #[.val (.int (46 : Int32))] [(.int (46 : Int32))])) (fun _ kz => XS.iloadN X0.here hx rfl (hb hby d_jdk_43_method_4_4) rfl  kz) ?_
  refine Goes.step (T' := s₁) (g' := (mkF m 8 #[.val (.int (46 : Int32))] [(.int (255 : Int32)), (.int (46 : Int32))])) (fun _ kz => XS.sipush X0.here hx rfl (hb hby d_jdk_43_method_4_5) kz) ?_
  refine Goes.step (T' := s₁) (g' := (mkF m 11 #[.val (.int (46 : Int32))] [])) (fun _ kz => XS.icmpNo X0.here hx rfl (hb hby d_jdk_43_method_4_8) rfl (flt (by decide : ¬ ((255 : Int32) < (46 : Int32)))).2.2.1 kz) ?_
  refine Goes.step (T' := s₁) (g' := (mkF m 12 #[.val (.int (46 : Int32))] [(.int (1 : Int32))])) (fun _ kz => XS.iconst X0.here hx rfl (hb hby d_jdk_43_method_4_11) kz) ?_
  refine Goes.step (T' := s₁) (g' := (mkF m 16 #[.val (.int (46 : Int32))] [(.int (1 : Int32))])) (fun _ kz => XS.goto X0.here hx rfl (pc0 := 12) (pc' := 16) rfl (hb hby d_jdk_43_method_4_12) (by decide) (by decide) kz) ?_
  obtain ⟨fs, hr, hrun, hended, hW, hsame⟩ := X0.leave (v := some (.int (nar .boolean (1 : Int32)))) (fun h => by rw [Bd.returns] at h; cases h)
  exact ⟨_, _, retN X0 hx (t := .boolean) Bd.returns (by simp) (hb hby d_jdk_43_method_4_16) hr, hrun, hended, _, _, rfl, (by show Q_canEncI Z  h0 n0 _ s₁.heap _; rw [e0]; exact ⟨rfl, rfl, rfl⟩), ⟨_, rfl⟩, hW, hsame.mono (by decide) (by decide)⟩
theorem d_jdk_29_method_65_0 : decode jdk_29_method_65_code 0 = .ok (.iload_n 0, 1) := by decide +kernel
theorem d_jdk_29_method_65_1 : decode jdk_29_method_65_code 1 = .ok (.iload_n 1, 1) := by decide +kernel
theorem d_jdk_29_method_65_2 : decode jdk_29_method_65_code 2 = .ok (.if_icmp .lt 7, 3) := by decide +kernel
theorem d_jdk_29_method_65_9 : decode jdk_29_method_65_code 9 = .ok (.iload_n 1, 1) := by decide +kernel
theorem d_jdk_29_method_65_10 : decode jdk_29_method_65_code 10 = .ok (.ireturn, 1) := by decide +kernel
theorem d_jdk_29_method_65_5 : decode jdk_29_method_65_code 5 = .ok (.iload_n 0, 1) := by decide +kernel
theorem d_jdk_29_method_65_6 : decode jdk_29_method_65_code 6 = .ok (.goto 4, 3) := by decide +kernel
theorem ef_mathmax (m : MethodId) (p1 : Int32) (p2 : Int32) : entryFrame m #[(.int p1), (.int p2)] 2 = mkF m 0 #[.val (.int p1), .val (.int p2)] [] := by first | (simp [entryFrame, mkF, argsToLocals, Value.category, maxLocals]; done) | rfl
def Q_mathmax (Z : State) (p1 : Int32) (p2 : Int32) (h0 : Heap) (n0 : Nat) (v : Option Value) (h : Heap) (L : List Loc) : Prop := (v = some (.int (if p1 < p2 then p2 else p1))) ∧ (L = []) ∧ (h = h0)
set_option maxRecDepth 65536 in
set_option maxHeartbeats 40000000 in
theorem rm_mathmax (l : Launch) (Z : State) (a0 : Array Value) (hw : ∀ d ∈ tables_1, d.before a0 Z = true) (ws : List Jvm.Cond) (p1 : Int32) (p2 : Int32) (h0 : Heap) (n0 : Nat) (O0 : Old Z n0 h0)   :
    MetFree l (⟨"java/lang/Math", "max", "(II)I"⟩ : MethodName) (head1 ((Jvm.Cond.code (⟨"java/lang/Math", "max", "(II)I"⟩ : MethodName) jdk_29_method_65_code 2 (some .int)) :: ws) ({ frames := 0, cells := 0, slots := 0, locals := 0 } : Room)) (fun a U => a = #[(.int p1), (.int p2)] ∧ Z.Warmed39 U.vm ∧ U.heap = h0) (fun _ _ _ _ _ => True) (fun _ U o U' => ∃ v L, o = .returned v ∧ Q_mathmax Z p1 p2 h0 n0 v U'.heap L ∧ FrameEnd U o U' L ({ frames := 0, cells := 0, slots := 0, locals := 0 } : Room).cells ({ frames := 0, cells := 0, slots := 0, locals := 0 } : Room).slots) := by
  refine MetFree.of_bodySF (Jvm.Free.JP.mathPlain rfl (by decide)) hisR ?_
  intro p e s m args below meth c s₁ Bd hml0 hP hK
  obtain ⟨rfl, hZ, hh⟩ := hP
  have hx := Bd.exec
  have hby := Bd.bytes
  have hml : c.maxLocals = 2 := hml0
  have hown : s.vm.findClass "java/lang/Math" = some m.cls := findClass_of_methodNamed Bd.named
  have hnm := (name_of_methodNamed Bd.named Bd.method).1
  have X0 : Stand p l e ({ frames := 0, cells := 0, slots := 0, locals := 0 } : Room) s m #[(.int p1), (.int p2)] below meth c s₁ [] 0 0 := Stand.of_body Bd
  have e0 : s₁.heap = h0 := by rw [← hh, Bd.state]; rfl
  have N0 := Fr.nil n0
  have K0 : Keep h0 h0 [] := Keep.refl _ _
  suffices hG : Goes p e below (fun o U' => ∃ v L, o = .returned v ∧ Q_mathmax Z p1 p2 h0 n0 v U'.heap L ∧ FrameEnd s o U' L ({ frames := 0, cells := 0, slots := 0, locals := 0 } : Room).cells ({ frames := 0, cells := 0, slots := 0, locals := 0 } : Room).slots) s₁ (mkF m 0 #[.val (.int p1), .val (.int p2)] []) by
    obtain ⟨t, o, h1, h2⟩ := hG; exact ⟨t, o, castTop (ef_mathmax m p1 p2) h1, h2⟩
  refine Goes.step (T' := s₁) (g' := (mkF m 1 #[.val (.int p1), .val (.int p2)] [(.int p1)])) (fun _ kz => XS.iloadN X0.here hx rfl (hb hby d_jdk_29_method_65_0) rfl  kz) ?_
  refine Goes.step (T' := s₁) (g' := (mkF m 2 #[.val (.int p1), .val (.int p2)] [(.int p2), (.int p1)])) (fun _ kz => XS.iloadN X0.here hx rfl (hb hby d_jdk_29_method_65_1) rfl  kz) ?_
  by_cases hc2_1 : p1 < p2
  ·
    refine Goes.step (T' := s₁) (g' := (mkF m 9 #[.val (.int p1), .val (.int p2)] [])) (fun _ kz => XS.icmpYes X0.here hx rfl (pc0 := 2) (pc' := 9) rfl (hb hby d_jdk_29_method_65_2) rfl (tlt hc2_1).1 (by decide) (by decide) kz) ?_
    refine Goes.step (T' := s₁) (g' := (mkF m 10 #[.val (.int p1), .val (.int p2)] [(.int p2)])) (fun _ kz => XS.iloadN X0.here hx rfl (hb hby d_jdk_29_method_65_9) rfl  kz) ?_
    obtain ⟨fs, hr, hrun, hended, hW, hsame⟩ := X0.leave (v := some (.int p2)) (fun h => by rw [Bd.returns] at h; cases h)
    exact ⟨_, _, retOut X0 hx Bd.returns rfl (Or.inl ⟨rfl, Or.inl rfl, _, rfl⟩) (hb hby d_jdk_29_method_65_10) hr, hrun, hended, _, _, rfl, (by show Q_mathmax Z p1 p2 h0 n0 _ s₁.heap _; rw [e0]; exact ⟨(by simp [hc2_1]), rfl, rfl⟩), ⟨_, rfl⟩, hW, hsame.mono (by decide) (by decide)⟩
  ·
    refine Goes.step (T' := s₁) (g' := (mkF m 5 #[.val (.int p1), .val (.int p2)] [])) (fun _ kz => XS.icmpNo X0.here hx rfl (hb hby d_jdk_29_method_65_2) rfl (flt hc2_1).1 kz) ?_
    refine Goes.step (T' := s₁) (g' := (mkF m 6 #[.val (.int p1), .val (.int p2)] [(.int p1)])) (fun _ kz => XS.iloadN X0.here hx rfl (hb hby d_jdk_29_method_65_5) rfl  kz) ?_
    refine Goes.step (T' := s₁) (g' := (mkF m 10 #[.val (.int p1), .val (.int p2)] [(.int p1)])) (fun _ kz => XS.goto X0.here hx rfl (pc0 := 6) (pc' := 10) rfl (hb hby d_jdk_29_method_65_6) (by decide) (by decide) kz) ?_
    obtain ⟨fs, hr, hrun, hended, hW, hsame⟩ := X0.leave (v := some (.int p1)) (fun h => by rw [Bd.returns] at h; cases h)
    exact ⟨_, _, retOut X0 hx Bd.returns rfl (Or.inl ⟨rfl, Or.inl rfl, _, rfl⟩) (hb hby d_jdk_29_method_65_10) hr, hrun, hended, _, _, rfl, (by show Q_mathmax Z p1 p2 h0 n0 _ s₁.heap _; rw [e0]; exact ⟨(by simp [hc2_1]), rfl, rfl⟩), ⟨_, rfl⟩, hW, hsame.mono (by decide) (by decide)⟩
theorem d_jdk_29_method_69_0 : decode jdk_29_method_69_code 0 = .ok (.iload_n 0, 1) := by decide +kernel
theorem d_jdk_29_method_69_1 : decode jdk_29_method_69_code 1 = .ok (.iload_n 1, 1) := by decide +kernel
theorem d_jdk_29_method_69_2 : decode jdk_29_method_69_code 2 = .ok (.if_icmp .gt 7, 3) := by decide +kernel
theorem d_jdk_29_method_69_9 : decode jdk_29_method_69_code 9 = .ok (.iload_n 1, 1) := by decide +kernel
theorem d_jdk_29_method_69_10 : decode jdk_29_method_69_code 10 = .ok (.ireturn, 1) := by decide +kernel
theorem d_jdk_29_method_69_5 : decode jdk_29_method_69_code 5 = .ok (.iload_n 0, 1) := by decide +kernel
theorem d_jdk_29_method_69_6 : decode jdk_29_method_69_code 6 = .ok (.goto 4, 3) := by decide +kernel
theorem ef_mathmin (m : MethodId) (p1 : Int32) (p2 : Int32) : entryFrame m #[(.int p1), (.int p2)] 2 = mkF m 0 #[.val (.int p1), .val (.int p2)] [] := by first | (simp [entryFrame, mkF, argsToLocals, Value.category, maxLocals]; done) | rfl
def Q_mathmin (Z : State) (p1 : Int32) (p2 : Int32) (h0 : Heap) (n0 : Nat) (v : Option Value) (h : Heap) (L : List Loc) : Prop := (v = some (.int (if p2 < p1 then p2 else p1))) ∧ (L = []) ∧ (h = h0)
set_option maxRecDepth 65536 in
set_option maxHeartbeats 40000000 in
theorem rm_mathmin (l : Launch) (Z : State) (a0 : Array Value) (hw : ∀ d ∈ tables_1, d.before a0 Z = true) (ws : List Jvm.Cond) (p1 : Int32) (p2 : Int32) (h0 : Heap) (n0 : Nat) (O0 : Old Z n0 h0)   :
    MetFree l (⟨"java/lang/Math", "min", "(II)I"⟩ : MethodName) (head1 ((Jvm.Cond.code (⟨"java/lang/Math", "min", "(II)I"⟩ : MethodName) jdk_29_method_69_code 2 (some .int)) :: ws) ({ frames := 0, cells := 0, slots := 0, locals := 0 } : Room)) (fun a U => a = #[(.int p1), (.int p2)] ∧ Z.Warmed39 U.vm ∧ U.heap = h0) (fun _ _ _ _ _ => True) (fun _ U o U' => ∃ v L, o = .returned v ∧ Q_mathmin Z p1 p2 h0 n0 v U'.heap L ∧ FrameEnd U o U' L ({ frames := 0, cells := 0, slots := 0, locals := 0 } : Room).cells ({ frames := 0, cells := 0, slots := 0, locals := 0 } : Room).slots) := by
  refine MetFree.of_bodySF (Jvm.Free.JP.mathPlain rfl (by decide)) hisR ?_
  intro p e s m args below meth c s₁ Bd hml0 hP hK
  obtain ⟨rfl, hZ, hh⟩ := hP
  have hx := Bd.exec
  have hby := Bd.bytes
  have hml : c.maxLocals = 2 := hml0
  have hown : s.vm.findClass "java/lang/Math" = some m.cls := findClass_of_methodNamed Bd.named
  have hnm := (name_of_methodNamed Bd.named Bd.method).1
  have X0 : Stand p l e ({ frames := 0, cells := 0, slots := 0, locals := 0 } : Room) s m #[(.int p1), (.int p2)] below meth c s₁ [] 0 0 := Stand.of_body Bd
  have e0 : s₁.heap = h0 := by rw [← hh, Bd.state]; rfl
  have N0 := Fr.nil n0
  have K0 : Keep h0 h0 [] := Keep.refl _ _
  suffices hG : Goes p e below (fun o U' => ∃ v L, o = .returned v ∧ Q_mathmin Z p1 p2 h0 n0 v U'.heap L ∧ FrameEnd s o U' L ({ frames := 0, cells := 0, slots := 0, locals := 0 } : Room).cells ({ frames := 0, cells := 0, slots := 0, locals := 0 } : Room).slots) s₁ (mkF m 0 #[.val (.int p1), .val (.int p2)] []) by
    obtain ⟨t, o, h1, h2⟩ := hG; exact ⟨t, o, castTop (ef_mathmin m p1 p2) h1, h2⟩
  refine Goes.step (T' := s₁) (g' := (mkF m 1 #[.val (.int p1), .val (.int p2)] [(.int p1)])) (fun _ kz => XS.iloadN X0.here hx rfl (hb hby d_jdk_29_method_69_0) rfl  kz) ?_
  refine Goes.step (T' := s₁) (g' := (mkF m 2 #[.val (.int p1), .val (.int p2)] [(.int p2), (.int p1)])) (fun _ kz => XS.iloadN X0.here hx rfl (hb hby d_jdk_29_method_69_1) rfl  kz) ?_
  by_cases hc2_2 : p2 < p1
  ·
    refine Goes.step (T' := s₁) (g' := (mkF m 9 #[.val (.int p1), .val (.int p2)] [])) (fun _ kz => XS.icmpYes X0.here hx rfl (pc0 := 2) (pc' := 9) rfl (hb hby d_jdk_29_method_69_2) rfl (tlt hc2_2).2.2.1 (by decide) (by decide) kz) ?_
    refine Goes.step (T' := s₁) (g' := (mkF m 10 #[.val (.int p1), .val (.int p2)] [(.int p2)])) (fun _ kz => XS.iloadN X0.here hx rfl (hb hby d_jdk_29_method_69_9) rfl  kz) ?_
    obtain ⟨fs, hr, hrun, hended, hW, hsame⟩ := X0.leave (v := some (.int p2)) (fun h => by rw [Bd.returns] at h; cases h)
    exact ⟨_, _, retOut X0 hx Bd.returns rfl (Or.inl ⟨rfl, Or.inl rfl, _, rfl⟩) (hb hby d_jdk_29_method_69_10) hr, hrun, hended, _, _, rfl, (by show Q_mathmin Z p1 p2 h0 n0 _ s₁.heap _; rw [e0]; exact ⟨(by simp [hc2_2]), rfl, rfl⟩), ⟨_, rfl⟩, hW, hsame.mono (by decide) (by decide)⟩
  ·
    refine Goes.step (T' := s₁) (g' := (mkF m 5 #[.val (.int p1), .val (.int p2)] [])) (fun _ kz => XS.icmpNo X0.here hx rfl (hb hby d_jdk_29_method_69_2) rfl (flt hc2_2).2.2.1 kz) ?_
    refine Goes.step (T' := s₁) (g' := (mkF m 6 #[.val (.int p1), .val (.int p2)] [(.int p1)])) (fun _ kz => XS.iloadN X0.here hx rfl (hb hby d_jdk_29_method_69_5) rfl  kz) ?_
    refine Goes.step (T' := s₁) (g' := (mkF m 10 #[.val (.int p1), .val (.int p2)] [(.int p1)])) (fun _ kz => XS.goto X0.here hx rfl (pc0 := 6) (pc' := 10) rfl (hb hby d_jdk_29_method_69_6) (by decide) (by decide) kz) ?_
    obtain ⟨fs, hr, hrun, hended, hW, hsame⟩ := X0.leave (v := some (.int p1)) (fun h => by rw [Bd.returns] at h; cases h)
    exact ⟨_, _, retOut X0 hx Bd.returns rfl (Or.inl ⟨rfl, Or.inl rfl, _, rfl⟩) (hb hby d_jdk_29_method_69_10) hr, hrun, hended, _, _, rfl, (by show Q_mathmin Z p1 p2 h0 n0 _ s₁.heap _; rw [e0]; exact ⟨(by simp [hc2_2]), rfl, rfl⟩), ⟨_, rfl⟩, hW, hsame.mono (by decide) (by decide)⟩
theorem d_jdk_42_method_154_0 : decode jdk_42_method_154_code 0 = .ok (.getstatic 38, 3) := by decide +kernel
theorem d_jdk_42_method_154_3 : decode jdk_42_method_154_code 3 = .ok (.ifCond .eq 14, 3) := by decide +kernel
theorem d_jdk_42_method_154_6 : decode jdk_42_method_154_code 6 = .ok (.aload_n 0, 1) := by decide +kernel
theorem d_jdk_42_method_154_7 : decode jdk_42_method_154_code 7 = .ok (.getfield 15, 3) := by decide +kernel
theorem d_jdk_42_method_154_10 : decode jdk_42_method_154_code 10 = .ok (.ifCond .ne 7, 3) := by decide +kernel
theorem d_jdk_42_method_154_13 : decode jdk_42_method_154_code 13 = .ok (.iconst 1, 1) := by decide +kernel
theorem d_jdk_42_method_154_14 : decode jdk_42_method_154_code 14 = .ok (.goto 4, 3) := by decide +kernel
theorem d_jdk_42_method_154_18 : decode jdk_42_method_154_code 18 = .ok (.ireturn, 1) := by decide +kernel
theorem pn_1 : plainName "java/lang/String" = true := by first | (simp [plainName, overriddenIn]; done) | decide +kernel
theorem ef_isLat (m : MethodId) (a1 : Addr) : entryFrame m #[(.ref a1)] 1 = mkF m 0 #[.val (.ref a1)] [] := by first | (simp [entryFrame, mkF, argsToLocals, Value.category, maxLocals]; done) | rfl
def Q_isLat (Z : State) (a1 : Addr) (h0 : Heap) (n0 : Nat) (v : Option Value) (h : Heap) (L : List Loc) : Prop := (v = some (.int (1 : Int32))) ∧ (L = []) ∧ (h = h0)
set_option maxRecDepth 65536 in
set_option maxHeartbeats 40000000 in
theorem rm_isLat (l : Launch) (Z : State) (a0 : Array Value) (hw : ∀ d ∈ tables_1, d.before a0 Z = true) (ws : List Jvm.Cond) (a1 : Addr) (h0 : Heap) (n0 : Nat) (O0 : Old Z n0 h0) (zcs : Int32) (Scs : Sta Z Z.heap "java/lang/String" "COMPACT_STRINGS" "Z" (.int zcs)) (hz_Scs : ¬ zcs = 0) (F_a1_coder : Fld Z h0 a1 "java/lang/String" "coder" "B" (.int (0 : Int32))) :
    MetFree l (⟨"java/lang/String", "isLatin1", "()Z"⟩ : MethodName) (head1 ((Jvm.Cond.code (⟨"java/lang/String", "isLatin1", "()Z"⟩ : MethodName) jdk_42_method_154_code 1 (some .boolean)) :: ws) ({ frames := 0, cells := 0, slots := 0, locals := 0 } : Room)) (fun a U => a = #[(.ref a1)] ∧ Z.Warmed39 U.vm ∧ U.heap = h0) (fun _ _ _ _ _ => True) (fun _ U o U' => ∃ v L, o = .returned v ∧ Q_isLat Z a1 h0 n0 v U'.heap L ∧ FrameEnd U o U' L ({ frames := 0, cells := 0, slots := 0, locals := 0 } : Room).cells ({ frames := 0, cells := 0, slots := 0, locals := 0 } : Room).slots) := by
  refine MetFree.of_bodySF (plainFor_of_name pn_1) hisR ?_
  intro p e s m args below meth c s₁ Bd hml0 hP hK
  obtain ⟨rfl, hZ, hh⟩ := hP
  have hx := Bd.exec
  have hby := Bd.bytes
  have hml : c.maxLocals = 1 := hml0
  have hown : s.vm.findClass "java/lang/String" = some m.cls := findClass_of_methodNamed Bd.named
  have hnm := (name_of_methodNamed Bd.named Bd.method).1
  have X0 : Stand p l e ({ frames := 0, cells := 0, slots := 0, locals := 0 } : Room) s m #[(.ref a1)] below meth c s₁ [] 0 0 := Stand.of_body Bd
  have e0 : s₁.heap = h0 := by rw [← hh, Bd.state]; rfl
  have N0 := Fr.nil n0
  have K0 : Keep h0 h0 [] := Keep.refl _ _
  suffices hG : Goes p e below (fun o U' => ∃ v L, o = .returned v ∧ Q_isLat Z a1 h0 n0 v U'.heap L ∧ FrameEnd s o U' L ({ frames := 0, cells := 0, slots := 0, locals := 0 } : Room).cells ({ frames := 0, cells := 0, slots := 0, locals := 0 } : Room).slots) s₁ (mkF m 0 #[.val (.ref a1)] []) by
    obtain ⟨t, o, h1, h2⟩ := hG; exact ⟨t, o, castTop (ef_isLat m a1) h1, h2⟩
  obtain ⟨T3, X3, e3, st3⟩ := getS2 X0 hx hZ hown (host := "") (Or.inl (hw _ (List.mem_of_getElem? (i := 25) rfl))) Via.refl e0 (Scs.ext O0.2) (g := (mkF m 0 #[.val (.ref a1)] [])) rfl (hb hby d_jdk_42_method_154_0)
  refine Goes.step (T' := T3) (g' := (mkF m 3 #[.val (.ref a1)] [(.int zcs)])) st3 ?_
  refine Goes.step (T' := T3) (g' := (mkF m 6 #[.val (.ref a1)] [])) (fun _ kz => XS.ifNo X3.here hx rfl (hb hby d_jdk_42_method_154_3) rfl ((if0 _ _).trans (feq hz_Scs).1) kz) ?_
  refine Goes.step (T' := T3) (g' := (mkF m 7 #[.val (.ref a1)] [(.ref a1)])) (fun _ kz => XS.aloadN X3.here hx rfl (hb hby d_jdk_42_method_154_6) rfl rfl kz) ?_
  obtain ⟨T4, X4, e4, st4⟩ := getF X3 hx hZ hown (host := "") (Or.inl (hw _ (List.mem_of_getElem? (i := 37) rfl))) Via.refl e3 F_a1_coder (g := (mkF m 7 #[.val (.ref a1)] [(.ref a1)])) rfl rfl (hb hby d_jdk_42_method_154_7)
  refine Goes.step (T' := T4) (g' := (mkF m 10 #[.val (.ref a1)] [(.int (0 : Int32))])) st4 ?_
  refine Goes.step (T' := T4) (g' := (mkF m 13 #[.val (.ref a1)] [])) (fun _ kz => XS.ifNo X4.here hx rfl (hb hby d_jdk_42_method_154_10) rfl ((if0 _ _).trans (teq (by decide : ((0 : Int32) = (0 : Int32)))).2) kz) ?_
  refine Goes.step (T' := T4) (g' := (mkF m 14 #[.val (.ref a1)] [(.int (1 : Int32))])) (fun _ kz => XS.iconst X4.here hx rfl (hb hby d_jdk_42_method_154_13) kz) ?_
  refine Goes.step (T' := T4) (g' := (mkF m 18 #[.val (.ref a1)] [(.int (1 : Int32))])) (fun _ kz => XS.goto X4.here hx rfl (pc0 := 14) (pc' := 18) rfl (hb hby d_jdk_42_method_154_14) (by decide) (by decide) kz) ?_
  obtain ⟨fs, hr, hrun, hended, hW, hsame⟩ := X4.leave (v := some (.int (nar .boolean (1 : Int32)))) (fun h => by rw [Bd.returns] at h; cases h)
  exact ⟨_, _, retN X4 hx (t := .boolean) Bd.returns (by simp) (hb hby d_jdk_42_method_154_18) hr, hrun, hended, _, _, rfl, (by show Q_isLat Z a1 h0 n0 _ T4.heap _; rw [e4]; exact ⟨rfl, rfl, rfl⟩), ⟨_, rfl⟩, hW, hsame.mono (by decide) (by decide)⟩
theorem d_jdk_43_method_23_0 : decode jdk_43_method_23_code 0 = .ok (.iload_n 1, 1) := by decide +kernel
theorem d_jdk_43_method_23_1 : decode jdk_43_method_23_code 1 = .ok (.i2b, 1) := by decide +kernel
theorem d_jdk_43_method_23_2 : decode jdk_43_method_23_code 2 = .ok (.istore 4, 2) := by decide +kernel
theorem d_jdk_43_method_23_4 : decode jdk_43_method_23_code 4 = .ok (.iload_n 2, 1) := by decide +kernel
theorem d_jdk_43_method_23_5 : decode jdk_43_method_23_code 5 = .ok (.istore 5, 2) := by decide +kernel
theorem d_jdk_43_method_23_7 : decode jdk_43_method_23_code 7 = .ok (.iload 5, 2) := by decide +kernel
theorem d_jdk_43_method_23_9 : decode jdk_43_method_23_code 9 = .ok (.iload_n 3, 1) := by decide +kernel
theorem d_jdk_43_method_23_10 : decode jdk_43_method_23_code 10 = .ok (.if_icmp .ge 21, 3) := by decide +kernel
theorem d_jdk_43_method_23_31 : decode jdk_43_method_23_code 31 = .ok (.iconst (-1), 1) := by decide +kernel
theorem d_jdk_43_method_23_32 : decode jdk_43_method_23_code 32 = .ok (.ireturn, 1) := by decide +kernel
theorem d_jdk_43_method_23_13 : decode jdk_43_method_23_code 13 = .ok (.aload_n 0, 1) := by decide +kernel
theorem d_jdk_43_method_23_14 : decode jdk_43_method_23_code 14 = .ok (.iload 5, 2) := by decide +kernel
theorem d_jdk_43_method_23_16 : decode jdk_43_method_23_code 16 = .ok (.baload, 1) := by decide +kernel
theorem d_jdk_43_method_23_17 : decode jdk_43_method_23_code 17 = .ok (.iload 4, 2) := by decide +kernel
theorem d_jdk_43_method_23_19 : decode jdk_43_method_23_code 19 = .ok (.if_icmp .ne 6, 3) := by decide +kernel
theorem d_jdk_43_method_23_22 : decode jdk_43_method_23_code 22 = .ok (.iload 5, 2) := by decide +kernel
theorem d_jdk_43_method_23_24 : decode jdk_43_method_23_code 24 = .ok (.ireturn, 1) := by decide +kernel
theorem d_jdk_43_method_23_25 : decode jdk_43_method_23_code 25 = .ok (.iinc 5 1, 3) := by decide +kernel
theorem d_jdk_43_method_23_28 : decode jdk_43_method_23_code 28 = .ok (.goto (-21), 3) := by decide +kernel
theorem ef_ixChar (m : MethodId) (a1 : Addr) (q3 : Int32) : entryFrame m #[(.ref a1), (.int (46 : Int32)), (.int (0 : Int32)), (.int q3)] 6 = mkF m 0 #[.val (.ref a1), .val (.int (46 : Int32)), .val (.int (0 : Int32)), .val (.int q3), .unset, .unset] [] := by first | (simp [entryFrame, mkF, argsToLocals, Value.category, maxLocals]; done) | rfl
def Q_ixChar (Z : State) (a1 : Addr) (kb : ClassId) (cs : List Int32) (h0 : Heap) (n0 : Nat) (v : Option Value) (h : Heap) (L : List Loc) : Prop := (v = some (.int (if IX cs = cs.length then -1 else Int32.ofNat (IX cs)))) ∧ (L = []) ∧ (h = h0)
set_option maxRecDepth 65536 in
set_option maxHeartbeats 40000000 in
theorem rm_ixChar (l : Launch) (Z : State) (a0 : Array Value) (hw : ∀ d ∈ tables_1, d.before a0 Z = true) (ws : List Jvm.Cond) (a1 : Addr) (kb : ClassId) (cs : List Int32) (h0 : Heap) (n0 : Nat) (O0 : Old Z n0 h0)  (V_a1 : Arv Z h0 a1 kb .byte (Int32.ofNat cs.length) (cs.map fun c => Value.int (c.toInt8.toInt32)) (.int 0)) (hl : cs.length ≤ 4000) (hbd : ∀ c ∈ cs, ¬ c < 0 ∧ ¬ (255 : Int32) < c) :
    MetFree l (⟨"java/lang/StringLatin1", "indexOfChar", "([BIII)I"⟩ : MethodName) (head1 ((Jvm.Cond.code (⟨"java/lang/StringLatin1", "indexOfChar", "([BIII)I"⟩ : MethodName) jdk_43_method_23_code 6 (some .int)) :: ws) ({ frames := 0, cells := 0, slots := 0, locals := 0 } : Room)) (fun a U => a = #[(.ref a1), (.int (46 : Int32)), (.int (0 : Int32)), (.int (Int32.ofNat cs.length))] ∧ Z.Warmed39 U.vm ∧ U.heap = h0) (fun _ _ _ _ _ => True) (fun _ U o U' => ∃ v L, o = .returned v ∧ Q_ixChar Z a1 kb cs h0 n0 v U'.heap L ∧ FrameEnd U o U' L ({ frames := 0, cells := 0, slots := 0, locals := 0 } : Room).cells ({ frames := 0, cells := 0, slots := 0, locals := 0 } : Room).slots) := by
  refine MetFree.of_bodySF (plainFor_of_name pn_0) hisR ?_
  intro p e s m args below meth c s₁ Bd hml0 hP hK
  obtain ⟨rfl, hZ, hh⟩ := hP
  have hx := Bd.exec
  have hby := Bd.bytes
  have hml : c.maxLocals = 6 := hml0
  have hown : s.vm.findClass "java/lang/StringLatin1" = some m.cls := findClass_of_methodNamed Bd.named
  have hnm := (name_of_methodNamed Bd.named Bd.method).1
  have X0 : Stand p l e ({ frames := 0, cells := 0, slots := 0, locals := 0 } : Room) s m #[(.ref a1), (.int (46 : Int32)), (.int (0 : Int32)), (.int (Int32.ofNat cs.length))] below meth c s₁ [] 0 0 := Stand.of_body Bd
  have e0 : s₁.heap = h0 := by rw [← hh, Bd.state]; rfl
  have N0 := Fr.nil n0
  have K0 : Keep h0 h0 [] := Keep.refl _ _
  suffices hG : Goes p e below (fun o U' => ∃ v L, o = .returned v ∧ Q_ixChar Z a1 kb cs h0 n0 v U'.heap L ∧ FrameEnd s o U' L ({ frames := 0, cells := 0, slots := 0, locals := 0 } : Room).cells ({ frames := 0, cells := 0, slots := 0, locals := 0 } : Room).slots) s₁ (mkF m 0 #[.val (.ref a1), .val (.int (46 : Int32)), .val (.int (0 : Int32)), .val (.int (Int32.ofNat cs.length)), .unset, .unset] []) by
    obtain ⟨t, o, h1, h2⟩ := hG; exact ⟨t, o, castTop (ef_ixChar m a1 (Int32.ofNat cs.length)) h1, h2⟩
  refine Goes.step (T' := s₁) (g' := (mkF m 1 #[.val (.ref a1), .val (.int (46 : Int32)), .val (.int (0 : Int32)), .val (.int (Int32.ofNat cs.length)), .unset, .unset] [(.int (46 : Int32))])) (fun _ kz => XS.iloadN X0.here hx rfl (hb hby d_jdk_43_method_23_0) rfl  kz) ?_
  refine Goes.step (T' := s₁) (g' := (mkF m 2 #[.val (.ref a1), .val (.int (46 : Int32)), .val (.int (0 : Int32)), .val (.int (Int32.ofNat cs.length)), .unset, .unset] [(.int ((46 : Int32).toInt8.toInt32))])) (fun _ kz => XS.i2b X0.here hx rfl (hb hby d_jdk_43_method_23_1) rfl kz) ?_
  refine Goes.step (T' := s₁) (g' := (mkF m 4 #[.val (.ref a1), .val (.int (46 : Int32)), .val (.int (0 : Int32)), .val (.int (Int32.ofNat cs.length)), .val (.int ((46 : Int32).toInt8.toInt32)), .unset] [])) (fun _ kz => XS.istore X0.here hx rfl (hb hby d_jdk_43_method_23_2) rfl (l' := #[.val (.ref a1), .val (.int (46 : Int32)), .val (.int (0 : Int32)), .val (.int (Int32.ofNat cs.length)), .val (.int ((46 : Int32).toInt8.toInt32)), .unset]) rfl kz) ?_
  refine Goes.step (T' := s₁) (g' := (mkF m 5 #[.val (.ref a1), .val (.int (46 : Int32)), .val (.int (0 : Int32)), .val (.int (Int32.ofNat cs.length)), .val (.int ((46 : Int32).toInt8.toInt32)), .unset] [(.int (0 : Int32))])) (fun _ kz => XS.iloadN X0.here hx rfl (hb hby d_jdk_43_method_23_4) rfl  kz) ?_
  refine Goes.step (T' := s₁) (g' := (mkF m 7 #[.val (.ref a1), .val (.int (46 : Int32)), .val (.int (0 : Int32)), .val (.int (Int32.ofNat cs.length)), .val (.int ((46 : Int32).toInt8.toInt32)), .val (.int (0 : Int32))] [])) (fun _ kz => XS.istore X0.here hx rfl (hb hby d_jdk_43_method_23_5) rfl (l' := #[.val (.ref a1), .val (.int (46 : Int32)), .val (.int (0 : Int32)), .val (.int (Int32.ofNat cs.length)), .val (.int ((46 : Int32).toInt8.toInt32)), .val (.int (0 : Int32))]) rfl kz) ?_
  have loop : ∀ (k i : Nat), i + k = cs.length → IX cs = i + IX (cs.drop i) → Goes p e below (fun o U' => ∃ v L, o = .returned v ∧ Q_ixChar Z a1 kb cs h0 n0 v U'.heap L ∧ FrameEnd s o U' L ({ frames := 0, cells := 0, slots := 0, locals := 0 } : Room).cells ({ frames := 0, cells := 0, slots := 0, locals := 0 } : Room).slots) s₁ (mkF m 7 #[.val (.ref a1), .val (.int (46 : Int32)), .val (.int (0 : Int32)), .val (.int (Int32.ofNat cs.length)), .val (.int ((46 : Int32).toInt8.toInt32)), .val (.int (Int32.ofNat i))] []) := by
    intro k; induction k with
    | zero =>
      intro i hik hix
      have hi : cs.length = i := by omega
      refine Goes.step (T' := s₁) (g' := (mkF m 9 #[.val (.ref a1), .val (.int (46 : Int32)), .val (.int (0 : Int32)), .val (.int (Int32.ofNat cs.length)), .val (.int ((46 : Int32).toInt8.toInt32)), .val (.int (Int32.ofNat i))] [(.int (Int32.ofNat i))])) (fun _ kz => XS.iload X0.here hx rfl (hb hby d_jdk_43_method_23_7) rfl  kz) ?_
      refine Goes.step (T' := s₁) (g' := (mkF m 10 #[.val (.ref a1), .val (.int (46 : Int32)), .val (.int (0 : Int32)), .val (.int (Int32.ofNat cs.length)), .val (.int ((46 : Int32).toInt8.toInt32)), .val (.int (Int32.ofNat i))] [(.int (Int32.ofNat cs.length)), (.int (Int32.ofNat i))])) (fun _ kz => XS.iloadN X0.here hx rfl (hb hby d_jdk_43_method_23_9) rfl  kz) ?_
      refine Goes.step (T' := s₁) (g' := (mkF m 31 #[.val (.ref a1), .val (.int (46 : Int32)), .val (.int (0 : Int32)), .val (.int (Int32.ofNat cs.length)), .val (.int ((46 : Int32).toInt8.toInt32)), .val (.int (Int32.ofNat i))] [])) (fun _ kz => XS.icmpYes X0.here hx rfl (pc0 := 10) (pc' := 31) rfl (hb hby d_jdk_43_method_23_10) rfl (flt (fun q => absurd ((own_lt (by omega) hl).mp q) (by omega) : ¬ Int32.ofNat i < Int32.ofNat cs.length)).2.1 (by decide) (by decide) kz) ?_
      refine Goes.step (T' := s₁) (g' := (mkF m 32 #[.val (.ref a1), .val (.int (46 : Int32)), .val (.int (0 : Int32)), .val (.int (Int32.ofNat cs.length)), .val (.int ((46 : Int32).toInt8.toInt32)), .val (.int (Int32.ofNat i))] [(.int (-1 : Int32))])) (fun _ kz => XS.iconst X0.here hx rfl (hb hby d_jdk_43_method_23_31) kz) ?_
      obtain ⟨fs, hr, hrun, hended, hW, hsame⟩ := X0.leave (v := some (.int (-1 : Int32))) (fun h => by rw [Bd.returns] at h; cases h)
      exact ⟨_, _, retOut X0 hx Bd.returns rfl (Or.inl ⟨rfl, Or.inl rfl, _, rfl⟩) (hb hby d_jdk_43_method_23_32) hr, hrun, hended, _, _, rfl, (by show Q_ixChar Z a1 kb cs h0 n0 _ s₁.heap _; rw [e0]; exact ⟨(by rw [if_pos (show IX cs = cs.length by rw [hix, ← hi]; simp [IX])]), rfl, rfl⟩), ⟨_, rfl⟩, hW, hsame.mono (by decide) (by decide)⟩
    | succ k ih =>
      intro i hik hix
      have hi : i < cs.length := by omega
      have hm := hbd _ (own_mem hi)
      have hd := IX_drop hi
      refine Goes.step (T' := s₁) (g' := (mkF m 9 #[.val (.ref a1), .val (.int (46 : Int32)), .val (.int (0 : Int32)), .val (.int (Int32.ofNat cs.length)), .val (.int ((46 : Int32).toInt8.toInt32)), .val (.int (Int32.ofNat i))] [(.int (Int32.ofNat i))])) (fun _ kz => XS.iload X0.here hx rfl (hb hby d_jdk_43_method_23_7) rfl  kz) ?_
      refine Goes.step (T' := s₁) (g' := (mkF m 10 #[.val (.ref a1), .val (.int (46 : Int32)), .val (.int (0 : Int32)), .val (.int (Int32.ofNat cs.length)), .val (.int ((46 : Int32).toInt8.toInt32)), .val (.int (Int32.ofNat i))] [(.int (Int32.ofNat cs.length)), (.int (Int32.ofNat i))])) (fun _ kz => XS.iloadN X0.here hx rfl (hb hby d_jdk_43_method_23_9) rfl  kz) ?_
      refine Goes.step (T' := s₁) (g' := (mkF m 13 #[.val (.ref a1), .val (.int (46 : Int32)), .val (.int (0 : Int32)), .val (.int (Int32.ofNat cs.length)), .val (.int ((46 : Int32).toInt8.toInt32)), .val (.int (Int32.ofNat i))] [])) (fun _ kz => XS.icmpNo X0.here hx rfl (hb hby d_jdk_43_method_23_10) rfl (tlt ((own_lt (by omega) hl).mpr hi)).2.1 kz) ?_
      refine Goes.step (T' := s₁) (g' := (mkF m 14 #[.val (.ref a1), .val (.int (46 : Int32)), .val (.int (0 : Int32)), .val (.int (Int32.ofNat cs.length)), .val (.int ((46 : Int32).toInt8.toInt32)), .val (.int (Int32.ofNat i))] [(.ref a1)])) (fun _ kz => XS.aloadN X0.here hx rfl (hb hby d_jdk_43_method_23_13) rfl rfl kz) ?_
      refine Goes.step (T' := s₁) (g' := (mkF m 16 #[.val (.ref a1), .val (.int (46 : Int32)), .val (.int (0 : Int32)), .val (.int (Int32.ofNat cs.length)), .val (.int ((46 : Int32).toInt8.toInt32)), .val (.int (Int32.ofNat i))] [(.int (Int32.ofNat i)), (.ref a1)])) (fun _ kz => XS.iload X0.here hx rfl (hb hby d_jdk_43_method_23_14) rfl  kz) ?_
      obtain ⟨cl5, Ar5, q5, Sz5, Nn5, Hs5, Gs5⟩ := (id V_a1 : Arv Z h0 a1 kb .byte (Int32.ofNat cs.length) (cs.map fun c => Value.int (c.toInt8.toInt32)) (.int 0))
      refine Goes.step (T' := s₁) (g' := (mkF m 17 #[.val (.ref a1), .val (.int (46 : Int32)), .val (.int (0 : Int32)), .val (.int (Int32.ofNat cs.length)), .val (.int ((46 : Int32).toInt8.toInt32)), .val (.int (Int32.ofNat i))] [(.int ((cs.getD i 0).toInt8.toInt32))])) (X0.baloadBytes hx (j := (Int32.ofNat i)) (v := (.int ((cs.getD i 0).toInt8.toInt32))) (by rw [e0]; exact Ar5.1) (State.isArrayOf_alike hZ.alike Ar5.2.1) Ar5.2.2 (inb_of Sz5 ⟨own_nn (by omega), (own_lt (by omega) hl).mpr hi⟩) (Has.at Hs5 (inb_of Sz5 ⟨own_nn (by omega), (own_lt (by omega) hl).mpr hi⟩) (by rw [own_clamp (by omega)]; exact own_at hi)) (g := (mkF m 16 #[.val (.ref a1), .val (.int (46 : Int32)), .val (.int (0 : Int32)), .val (.int (Int32.ofNat cs.length)), .val (.int ((46 : Int32).toInt8.toInt32)), .val (.int (Int32.ofNat i))] [(.int (Int32.ofNat i)), (.ref a1)])) rfl rfl (hb hby d_jdk_43_method_23_16)) ?_
      refine Goes.step (T' := s₁) (g' := (mkF m 19 #[.val (.ref a1), .val (.int (46 : Int32)), .val (.int (0 : Int32)), .val (.int (Int32.ofNat cs.length)), .val (.int ((46 : Int32).toInt8.toInt32)), .val (.int (Int32.ofNat i))] [(.int ((46 : Int32).toInt8.toInt32)), (.int ((cs.getD i 0).toInt8.toInt32))])) (fun _ kz => XS.iload X0.here hx rfl (hb hby d_jdk_43_method_23_17) rfl  kz) ?_
      by_cases hc19_6 : ((cs.getD i 0).toInt8.toInt32) = ((46 : Int32).toInt8.toInt32)
      ·
        refine Goes.step (T' := s₁) (g' := (mkF m 22 #[.val (.ref a1), .val (.int (46 : Int32)), .val (.int (0 : Int32)), .val (.int (Int32.ofNat cs.length)), .val (.int ((46 : Int32).toInt8.toInt32)), .val (.int (Int32.ofNat i))] [])) (fun _ kz => XS.icmpNo X0.here hx rfl (hb hby d_jdk_43_method_23_19) rfl (teq hc19_6).2 kz) ?_
        refine Goes.step (T' := s₁) (g' := (mkF m 24 #[.val (.ref a1), .val (.int (46 : Int32)), .val (.int (0 : Int32)), .val (.int (Int32.ofNat cs.length)), .val (.int ((46 : Int32).toInt8.toInt32)), .val (.int (Int32.ofNat i))] [(.int (Int32.ofNat i))])) (fun _ kz => XS.iload X0.here hx rfl (hb hby d_jdk_43_method_23_22) rfl  kz) ?_
        obtain ⟨fs, hr, hrun, hended, hW, hsame⟩ := X0.leave (v := some (.int (Int32.ofNat i))) (fun h => by rw [Bd.returns] at h; cases h)
        exact ⟨_, _, retOut X0 hx Bd.returns rfl (Or.inl ⟨rfl, Or.inl rfl, _, rfl⟩) (hb hby d_jdk_43_method_23_24) hr, hrun, hended, _, _, rfl, (by show Q_ixChar Z a1 kb cs h0 n0 _ s₁.heap _; rw [e0]; exact ⟨(by have h1 : IX cs = i := (by rw [hix, hd, if_pos ((own_by46 hm).mp hc19_6)]; rfl); rw [if_neg (by omega), h1]), rfl, rfl⟩), ⟨_, rfl⟩, hW, hsame.mono (by decide) (by decide)⟩
      ·
        refine Goes.step (T' := s₁) (g' := (mkF m 25 #[.val (.ref a1), .val (.int (46 : Int32)), .val (.int (0 : Int32)), .val (.int (Int32.ofNat cs.length)), .val (.int ((46 : Int32).toInt8.toInt32)), .val (.int (Int32.ofNat i))] [])) (fun _ kz => XS.icmpYes X0.here hx rfl (pc0 := 19) (pc' := 25) rfl (hb hby d_jdk_43_method_23_19) rfl (feq hc19_6).2 (by decide) (by decide) kz) ?_
        refine Goes.step (T' := s₁) (g' := (mkF m 28 #[.val (.ref a1), .val (.int (46 : Int32)), .val (.int (0 : Int32)), .val (.int (Int32.ofNat cs.length)), .val (.int ((46 : Int32).toInt8.toInt32)), .val (.int ((Int32.ofNat i) + (1 : Int32)))] [])) (fun _ kz => XS.iinc X0.here hx rfl (hb hby d_jdk_43_method_23_25) rfl (l' := #[.val (.ref a1), .val (.int (46 : Int32)), .val (.int (0 : Int32)), .val (.int (Int32.ofNat cs.length)), .val (.int ((46 : Int32).toInt8.toInt32)), .val (.int ((Int32.ofNat i) + (1 : Int32)))]) rfl kz) ?_
        refine Goes.step (T' := s₁) (g' := (mkF m 7 #[.val (.ref a1), .val (.int (46 : Int32)), .val (.int (0 : Int32)), .val (.int (Int32.ofNat cs.length)), .val (.int ((46 : Int32).toInt8.toInt32)), .val (.int ((Int32.ofNat i) + (1 : Int32)))] [])) (fun _ kz => XS.goto X0.here hx rfl (pc0 := 28) (pc' := 7) rfl (hb hby d_jdk_43_method_23_28) (by decide) (by decide) kz) ?_
        rw [if_neg (fun q => hc19_6 ((own_by46 hm).mpr q))] at hd
        have hii : Int32.ofNat i + (1 : Int32) = Int32.ofNat (i + 1) := (inc_ofNat i).symm
        rw [hii]
        exact ih (i + 1) (by omega) (by omega)
  exact loop cs.length 0 (by omega) (by simp)
theorem d_jdk_43_method_22_0 : decode jdk_43_method_22_code 0 = .ok (.iload_n 1, 1) := by decide +kernel
theorem d_jdk_43_method_22_1 : decode jdk_43_method_22_code 1 = .ok (.invokestatic 88, 3) := by decide +kernel
theorem pd_0 : parseMethodDescriptor "(I)Z" = some ⟨[.int], some .boolean⟩ := by decide +kernel
theorem d_jdk_43_method_22_4 : decode jdk_43_method_22_code 4 = .ok (.ifCond .ne 5, 3) := by decide +kernel
theorem d_jdk_43_method_22_9 : decode jdk_43_method_22_code 9 = .ok (.iload_n 2, 1) := by decide +kernel
theorem d_jdk_43_method_22_10 : decode jdk_43_method_22_code 10 = .ok (.iconst 0, 1) := by decide +kernel
theorem d_jdk_43_method_22_11 : decode jdk_43_method_22_code 11 = .ok (.invokestatic 92, 3) := by decide +kernel
theorem pd_1 : parseMethodDescriptor "(II)I" = some ⟨[.int, .int], some .int⟩ := by decide +kernel
theorem d_jdk_43_method_22_14 : decode jdk_43_method_22_code 14 = .ok (.istore_n 2, 1) := by decide +kernel
theorem d_jdk_43_method_22_15 : decode jdk_43_method_22_code 15 = .ok (.iload_n 3, 1) := by decide +kernel
theorem d_jdk_43_method_22_16 : decode jdk_43_method_22_code 16 = .ok (.aload_n 0, 1) := by decide +kernel
theorem d_jdk_43_method_22_17 : decode jdk_43_method_22_code 17 = .ok (.arraylength, 1) := by decide +kernel
theorem d_jdk_43_method_22_18 : decode jdk_43_method_22_code 18 = .ok (.invokestatic 38, 3) := by decide +kernel
theorem d_jdk_43_method_22_21 : decode jdk_43_method_22_code 21 = .ok (.istore_n 3, 1) := by decide +kernel
theorem d_jdk_43_method_22_22 : decode jdk_43_method_22_code 22 = .ok (.iload_n 2, 1) := by decide +kernel
theorem d_jdk_43_method_22_23 : decode jdk_43_method_22_code 23 = .ok (.iload_n 3, 1) := by decide +kernel
theorem d_jdk_43_method_22_24 : decode jdk_43_method_22_code 24 = .ok (.if_icmp .lt 5, 3) := by decide +kernel
theorem d_jdk_43_method_22_29 : decode jdk_43_method_22_code 29 = .ok (.aload_n 0, 1) := by decide +kernel
theorem d_jdk_43_method_22_30 : decode jdk_43_method_22_code 30 = .ok (.iload_n 1, 1) := by decide +kernel
theorem d_jdk_43_method_22_31 : decode jdk_43_method_22_code 31 = .ok (.iload_n 2, 1) := by decide +kernel
theorem d_jdk_43_method_22_32 : decode jdk_43_method_22_code 32 = .ok (.iload_n 3, 1) := by decide +kernel
theorem d_jdk_43_method_22_33 : decode jdk_43_method_22_code 33 = .ok (.invokestatic 95, 3) := by decide +kernel
theorem pd_2 : parseMethodDescriptor "([BIII)I" = some ⟨[(.array .byte), .int, .int, .int], some .int⟩ := by decide +kernel
theorem d_jdk_43_method_22_36 : decode jdk_43_method_22_code 36 = .ok (.ireturn, 1) := by decide +kernel
theorem d_jdk_43_method_22_27 : decode jdk_43_method_22_code 27 = .ok (.iconst (-1), 1) := by decide +kernel
theorem d_jdk_43_method_22_28 : decode jdk_43_method_22_code 28 = .ok (.ireturn, 1) := by decide +kernel
theorem ef_ixLat (m : MethodId) (a1 : Addr) (q3 : Int32) : entryFrame m #[(.ref a1), (.int (46 : Int32)), (.int (0 : Int32)), (.int q3)] 4 = mkF m 0 #[.val (.ref a1), .val (.int (46 : Int32)), .val (.int (0 : Int32)), .val (.int q3)] [] := by first | (simp [entryFrame, mkF, argsToLocals, Value.category, maxLocals]; done) | rfl
def Q_ixLat (Z : State) (a1 : Addr) (kb : ClassId) (cs : List Int32) (h0 : Heap) (n0 : Nat) (v : Option Value) (h : Heap) (L : List Loc) : Prop := (v = some (.int (if IX cs = cs.length then -1 else Int32.ofNat (IX cs)))) ∧ (L = []) ∧ (h = h0)
set_option maxRecDepth 65536 in
set_option maxHeartbeats 40000000 in
theorem rm_ixLat (l : Launch) (Z : State) (a0 : Array Value) (hw : ∀ d ∈ tables_1, d.before a0 Z = true) (ws : List Jvm.Cond) (a1 : Addr) (kb : ClassId) (cs : List Int32) (h0 : Heap) (n0 : Nat) (O0 : Old Z n0 h0)  (V_a1 : Arv Z h0 a1 kb .byte (Int32.ofNat cs.length) (cs.map fun c => Value.int (c.toInt8.toInt32)) (.int 0)) (hl : cs.length ≤ 4000) (hbd : ∀ c ∈ cs, ¬ c < 0 ∧ ¬ (255 : Int32) < c) :
    MetFree l (⟨"java/lang/StringLatin1", "indexOf", "([BIII)I"⟩ : MethodName) (head1 ((Jvm.Cond.code (⟨"java/lang/StringLatin1", "indexOf", "([BIII)I"⟩ : MethodName) jdk_43_method_22_code 4 (some .int)) :: ws) ({ frames := 1, cells := 0, slots := 0, locals := 17 } : Room)) (fun a U => a = #[(.ref a1), (.int (46 : Int32)), (.int (0 : Int32)), (.int (Int32.ofNat cs.length))] ∧ Z.Warmed39 U.vm ∧ U.heap = h0) (fun _ _ _ _ _ => True) (fun _ U o U' => ∃ v L, o = .returned v ∧ Q_ixLat Z a1 kb cs h0 n0 v U'.heap L ∧ FrameEnd U o U' L ({ frames := 1, cells := 0, slots := 0, locals := 17 } : Room).cells ({ frames := 1, cells := 0, slots := 0, locals := 17 } : Room).slots) := by
  refine MetFree.of_bodySF (plainFor_of_name pn_0) hisR ?_
  intro p e s m args below meth c s₁ Bd hml0 hP hK
  obtain ⟨rfl, hZ, hh⟩ := hP
  have hx := Bd.exec
  have hby := Bd.bytes
  have hml : c.maxLocals = 4 := hml0
  have hown : s.vm.findClass "java/lang/StringLatin1" = some m.cls := findClass_of_methodNamed Bd.named
  have hnm := (name_of_methodNamed Bd.named Bd.method).1
  have X0 : Stand p l e ({ frames := 1, cells := 0, slots := 0, locals := 17 } : Room) s m #[(.ref a1), (.int (46 : Int32)), (.int (0 : Int32)), (.int (Int32.ofNat cs.length))] below meth c s₁ [] 0 0 := Stand.of_body Bd
  have e0 : s₁.heap = h0 := by rw [← hh, Bd.state]; rfl
  have N0 := Fr.nil n0
  have K0 : Keep h0 h0 [] := Keep.refl _ _
  suffices hG : Goes p e below (fun o U' => ∃ v L, o = .returned v ∧ Q_ixLat Z a1 kb cs h0 n0 v U'.heap L ∧ FrameEnd s o U' L ({ frames := 1, cells := 0, slots := 0, locals := 17 } : Room).cells ({ frames := 1, cells := 0, slots := 0, locals := 17 } : Room).slots) s₁ (mkF m 0 #[.val (.ref a1), .val (.int (46 : Int32)), .val (.int (0 : Int32)), .val (.int (Int32.ofNat cs.length))] []) by
    obtain ⟨t, o, h1, h2⟩ := hG; exact ⟨t, o, castTop (ef_ixLat m a1 (Int32.ofNat cs.length)) h1, h2⟩
  refine Goes.step (T' := s₁) (g' := (mkF m 1 #[.val (.ref a1), .val (.int (46 : Int32)), .val (.int (0 : Int32)), .val (.int (Int32.ofNat cs.length))] [(.int (46 : Int32))])) (fun _ kz => XS.iloadN X0.here hx rfl (hb hby d_jdk_43_method_22_0) rfl  kz) ?_
  obtain ⟨_, _, ⟨T7, L7, k7, n7⟩, -, X7, ⟨Lc7, hQ7, l7, y7, z7⟩, st7⟩ := Jvm.LawKit.callS X0 hx (y := (⟨"java/lang/StringLatin1", "canEncode", "(I)Z"⟩ : MethodName)) hown (mvT hZ (hw _ (List.mem_of_getElem? (i := 80) rfl))) (mvT hZ (hw _ (List.mem_of_getElem? (i := 81) rfl))) (mvT hZ (hw _ (List.mem_of_getElem? (i := 78) rfl))) (mvT hZ (hw _ (List.mem_of_getElem? (i := 82) rfl))) (by decide) (backOf (W := 0) (rm_canEncI l Z a0 hw []  h0 n0 O0  ) hZ (hw _ (List.mem_of_getElem? (i := 82) rfl)) (hw _ (List.mem_of_getElem? (i := 78) rfl)) (by decide) (by decide)) (g := (mkF m 1 #[.val (.ref a1), .val (.int (46 : Int32)), .val (.int (0 : Int32)), .val (.int (Int32.ofNat cs.length))] [(.int (46 : Int32))])) rfl (by rw [hml]; rfl) (argsL := [(.int (46 : Int32))]) (rest := []) (lenOf pd_0 rfl) rfl (by show 2 * 0 + _ ≤ _; exact Nat.le_of_eq rfl) (hb hby d_jdk_43_method_22_1) (fun _ _ => ⟨rfl, e0, (by decide : 0 + 0 ≤ _), (by decide : 0 + 0 ≤ _)⟩)
  dsimp only [Pt.U, Pt.locs, Pt.cells, Pt.slots] at X7 l7 y7 z7 st7 hQ7
  subst l7 y7 z7
  obtain ⟨rfl, rfl, e7⟩ := hQ7
  replace N0 := Fr.app N0 (Fr.nil n0)
  refine Goes.step (T' := T7) (g' := (mkF m 4 #[.val (.ref a1), .val (.int (46 : Int32)), .val (.int (0 : Int32)), .val (.int (Int32.ofNat cs.length))] [(.int (1 : Int32))])) st7 ?_
  refine Goes.step (T' := T7) (g' := (mkF m 9 #[.val (.ref a1), .val (.int (46 : Int32)), .val (.int (0 : Int32)), .val (.int (Int32.ofNat cs.length))] [])) (fun _ kz => XS.ifYes X7.here hx rfl (pc0 := 4) (pc' := 9) rfl (hb hby d_jdk_43_method_22_4) rfl ((if0 _ _).trans (feq (by decide : ¬ ((1 : Int32) = (0 : Int32)))).2) (by decide) (by decide) kz) ?_
  refine Goes.step (T' := T7) (g' := (mkF m 10 #[.val (.ref a1), .val (.int (46 : Int32)), .val (.int (0 : Int32)), .val (.int (Int32.ofNat cs.length))] [(.int (0 : Int32))])) (fun _ kz => XS.iloadN X7.here hx rfl (hb hby d_jdk_43_method_22_9) rfl  kz) ?_
  refine Goes.step (T' := T7) (g' := (mkF m 11 #[.val (.ref a1), .val (.int (46 : Int32)), .val (.int (0 : Int32)), .val (.int (Int32.ofNat cs.length))] [(.int (0 : Int32)), (.int (0 : Int32))])) (fun _ kz => XS.iconst X7.here hx rfl (hb hby d_jdk_43_method_22_10) kz) ?_
  obtain ⟨_, _, ⟨T8, L8, k8, n8⟩, -, X8, ⟨Lc8, hQ8, l8, y8, z8⟩, st8⟩ := Jvm.LawKit.callS X7 hx (y := (⟨"java/lang/Math", "max", "(II)I"⟩ : MethodName)) hown (mvT hZ (hw _ (List.mem_of_getElem? (i := 83) rfl))) (mvT hZ (hw _ (List.mem_of_getElem? (i := 84) rfl))) (mvT hZ (hw _ (List.mem_of_getElem? (i := 85) rfl))) (mvT hZ (hw _ (List.mem_of_getElem? (i := 86) rfl))) (by decide) (backOf (W := 0) (rm_mathmax l Z a0 hw [] (0 : Int32) (0 : Int32) h0 n0 O0  ) hZ (hw _ (List.mem_of_getElem? (i := 86) rfl)) (hw _ (List.mem_of_getElem? (i := 85) rfl)) (by decide) (by decide)) (g := (mkF m 11 #[.val (.ref a1), .val (.int (46 : Int32)), .val (.int (0 : Int32)), .val (.int (Int32.ofNat cs.length))] [(.int (0 : Int32)), (.int (0 : Int32))])) rfl (by rw [hml]; rfl) (argsL := [(.int (0 : Int32)), (.int (0 : Int32))]) (rest := []) (lenOf pd_1 rfl) rfl (by show 2 * 0 + _ ≤ _; exact Nat.le_of_eq rfl) (hb hby d_jdk_43_method_22_11) (fun _ _ => ⟨rfl, e7, (by decide : 0 + 0 ≤ _), (by decide : 0 + 0 ≤ _)⟩)
  dsimp only [Pt.U, Pt.locs, Pt.cells, Pt.slots] at X8 l8 y8 z8 st8 hQ8
  subst l8 y8 z8
  obtain ⟨rfl, rfl, e8⟩ := hQ8
  replace N0 := Fr.app N0 (Fr.nil n0)
  refine Goes.step (T' := T8) (g' := (mkF m 14 #[.val (.ref a1), .val (.int (46 : Int32)), .val (.int (0 : Int32)), .val (.int (Int32.ofNat cs.length))] [(.int (if (0 : Int32) < (0 : Int32) then (0 : Int32) else (0 : Int32)))])) st8 ?_
  have hmx : (if (0 : Int32) < (0 : Int32) then (0 : Int32) else (0 : Int32)) = (0 : Int32) := by decide
  rw [hmx]
  refine Goes.step (T' := T8) (g' := (mkF m 15 #[.val (.ref a1), .val (.int (46 : Int32)), .val (.int (0 : Int32)), .val (.int (Int32.ofNat cs.length))] [])) (fun _ kz => XS.istoreN X8.here hx rfl (hb hby d_jdk_43_method_22_14) rfl (l' := #[.val (.ref a1), .val (.int (46 : Int32)), .val (.int (0 : Int32)), .val (.int (Int32.ofNat cs.length))]) rfl kz) ?_
  refine Goes.step (T' := T8) (g' := (mkF m 16 #[.val (.ref a1), .val (.int (46 : Int32)), .val (.int (0 : Int32)), .val (.int (Int32.ofNat cs.length))] [(.int (Int32.ofNat cs.length))])) (fun _ kz => XS.iloadN X8.here hx rfl (hb hby d_jdk_43_method_22_15) rfl  kz) ?_
  refine Goes.step (T' := T8) (g' := (mkF m 17 #[.val (.ref a1), .val (.int (46 : Int32)), .val (.int (0 : Int32)), .val (.int (Int32.ofNat cs.length))] [(.ref a1), (.int (Int32.ofNat cs.length))])) (fun _ kz => XS.aloadN X8.here hx rfl (hb hby d_jdk_43_method_22_16) rfl rfl kz) ?_
  obtain ⟨cl9, Ar9, q9, Sz9, Nn9, Hs9, Gs9⟩ := (id V_a1 : Arv Z h0 a1 kb .byte (Int32.ofNat cs.length) (cs.map fun c => Value.int (c.toInt8.toInt32)) (.int 0))
  have al9 := X8.arraylength hx (by rw [e8]; exact Ar9.1) (State.isArrayOf_alike hZ.alike Ar9.2.1) (g := (mkF m 17 #[.val (.ref a1), .val (.int (46 : Int32)), .val (.int (0 : Int32)), .val (.int (Int32.ofNat cs.length))] [(.ref a1), (.int (Int32.ofNat cs.length))])) rfl rfl (hb hby d_jdk_43_method_22_17)
  rw [len_of Sz9 Nn9] at al9
  refine Goes.step (T' := T8) (g' := (mkF m 18 #[.val (.ref a1), .val (.int (46 : Int32)), .val (.int (0 : Int32)), .val (.int (Int32.ofNat cs.length))] [(.int (Int32.ofNat cs.length)), (.int (Int32.ofNat cs.length))])) al9 ?_
  obtain ⟨_, _, ⟨T10, L10, k10, n10⟩, -, X10, ⟨Lc10, hQ10, l10, y10, z10⟩, st10⟩ := Jvm.LawKit.callS X8 hx (y := (⟨"java/lang/Math", "min", "(II)I"⟩ : MethodName)) hown (mvT hZ (hw _ (List.mem_of_getElem? (i := 87) rfl))) (mvT hZ (hw _ (List.mem_of_getElem? (i := 88) rfl))) (mvT hZ (hw _ (List.mem_of_getElem? (i := 85) rfl))) (mvT hZ (hw _ (List.mem_of_getElem? (i := 89) rfl))) (by decide) (backOf (W := 0) (rm_mathmin l Z a0 hw [] (Int32.ofNat cs.length) (Int32.ofNat cs.length) h0 n0 O0  ) hZ (hw _ (List.mem_of_getElem? (i := 89) rfl)) (hw _ (List.mem_of_getElem? (i := 85) rfl)) (by decide) (by decide)) (g := (mkF m 18 #[.val (.ref a1), .val (.int (46 : Int32)), .val (.int (0 : Int32)), .val (.int (Int32.ofNat cs.length))] [(.int (Int32.ofNat cs.length)), (.int (Int32.ofNat cs.length))])) rfl (by rw [hml]; rfl) (argsL := [(.int (Int32.ofNat cs.length)), (.int (Int32.ofNat cs.length))]) (rest := []) (lenOf pd_1 rfl) rfl (by show 2 * 0 + _ ≤ _; exact Nat.le_of_eq rfl) (hb hby d_jdk_43_method_22_18) (fun _ _ => ⟨rfl, e8, (by decide : 0 + 0 ≤ _), (by decide : 0 + 0 ≤ _)⟩)
  dsimp only [Pt.U, Pt.locs, Pt.cells, Pt.slots] at X10 l10 y10 z10 st10 hQ10
  subst l10 y10 z10
  obtain ⟨rfl, rfl, e10⟩ := hQ10
  replace N0 := Fr.app N0 (Fr.nil n0)
  refine Goes.step (T' := T10) (g' := (mkF m 21 #[.val (.ref a1), .val (.int (46 : Int32)), .val (.int (0 : Int32)), .val (.int (Int32.ofNat cs.length))] [(.int (if (Int32.ofNat cs.length) < (Int32.ofNat cs.length) then (Int32.ofNat cs.length) else (Int32.ofNat cs.length)))])) st10 ?_
  have hmi : (if (Int32.ofNat cs.length) < (Int32.ofNat cs.length) then (Int32.ofNat cs.length) else (Int32.ofNat cs.length)) = (Int32.ofNat cs.length) := by split <;> rfl
  rw [hmi]
  refine Goes.step (T' := T10) (g' := (mkF m 22 #[.val (.ref a1), .val (.int (46 : Int32)), .val (.int (0 : Int32)), .val (.int (Int32.ofNat cs.length))] [])) (fun _ kz => XS.istoreN X10.here hx rfl (hb hby d_jdk_43_method_22_21) rfl (l' := #[.val (.ref a1), .val (.int (46 : Int32)), .val (.int (0 : Int32)), .val (.int (Int32.ofNat cs.length))]) rfl kz) ?_
  refine Goes.step (T' := T10) (g' := (mkF m 23 #[.val (.ref a1), .val (.int (46 : Int32)), .val (.int (0 : Int32)), .val (.int (Int32.ofNat cs.length))] [(.int (0 : Int32))])) (fun _ kz => XS.iloadN X10.here hx rfl (hb hby d_jdk_43_method_22_22) rfl  kz) ?_
  refine Goes.step (T' := T10) (g' := (mkF m 24 #[.val (.ref a1), .val (.int (46 : Int32)), .val (.int (0 : Int32)), .val (.int (Int32.ofNat cs.length))] [(.int (Int32.ofNat cs.length)), (.int (0 : Int32))])) (fun _ kz => XS.iloadN X10.here hx rfl (hb hby d_jdk_43_method_22_23) rfl  kz) ?_
  by_cases hc24_11 : (0 : Int32) < (Int32.ofNat cs.length)
  ·
    refine Goes.step (T' := T10) (g' := (mkF m 29 #[.val (.ref a1), .val (.int (46 : Int32)), .val (.int (0 : Int32)), .val (.int (Int32.ofNat cs.length))] [])) (fun _ kz => XS.icmpYes X10.here hx rfl (pc0 := 24) (pc' := 29) rfl (hb hby d_jdk_43_method_22_24) rfl (tlt hc24_11).1 (by decide) (by decide) kz) ?_
    refine Goes.step (T' := T10) (g' := (mkF m 30 #[.val (.ref a1), .val (.int (46 : Int32)), .val (.int (0 : Int32)), .val (.int (Int32.ofNat cs.length))] [(.ref a1)])) (fun _ kz => XS.aloadN X10.here hx rfl (hb hby d_jdk_43_method_22_29) rfl rfl kz) ?_
    refine Goes.step (T' := T10) (g' := (mkF m 31 #[.val (.ref a1), .val (.int (46 : Int32)), .val (.int (0 : Int32)), .val (.int (Int32.ofNat cs.length))] [(.int (46 : Int32)), (.ref a1)])) (fun _ kz => XS.iloadN X10.here hx rfl (hb hby d_jdk_43_method_22_30) rfl  kz) ?_
    refine Goes.step (T' := T10) (g' := (mkF m 32 #[.val (.ref a1), .val (.int (46 : Int32)), .val (.int (0 : Int32)), .val (.int (Int32.ofNat cs.length))] [(.int (0 : Int32)), (.int (46 : Int32)), (.ref a1)])) (fun _ kz => XS.iloadN X10.here hx rfl (hb hby d_jdk_43_method_22_31) rfl  kz) ?_
    refine Goes.step (T' := T10) (g' := (mkF m 33 #[.val (.ref a1), .val (.int (46 : Int32)), .val (.int (0 : Int32)), .val (.int (Int32.ofNat cs.length))] [(.int (Int32.ofNat cs.length)), (.int (0 : Int32)), (.int (46 : Int32)), (.ref a1)])) (fun _ kz => XS.iloadN X10.here hx rfl (hb hby d_jdk_43_method_22_32) rfl  kz) ?_
    obtain ⟨_, _, ⟨T12, L12, k12, n12⟩, -, X12, ⟨Lc12, hQ12, l12, y12, z12⟩, st12⟩ := Jvm.LawKit.callS X10 hx (y := (⟨"java/lang/StringLatin1", "indexOfChar", "([BIII)I"⟩ : MethodName)) hown (mvT hZ (hw _ (List.mem_of_getElem? (i := 90) rfl))) (mvT hZ (hw _ (List.mem_of_getElem? (i := 91) rfl))) (mvT hZ (hw _ (List.mem_of_getElem? (i := 78) rfl))) (mvT hZ (hw _ (List.mem_of_getElem? (i := 92) rfl))) (by decide) (backOf (W := 0) (rm_ixChar l Z a0 hw [] a1 (kb) (cs) h0 n0 O0  V_a1 (by first | assumption | decide) (by first | assumption | decide)) hZ (hw _ (List.mem_of_getElem? (i := 92) rfl)) (hw _ (List.mem_of_getElem? (i := 78) rfl)) (by decide) (by decide)) (g := (mkF m 33 #[.val (.ref a1), .val (.int (46 : Int32)), .val (.int (0 : Int32)), .val (.int (Int32.ofNat cs.length))] [(.int (Int32.ofNat cs.length)), (.int (0 : Int32)), (.int (46 : Int32)), (.ref a1)])) rfl (by rw [hml]; rfl) (argsL := [(.ref a1), (.int (46 : Int32)), (.int (0 : Int32)), (.int (Int32.ofNat cs.length))]) (rest := []) (lenOf pd_2 rfl) rfl (by show 2 * 0 + _ ≤ _; exact Nat.le_of_eq rfl) (hb hby d_jdk_43_method_22_33) (fun _ _ => ⟨rfl, e10, (by decide : 0 + 0 ≤ _), (by decide : 0 + 0 ≤ _)⟩)
    dsimp only [Pt.U, Pt.locs, Pt.cells, Pt.slots] at X12 l12 y12 z12 st12 hQ12
    subst l12 y12 z12
    obtain ⟨rfl, rfl, e12⟩ := hQ12
    replace N0 := Fr.app N0 (Fr.nil n0)
    refine Goes.step (T' := T12) (g' := (mkF m 36 #[.val (.ref a1), .val (.int (46 : Int32)), .val (.int (0 : Int32)), .val (.int (Int32.ofNat cs.length))] [(.int (if IX cs = cs.length then -1 else Int32.ofNat (IX cs)))])) st12 ?_
    obtain ⟨fs, hr, hrun, hended, hW, hsame⟩ := X12.leave (v := some (.int (if IX cs = cs.length then -1 else Int32.ofNat (IX cs)))) (fun h => by rw [Bd.returns] at h; cases h)
    exact ⟨_, _, retOut X12 hx Bd.returns rfl (Or.inl ⟨rfl, Or.inl rfl, _, rfl⟩) (hb hby d_jdk_43_method_22_36) hr, hrun, hended, _, _, rfl, (by show Q_ixLat Z a1 kb cs h0 n0 _ T12.heap _; rw [e12]; exact ⟨rfl, rfl, rfl⟩), ⟨_, rfl⟩, hW, hsame.mono (by decide) (by decide)⟩
  ·
    refine Goes.step (T' := T10) (g' := (mkF m 27 #[.val (.ref a1), .val (.int (46 : Int32)), .val (.int (0 : Int32)), .val (.int (Int32.ofNat cs.length))] [])) (fun _ kz => XS.icmpNo X10.here hx rfl (hb hby d_jdk_43_method_22_24) rfl (flt hc24_11).1 kz) ?_
    refine Goes.step (T' := T10) (g' := (mkF m 28 #[.val (.ref a1), .val (.int (46 : Int32)), .val (.int (0 : Int32)), .val (.int (Int32.ofNat cs.length))] [(.int (-1 : Int32))])) (fun _ kz => XS.iconst X10.here hx rfl (hb hby d_jdk_43_method_22_27) kz) ?_
    obtain ⟨fs, hr, hrun, hended, hW, hsame⟩ := X10.leave (v := some (.int (-1 : Int32))) (fun h => by rw [Bd.returns] at h; cases h)
    exact ⟨_, _, retOut X10 hx Bd.returns rfl (Or.inl ⟨rfl, Or.inl rfl, _, rfl⟩) (hb hby d_jdk_43_method_22_28) hr, hrun, hended, _, _, rfl, (by show Q_ixLat Z a1 kb cs h0 n0 _ T10.heap _; rw [e10]; exact ⟨(by have hz : cs.length = 0 := (by have := mt (own_lt (a := 0) (by omega) hl).mpr (fun q => hc24_11 q); omega); rw [if_pos (by have := IX_le cs; omega)]), rfl, rfl⟩), ⟨_, rfl⟩, hW, hsame.mono (by decide) (by decide)⟩
theorem d_jdk_42_method_80_0 : decode jdk_42_method_80_code 0 = .ok (.aload_n 0, 1) := by decide +kernel
theorem d_jdk_42_method_80_1 : decode jdk_42_method_80_code 1 = .ok (.invokevirtual 492, 3) := by decide +kernel
theorem pd_3 : parseMethodDescriptor "()Z" = some ⟨[], some .boolean⟩ := by decide +kernel
theorem d_jdk_42_method_80_4 : decode jdk_42_method_80_code 4 = .ok (.ifCond .eq 19, 3) := by decide +kernel
theorem d_jdk_42_method_80_7 : decode jdk_42_method_80_code 7 = .ok (.aload_n 0, 1) := by decide +kernel
theorem d_jdk_42_method_80_8 : decode jdk_42_method_80_code 8 = .ok (.getfield 9, 3) := by decide +kernel
theorem d_jdk_42_method_80_11 : decode jdk_42_method_80_code 11 = .ok (.iload_n 1, 1) := by decide +kernel
theorem d_jdk_42_method_80_12 : decode jdk_42_method_80_code 12 = .ok (.iload_n 2, 1) := by decide +kernel
theorem d_jdk_42_method_80_13 : decode jdk_42_method_80_code 13 = .ok (.aload_n 0, 1) := by decide +kernel
theorem d_jdk_42_method_80_14 : decode jdk_42_method_80_code 14 = .ok (.invokevirtual 505, 3) := by decide +kernel
theorem pd_4 : parseMethodDescriptor "()I" = some ⟨[], some .int⟩ := by decide +kernel
theorem d_jdk_42_method_80_17 : decode jdk_42_method_80_code 17 = .ok (.invokestatic 637, 3) := by decide +kernel
theorem d_jdk_42_method_80_20 : decode jdk_42_method_80_code 20 = .ok (.goto 16, 3) := by decide +kernel
theorem d_jdk_42_method_80_36 : decode jdk_42_method_80_code 36 = .ok (.ireturn, 1) := by decide +kernel
theorem ef_ix2 (m : MethodId) (a1 : Addr) : entryFrame m #[(.ref a1), (.int (46 : Int32)), (.int (0 : Int32))] 3 = mkF m 0 #[.val (.ref a1), .val (.int (46 : Int32)), .val (.int (0 : Int32))] [] := by first | (simp [entryFrame, mkF, argsToLocals, Value.category, maxLocals]; done) | rfl
def Q_ix2 (Z : State) (a1 : Addr) (cs : List Int32) (h0 : Heap) (n0 : Nat) (v : Option Value) (h : Heap) (L : List Loc) : Prop := (v = some (.int (if IX cs = cs.length then -1 else Int32.ofNat (IX cs)))) ∧ (L = []) ∧ (h = h0)
set_option maxRecDepth 65536 in
set_option maxHeartbeats 40000000 in
theorem rm_ix2 (l : Launch) (Z : State) (a0 : Array Value) (hw : ∀ d ∈ tables_1, d.before a0 Z = true) (ws : List Jvm.Cond) (a1 : Addr) (cs : List Int32) (h0 : Heap) (n0 : Nat) (O0 : Old Z n0 h0) (zcs : Int32) (Scs : Sta Z Z.heap "java/lang/String" "COMPACT_STRINGS" "Z" (.int zcs)) (hz_Scs : ¬ zcs = 0) (E_a1 : Exa Z h0 a1 "java/lang/String") (G_a1 : SX Z h0 a1 cs) (hl : cs.length ≤ 4000) :
    MetFree l (⟨"java/lang/String", "indexOf", "(II)I"⟩ : MethodName) (head1 ((Jvm.Cond.code (⟨"java/lang/String", "indexOf", "(II)I"⟩ : MethodName) jdk_42_method_80_code 3 (some .int)) :: ws) ({ frames := 2, cells := 0, slots := 0, locals := 32 } : Room)) (fun a U => a = #[(.ref a1), (.int (46 : Int32)), (.int (0 : Int32))] ∧ Z.Warmed39 U.vm ∧ U.heap = h0) (fun _ _ _ _ _ => True) (fun _ U o U' => ∃ v L, o = .returned v ∧ Q_ix2 Z a1 cs h0 n0 v U'.heap L ∧ FrameEnd U o U' L ({ frames := 2, cells := 0, slots := 0, locals := 32 } : Room).cells ({ frames := 2, cells := 0, slots := 0, locals := 32 } : Room).slots) := by
  refine MetFree.of_bodySF (plainFor_of_name pn_1) hisR ?_
  intro p e s m args below meth c s₁ Bd hml0 hP hK
  obtain ⟨rfl, hZ, hh⟩ := hP
  have hx := Bd.exec
  have hby := Bd.bytes
  have hml : c.maxLocals = 3 := hml0
  have hown : s.vm.findClass "java/lang/String" = some m.cls := findClass_of_methodNamed Bd.named
  have hnm := (name_of_methodNamed Bd.named Bd.method).1
  have X0 : Stand p l e ({ frames := 2, cells := 0, slots := 0, locals := 32 } : Room) s m #[(.ref a1), (.int (46 : Int32)), (.int (0 : Int32))] below meth c s₁ [] 0 0 := Stand.of_body Bd
  have e0 : s₁.heap = h0 := by rw [← hh, Bd.state]; rfl
  have N0 := Fr.nil n0
  have K0 : Keep h0 h0 [] := Keep.refl _ _
  suffices hG : Goes p e below (fun o U' => ∃ v L, o = .returned v ∧ Q_ix2 Z a1 cs h0 n0 v U'.heap L ∧ FrameEnd s o U' L ({ frames := 2, cells := 0, slots := 0, locals := 32 } : Room).cells ({ frames := 2, cells := 0, slots := 0, locals := 32 } : Room).slots) s₁ (mkF m 0 #[.val (.ref a1), .val (.int (46 : Int32)), .val (.int (0 : Int32))] []) by
    obtain ⟨t, o, h1, h2⟩ := hG; exact ⟨t, o, castTop (ef_ix2 m a1) h1, h2⟩
  obtain ⟨E_a1, F_a1_coder, hb_a1, t_a1, kb_a1, F_a1_value, V_t_a1⟩ := (id G_a1 : SX Z h0 a1 cs)
  refine Goes.step (T' := s₁) (g' := (mkF m 1 #[.val (.ref a1), .val (.int (46 : Int32)), .val (.int (0 : Int32))] [(.ref a1)])) (fun _ kz => XS.aloadN X0.here hx rfl (hb hby d_jdk_42_method_80_0) rfl rfl kz) ?_
  obtain ⟨cq13, kq13, qa13, qb13, qc13⟩ := isOf hZ e0 E_a1
  obtain ⟨_, _, ⟨T13, L13, k13, n13⟩, -, X13, ⟨Lc13, hQ13, l13, y13, z13⟩, st13⟩ := X0.virtualBack hx (y := (⟨"java/lang/String", "isLatin1", "()Z"⟩ : MethodName)) (z := (⟨"java/lang/String", "isLatin1", "()Z"⟩ : MethodName)) hown (mvT hZ (hw _ (List.mem_of_getElem? (i := 61) rfl))) (mvT hZ (hw _ (List.mem_of_getElem? (i := 62) rfl))) (notFace_of_selects (args := #[]) (mvT hZ (hw _ (List.mem_of_getElem? (i := 64) rfl)))) (mvT hZ (hw _ (List.mem_of_getElem? (i := 64) rfl))) (mvT hZ (hw _ (List.mem_of_getElem? (i := 63) rfl))) (by decide) (backOf (W := 0) (rm_isLat l Z a0 hw [] a1 h0 n0 O0 zcs Scs hz_Scs F_a1_coder) hZ (hw _ (List.mem_of_getElem? (i := 65) rfl)) (hw _ (List.mem_of_getElem? (i := 14) rfl)) (by decide) (by decide)) qa13 qc13 (g := (mkF m 1 #[.val (.ref a1), .val (.int (46 : Int32)), .val (.int (0 : Int32))] [(.ref a1)])) rfl (by rw [hml]; rfl) (Steps.refl _) (argsL := []) (rest := []) (lenOf pd_3 rfl) rfl (by show 2 * 0 + _ ≤ _; exact Nat.le_of_eq rfl) (hb hby d_jdk_42_method_80_1) (fun _ _ => ⟨rfl, e0, (by decide : 0 + 0 ≤ _), (by decide : 0 + 0 ≤ _)⟩)
  dsimp only [Pt.U, Pt.locs, Pt.cells, Pt.slots] at X13 l13 y13 z13 st13 hQ13
  subst l13 y13 z13
  obtain ⟨rfl, rfl, e13⟩ := hQ13
  replace N0 := Fr.app N0 (Fr.nil n0)
  refine Goes.run (T' := T13) (g' := (mkF m 4 #[.val (.ref a1), .val (.int (46 : Int32)), .val (.int (0 : Int32))] [(.int (1 : Int32))])) st13 ?_
  refine Goes.step (T' := T13) (g' := (mkF m 7 #[.val (.ref a1), .val (.int (46 : Int32)), .val (.int (0 : Int32))] [])) (fun _ kz => XS.ifNo X13.here hx rfl (hb hby d_jdk_42_method_80_4) rfl ((if0 _ _).trans (feq (by decide : ¬ ((1 : Int32) = (0 : Int32)))).1) kz) ?_
  refine Goes.step (T' := T13) (g' := (mkF m 8 #[.val (.ref a1), .val (.int (46 : Int32)), .val (.int (0 : Int32))] [(.ref a1)])) (fun _ kz => XS.aloadN X13.here hx rfl (hb hby d_jdk_42_method_80_7) rfl rfl kz) ?_
  obtain ⟨T14, X14, e14, st14⟩ := getF X13 hx hZ hown (host := "") (Or.inl (hw _ (List.mem_of_getElem? (i := 39) rfl))) Via.refl e13 F_a1_value (g := (mkF m 8 #[.val (.ref a1), .val (.int (46 : Int32)), .val (.int (0 : Int32))] [(.ref a1)])) rfl rfl (hb hby d_jdk_42_method_80_8)
  refine Goes.step (T' := T14) (g' := (mkF m 11 #[.val (.ref a1), .val (.int (46 : Int32)), .val (.int (0 : Int32))] [(.ref t_a1)])) st14 ?_
  refine Goes.step (T' := T14) (g' := (mkF m 12 #[.val (.ref a1), .val (.int (46 : Int32)), .val (.int (0 : Int32))] [(.int (46 : Int32)), (.ref t_a1)])) (fun _ kz => XS.iloadN X14.here hx rfl (hb hby d_jdk_42_method_80_11) rfl  kz) ?_
  refine Goes.step (T' := T14) (g' := (mkF m 13 #[.val (.ref a1), .val (.int (46 : Int32)), .val (.int (0 : Int32))] [(.int (0 : Int32)), (.int (46 : Int32)), (.ref t_a1)])) (fun _ kz => XS.iloadN X14.here hx rfl (hb hby d_jdk_42_method_80_12) rfl  kz) ?_
  refine Goes.step (T' := T14) (g' := (mkF m 14 #[.val (.ref a1), .val (.int (46 : Int32)), .val (.int (0 : Int32))] [(.ref a1), (.int (0 : Int32)), (.int (46 : Int32)), (.ref t_a1)])) (fun _ kz => XS.aloadN X14.here hx rfl (hb hby d_jdk_42_method_80_13) rfl rfl kz) ?_
  obtain ⟨cq15, kq15, qa15, qb15, qc15⟩ := isOf hZ e14 E_a1
  obtain ⟨_, _, ⟨T15, L15, k15, n15⟩, -, X15, ⟨Lc15, hQ15, l15, y15, z15⟩, st15⟩ := X14.virtualBack hx (y := (⟨"java/lang/String", "length", "()I"⟩ : MethodName)) (z := (⟨"java/lang/String", "length", "()I"⟩ : MethodName)) hown (mvT hZ (hw _ (List.mem_of_getElem? (i := 66) rfl))) (mvT hZ (hw _ (List.mem_of_getElem? (i := 67) rfl))) (notFace_of_selects (args := #[]) (mvT hZ (hw _ (List.mem_of_getElem? (i := 69) rfl)))) (mvT hZ (hw _ (List.mem_of_getElem? (i := 69) rfl))) (mvT hZ (hw _ (List.mem_of_getElem? (i := 68) rfl))) (by decide) (own_lenW (W := 3) hZ hw (hw _ (List.mem_of_getElem? (i := 13) rfl)) G_a1 (hl) (Scs.ext O0.2) hz_Scs (by decide) (by decide)) qa15 qc15 (g := (mkF m 14 #[.val (.ref a1), .val (.int (46 : Int32)), .val (.int (0 : Int32))] [(.ref a1), (.int (0 : Int32)), (.int (46 : Int32)), (.ref t_a1)])) rfl (by rw [hml]; rfl) (Steps.refl _) (argsL := []) (rest := [(.int (0 : Int32)), (.int (46 : Int32)), (.ref t_a1)]) (lenOf pd_4 rfl) rfl (by show 2 * 0 + _ ≤ _; exact Nat.le_of_eq rfl) (hb hby d_jdk_42_method_80_14) (fun _ _ => ⟨rfl, e14, (by decide : 0 + 0 ≤ _), (by decide : 0 + 0 ≤ _)⟩)
  dsimp only [Pt.U, Pt.locs, Pt.cells, Pt.slots] at X15 l15 y15 z15 st15 hQ15
  subst l15 y15 z15
  obtain ⟨rfl, rfl, e15⟩ := hQ15
  replace N0 := Fr.app N0 (Fr.nil n0)
  refine Goes.run (T' := T15) (g' := (mkF m 17 #[.val (.ref a1), .val (.int (46 : Int32)), .val (.int (0 : Int32))] [(.int (Int32.ofNat cs.length)), (.int (0 : Int32)), (.int (46 : Int32)), (.ref t_a1)])) st15 ?_
  obtain ⟨_, _, ⟨T16, L16, k16, n16⟩, -, X16, ⟨Lc16, hQ16, l16, y16, z16⟩, st16⟩ := Jvm.LawKit.callS X15 hx (y := (⟨"java/lang/StringLatin1", "indexOf", "([BIII)I"⟩ : MethodName)) hown (mvT hZ (hw _ (List.mem_of_getElem? (i := 76) rfl))) (mvT hZ (hw _ (List.mem_of_getElem? (i := 77) rfl))) (mvT hZ (hw _ (List.mem_of_getElem? (i := 78) rfl))) (mvT hZ (hw _ (List.mem_of_getElem? (i := 79) rfl))) (by decide) (backOf (W := 0) (rm_ixLat l Z a0 hw [] t_a1 (kb_a1) (cs) h0 n0 O0  V_t_a1 (by first | assumption | decide) hb_a1) hZ (hw _ (List.mem_of_getElem? (i := 79) rfl)) (hw _ (List.mem_of_getElem? (i := 78) rfl)) (by decide) (by decide)) (g := (mkF m 17 #[.val (.ref a1), .val (.int (46 : Int32)), .val (.int (0 : Int32))] [(.int (Int32.ofNat cs.length)), (.int (0 : Int32)), (.int (46 : Int32)), (.ref t_a1)])) rfl (by rw [hml]; rfl) (argsL := [(.ref t_a1), (.int (46 : Int32)), (.int (0 : Int32)), (.int (Int32.ofNat cs.length))]) (rest := []) (lenOf pd_2 rfl) rfl (by show 2 * 0 + _ ≤ _; exact Nat.le_of_eq rfl) (hb hby d_jdk_42_method_80_17) (fun _ _ => ⟨rfl, e15, (by decide : 0 + 0 ≤ _), (by decide : 0 + 0 ≤ _)⟩)
  dsimp only [Pt.U, Pt.locs, Pt.cells, Pt.slots] at X16 l16 y16 z16 st16 hQ16
  subst l16 y16 z16
  obtain ⟨rfl, rfl, e16⟩ := hQ16
  replace N0 := Fr.app N0 (Fr.nil n0)
  refine Goes.step (T' := T16) (g' := (mkF m 20 #[.val (.ref a1), .val (.int (46 : Int32)), .val (.int (0 : Int32))] [(.int (if IX cs = cs.length then -1 else Int32.ofNat (IX cs)))])) st16 ?_
  refine Goes.step (T' := T16) (g' := (mkF m 36 #[.val (.ref a1), .val (.int (46 : Int32)), .val (.int (0 : Int32))] [(.int (if IX cs = cs.length then -1 else Int32.ofNat (IX cs)))])) (fun _ kz => XS.goto X16.here hx rfl (pc0 := 20) (pc' := 36) rfl (hb hby d_jdk_42_method_80_20) (by decide) (by decide) kz) ?_
  obtain ⟨fs, hr, hrun, hended, hW, hsame⟩ := X16.leave (v := some (.int (if IX cs = cs.length then -1 else Int32.ofNat (IX cs)))) (fun h => by rw [Bd.returns] at h; cases h)
  exact ⟨_, _, retOut X16 hx Bd.returns rfl (Or.inl ⟨rfl, Or.inl rfl, _, rfl⟩) (hb hby d_jdk_42_method_80_36) hr, hrun, hended, _, _, rfl, (by show Q_ix2 Z a1 cs h0 n0 _ T16.heap _; rw [e16]; exact ⟨rfl, rfl, rfl⟩), ⟨_, rfl⟩, hW, hsame.mono (by decide) (by decide)⟩
theorem d_jdk_42_method_79_0 : decode jdk_42_method_79_code 0 = .ok (.aload_n 0, 1) := by decide +kernel
theorem d_jdk_42_method_79_1 : decode jdk_42_method_79_code 1 = .ok (.iload_n 1, 1) := by decide +kernel
theorem d_jdk_42_method_79_2 : decode jdk_42_method_79_code 2 = .ok (.iconst 0, 1) := by decide +kernel
theorem d_jdk_42_method_79_3 : decode jdk_42_method_79_code 3 = .ok (.invokevirtual 633, 3) := by decide +kernel
theorem d_jdk_42_method_79_6 : decode jdk_42_method_79_code 6 = .ok (.ireturn, 1) := by decide +kernel
theorem ef_ix1 (m : MethodId) (a1 : Addr) : entryFrame m #[(.ref a1), (.int (46 : Int32))] 2 = mkF m 0 #[.val (.ref a1), .val (.int (46 : Int32))] [] := by first | (simp [entryFrame, mkF, argsToLocals, Value.category, maxLocals]; done) | rfl
def Q_ix1 (Z : State) (a1 : Addr) (cs : List Int32) (h0 : Heap) (n0 : Nat) (v : Option Value) (h : Heap) (L : List Loc) : Prop := (v = some (.int (if IX cs = cs.length then -1 else Int32.ofNat (IX cs)))) ∧ (L = []) ∧ (h = h0)
set_option maxRecDepth 65536 in
set_option maxHeartbeats 40000000 in
theorem rm_ix1 (l : Launch) (Z : State) (a0 : Array Value) (hw : ∀ d ∈ tables_1, d.before a0 Z = true) (ws : List Jvm.Cond) (a1 : Addr) (cs : List Int32) (h0 : Heap) (n0 : Nat) (O0 : Old Z n0 h0) (zcs : Int32) (Scs : Sta Z Z.heap "java/lang/String" "COMPACT_STRINGS" "Z" (.int zcs)) (hz_Scs : ¬ zcs = 0) (E_a1 : Exa Z h0 a1 "java/lang/String") (G_a1 : SX Z h0 a1 cs) (hl : cs.length ≤ 4000) :
    MetFree l (⟨"java/lang/String", "indexOf", "(I)I"⟩ : MethodName) (head1 ((Jvm.Cond.code (⟨"java/lang/String", "indexOf", "(I)I"⟩ : MethodName) jdk_42_method_79_code 2 (some .int)) :: ws) ({ frames := 3, cells := 0, slots := 0, locals := 46 } : Room)) (fun a U => a = #[(.ref a1), (.int (46 : Int32))] ∧ Z.Warmed39 U.vm ∧ U.heap = h0) (fun _ _ _ _ _ => True) (fun _ U o U' => ∃ v L, o = .returned v ∧ Q_ix1 Z a1 cs h0 n0 v U'.heap L ∧ FrameEnd U o U' L ({ frames := 3, cells := 0, slots := 0, locals := 46 } : Room).cells ({ frames := 3, cells := 0, slots := 0, locals := 46 } : Room).slots) := by
  refine MetFree.of_bodySF (plainFor_of_name pn_1) hisR ?_
  intro p e s m args below meth c s₁ Bd hml0 hP hK
  obtain ⟨rfl, hZ, hh⟩ := hP
  have hx := Bd.exec
  have hby := Bd.bytes
  have hml : c.maxLocals = 2 := hml0
  have hown : s.vm.findClass "java/lang/String" = some m.cls := findClass_of_methodNamed Bd.named
  have hnm := (name_of_methodNamed Bd.named Bd.method).1
  have X0 : Stand p l e ({ frames := 3, cells := 0, slots := 0, locals := 46 } : Room) s m #[(.ref a1), (.int (46 : Int32))] below meth c s₁ [] 0 0 := Stand.of_body Bd
  have e0 : s₁.heap = h0 := by rw [← hh, Bd.state]; rfl
  have N0 := Fr.nil n0
  have K0 : Keep h0 h0 [] := Keep.refl _ _
  suffices hG : Goes p e below (fun o U' => ∃ v L, o = .returned v ∧ Q_ix1 Z a1 cs h0 n0 v U'.heap L ∧ FrameEnd s o U' L ({ frames := 3, cells := 0, slots := 0, locals := 46 } : Room).cells ({ frames := 3, cells := 0, slots := 0, locals := 46 } : Room).slots) s₁ (mkF m 0 #[.val (.ref a1), .val (.int (46 : Int32))] []) by
    obtain ⟨t, o, h1, h2⟩ := hG; exact ⟨t, o, castTop (ef_ix1 m a1) h1, h2⟩
  refine Goes.step (T' := s₁) (g' := (mkF m 1 #[.val (.ref a1), .val (.int (46 : Int32))] [(.ref a1)])) (fun _ kz => XS.aloadN X0.here hx rfl (hb hby d_jdk_42_method_79_0) rfl rfl kz) ?_
  refine Goes.step (T' := s₁) (g' := (mkF m 2 #[.val (.ref a1), .val (.int (46 : Int32))] [(.int (46 : Int32)), (.ref a1)])) (fun _ kz => XS.iloadN X0.here hx rfl (hb hby d_jdk_42_method_79_1) rfl  kz) ?_
  refine Goes.step (T' := s₁) (g' := (mkF m 3 #[.val (.ref a1), .val (.int (46 : Int32))] [(.int (0 : Int32)), (.int (46 : Int32)), (.ref a1)])) (fun _ kz => XS.iconst X0.here hx rfl (hb hby d_jdk_42_method_79_2) kz) ?_
  obtain ⟨cq17, kq17, qa17, qb17, qc17⟩ := isOf hZ e0 E_a1
  obtain ⟨_, _, ⟨T17, L17, k17, n17⟩, -, X17, ⟨Lc17, hQ17, l17, y17, z17⟩, st17⟩ := X0.virtualBack hx (y := (⟨"java/lang/String", "indexOf", "(II)I"⟩ : MethodName)) (z := (⟨"java/lang/String", "indexOf", "(II)I"⟩ : MethodName)) hown (mvT hZ (hw _ (List.mem_of_getElem? (i := 56) rfl))) (mvT hZ (hw _ (List.mem_of_getElem? (i := 57) rfl))) (notFace_of_selects (args := #[]) (mvT hZ (hw _ (List.mem_of_getElem? (i := 59) rfl)))) (mvT hZ (hw _ (List.mem_of_getElem? (i := 59) rfl))) (mvT hZ (hw _ (List.mem_of_getElem? (i := 58) rfl))) (by decide) (backOf (W := 0) (rm_ix2 l Z a0 hw [] a1 (cs) h0 n0 O0 zcs Scs hz_Scs E_a1 G_a1 (by first | assumption | decide)) hZ (hw _ (List.mem_of_getElem? (i := 60) rfl)) (hw _ (List.mem_of_getElem? (i := 14) rfl)) (by decide) (by decide)) qa17 qc17 (g := (mkF m 3 #[.val (.ref a1), .val (.int (46 : Int32))] [(.int (0 : Int32)), (.int (46 : Int32)), (.ref a1)])) rfl (by rw [hml]; rfl) (Steps.refl _) (argsL := [(.int (46 : Int32)), (.int (0 : Int32))]) (rest := []) (lenOf pd_1 rfl) rfl (by show 2 * 0 + _ ≤ _; exact Nat.le_of_eq rfl) (hb hby d_jdk_42_method_79_3) (fun _ _ => ⟨rfl, e0, (by decide : 0 + 0 ≤ _), (by decide : 0 + 0 ≤ _)⟩)
  dsimp only [Pt.U, Pt.locs, Pt.cells, Pt.slots] at X17 l17 y17 z17 st17 hQ17
  subst l17 y17 z17
  obtain ⟨rfl, rfl, e17⟩ := hQ17
  replace N0 := Fr.app N0 (Fr.nil n0)
  refine Goes.run (T' := T17) (g' := (mkF m 6 #[.val (.ref a1), .val (.int (46 : Int32))] [(.int (if IX cs = cs.length then -1 else Int32.ofNat (IX cs)))])) st17 ?_
  obtain ⟨fs, hr, hrun, hended, hW, hsame⟩ := X17.leave (v := some (.int (if IX cs = cs.length then -1 else Int32.ofNat (IX cs)))) (fun h => by rw [Bd.returns] at h; cases h)
  exact ⟨_, _, retOut X17 hx Bd.returns rfl (Or.inl ⟨rfl, Or.inl rfl, _, rfl⟩) (hb hby d_jdk_42_method_79_6) hr, hrun, hended, _, _, rfl, (by show Q_ix1 Z a1 cs h0 n0 _ T17.heap _; rw [e17]; exact ⟨rfl, rfl, rfl⟩), ⟨_, rfl⟩, hW, hsame.mono (by decide) (by decide)⟩
theorem d_prog_15_method_9_0 : decode prog_15_method_9_code 0 = .ok (.aload_n 0, 1) := by decide +kernel
theorem d_prog_15_method_9_1 : decode prog_15_method_9_code 1 = .ok (.bipush 46, 2) := by decide +kernel
theorem d_prog_15_method_9_3 : decode prog_15_method_9_code 3 = .ok (.invokevirtual 83, 3) := by decide +kernel
theorem pd_5 : parseMethodDescriptor "(I)I" = some ⟨[.int], some .int⟩ := by decide +kernel
theorem d_prog_15_method_9_6 : decode prog_15_method_9_code 6 = .ok (.istore_n 1, 1) := by decide +kernel
theorem d_prog_15_method_9_7 : decode prog_15_method_9_code 7 = .ok (.iload_n 1, 1) := by decide +kernel
theorem d_prog_15_method_9_8 : decode prog_15_method_9_code 8 = .ok (.ifCond .ge 10, 3) := by decide +kernel
theorem d_prog_15_method_9_11 : decode prog_15_method_9_code 11 = .ok (.aload_n 0, 1) := by decide +kernel
theorem d_prog_15_method_9_12 : decode prog_15_method_9_code 12 = .ok (.invokevirtual 35, 3) := by decide +kernel
theorem d_prog_15_method_9_15 : decode prog_15_method_9_code 15 = .ok (.goto 4, 3) := by decide +kernel
theorem d_prog_15_method_9_19 : decode prog_15_method_9_code 19 = .ok (.ireturn, 1) := by decide +kernel
theorem d_prog_15_method_9_18 : decode prog_15_method_9_code 18 = .ok (.iload_n 1, 1) := by decide +kernel
theorem pn_2 : plainName "com/example/tariff/tariff/core/decimal/PlainDecimal" = true := by first | (simp [plainName, overriddenIn]; done) | decide +kernel
theorem ef_ptIx (m : MethodId) (a1 : Addr) : entryFrame m #[(.ref a1)] 2 = mkF m 0 #[.val (.ref a1), .unset] [] := by first | (simp [entryFrame, mkF, argsToLocals, Value.category, maxLocals]; done) | rfl
def Q_ptIx (Z : State) (a1 : Addr) (cs : List Int32) (h0 : Heap) (n0 : Nat) (v : Option Value) (h : Heap) (L : List Loc) : Prop := (v = some (.int (Int32.ofNat (IX cs)))) ∧ (L = []) ∧ (h = h0)
set_option maxRecDepth 65536 in
set_option maxHeartbeats 40000000 in
theorem rm_ptIx (l : Launch) (Z : State) (a0 : Array Value) (hw : ∀ d ∈ tables_1, d.before a0 Z = true) (ws : List Jvm.Cond) (a1 : Addr) (cs : List Int32) (h0 : Heap) (n0 : Nat) (O0 : Old Z n0 h0) (zcs : Int32) (Scs : Sta Z Z.heap "java/lang/String" "COMPACT_STRINGS" "Z" (.int zcs)) (hz_Scs : ¬ zcs = 0) (E_a1 : Exa Z h0 a1 "java/lang/String") (G_a1 : SX Z h0 a1 cs) (hl : cs.length ≤ 4000) :
    MetFree l (⟨"com/example/tariff/tariff/core/decimal/PlainDecimal", "pointIndex", "(Ljava/lang/String;)I"⟩ : MethodName) (head1 ((Jvm.Cond.code (⟨"com/example/tariff/tariff/core/decimal/PlainDecimal", "pointIndex", "(Ljava/lang/String;)I"⟩ : MethodName) prog_15_method_9_code 2 (some .int)) :: ws) ({ frames := 4, cells := 0, slots := 0, locals := 59 } : Room)) (fun a U => a = #[(.ref a1)] ∧ Z.Warmed39 U.vm ∧ U.heap = h0) (fun _ _ _ _ _ => True) (fun _ U o U' => ∃ v L, o = .returned v ∧ Q_ptIx Z a1 cs h0 n0 v U'.heap L ∧ FrameEnd U o U' L ({ frames := 4, cells := 0, slots := 0, locals := 59 } : Room).cells ({ frames := 4, cells := 0, slots := 0, locals := 59 } : Room).slots) := by
  refine MetFree.of_bodySF (plainFor_of_name pn_2) hisR ?_
  intro p e s m args below meth c s₁ Bd hml0 hP hK
  obtain ⟨rfl, hZ, hh⟩ := hP
  have hx := Bd.exec
  have hby := Bd.bytes
  have hml : c.maxLocals = 2 := hml0
  have hown : s.vm.findClass "com/example/tariff/tariff/core/decimal/PlainDecimal" = some m.cls := findClass_of_methodNamed Bd.named
  have hnm := (name_of_methodNamed Bd.named Bd.method).1
  have X0 : Stand p l e ({ frames := 4, cells := 0, slots := 0, locals := 59 } : Room) s m #[(.ref a1)] below meth c s₁ [] 0 0 := Stand.of_body Bd
  have e0 : s₁.heap = h0 := by rw [← hh, Bd.state]; rfl
  have N0 := Fr.nil n0
  have K0 : Keep h0 h0 [] := Keep.refl _ _
  suffices hG : Goes p e below (fun o U' => ∃ v L, o = .returned v ∧ Q_ptIx Z a1 cs h0 n0 v U'.heap L ∧ FrameEnd s o U' L ({ frames := 4, cells := 0, slots := 0, locals := 59 } : Room).cells ({ frames := 4, cells := 0, slots := 0, locals := 59 } : Room).slots) s₁ (mkF m 0 #[.val (.ref a1), .unset] []) by
    obtain ⟨t, o, h1, h2⟩ := hG; exact ⟨t, o, castTop (ef_ptIx m a1) h1, h2⟩
  refine Goes.step (T' := s₁) (g' := (mkF m 1 #[.val (.ref a1), .unset] [(.ref a1)])) (fun _ kz => XS.aloadN X0.here hx rfl (hb hby d_prog_15_method_9_0) rfl rfl kz) ?_
  refine Goes.step (T' := s₁) (g' := (mkF m 3 #[.val (.ref a1), .unset] [(.int (46 : Int32)), (.ref a1)])) (fun _ kz => XS.bipush X0.here hx rfl (hb hby d_prog_15_method_9_1) kz) ?_
  obtain ⟨cq18, kq18, qa18, qb18, qc18⟩ := isOf hZ e0 E_a1
  obtain ⟨_, _, ⟨T18, L18, k18, n18⟩, -, X18, ⟨Lc18, hQ18, l18, y18, z18⟩, st18⟩ := X0.virtualBack hx (y := (⟨"java/lang/String", "indexOf", "(I)I"⟩ : MethodName)) (z := (⟨"java/lang/String", "indexOf", "(I)I"⟩ : MethodName)) hown (mvT hZ (hw _ (List.mem_of_getElem? (i := 51) rfl))) (mvT hZ (hw _ (List.mem_of_getElem? (i := 52) rfl))) (notFace_of_selects (args := #[]) (mvT hZ (hw _ (List.mem_of_getElem? (i := 54) rfl)))) (mvT hZ (hw _ (List.mem_of_getElem? (i := 54) rfl))) (mvT hZ (hw _ (List.mem_of_getElem? (i := 53) rfl))) (by decide) (backOf (W := 0) (rm_ix1 l Z a0 hw [] a1 (cs) h0 n0 O0 zcs Scs hz_Scs E_a1 G_a1 (by first | assumption | decide)) hZ (hw _ (List.mem_of_getElem? (i := 55) rfl)) (hw _ (List.mem_of_getElem? (i := 14) rfl)) (by decide) (by decide)) qa18 qc18 (g := (mkF m 3 #[.val (.ref a1), .unset] [(.int (46 : Int32)), (.ref a1)])) rfl (by rw [hml]; rfl) (Steps.refl _) (argsL := [(.int (46 : Int32))]) (rest := []) (lenOf pd_5 rfl) rfl (by show 2 * 0 + _ ≤ _; exact Nat.le_of_eq rfl) (hb hby d_prog_15_method_9_3) (fun _ _ => ⟨rfl, e0, (by decide : 0 + 0 ≤ _), (by decide : 0 + 0 ≤ _)⟩)
  dsimp only [Pt.U, Pt.locs, Pt.cells, Pt.slots] at X18 l18 y18 z18 st18 hQ18
  subst l18 y18 z18
  obtain ⟨rfl, rfl, e18⟩ := hQ18
  replace N0 := Fr.app N0 (Fr.nil n0)
  refine Goes.run (T' := T18) (g' := (mkF m 6 #[.val (.ref a1), .unset] [(.int (if IX cs = cs.length then -1 else Int32.ofNat (IX cs)))])) st18 ?_
  refine Goes.step (T' := T18) (g' := (mkF m 7 #[.val (.ref a1), .val (.int (if IX cs = cs.length then -1 else Int32.ofNat (IX cs)))] [])) (fun _ kz => XS.istoreN X18.here hx rfl (hb hby d_prog_15_method_9_6) rfl (l' := #[.val (.ref a1), .val (.int (if IX cs = cs.length then -1 else Int32.ofNat (IX cs)))]) rfl kz) ?_
  refine Goes.step (T' := T18) (g' := (mkF m 8 #[.val (.ref a1), .val (.int (if IX cs = cs.length then -1 else Int32.ofNat (IX cs)))] [(.int (if IX cs = cs.length then -1 else Int32.ofNat (IX cs)))])) (fun _ kz => XS.iloadN X18.here hx rfl (hb hby d_prog_15_method_9_7) rfl  kz) ?_
  by_cases hc8_19 : (if IX cs = cs.length then -1 else Int32.ofNat (IX cs)) < (0 : Int32)
  ·
    refine Goes.step (T' := T18) (g' := (mkF m 11 #[.val (.ref a1), .val (.int (if IX cs = cs.length then -1 else Int32.ofNat (IX cs)))] [])) (fun _ kz => XS.ifNo X18.here hx rfl (hb hby d_prog_15_method_9_8) rfl ((if0 _ _).trans (tlt hc8_19).2.1) kz) ?_
    refine Goes.step (T' := T18) (g' := (mkF m 12 #[.val (.ref a1), .val (.int (if IX cs = cs.length then -1 else Int32.ofNat (IX cs)))] [(.ref a1)])) (fun _ kz => XS.aloadN X18.here hx rfl (hb hby d_prog_15_method_9_11) rfl rfl kz) ?_
    obtain ⟨cq20, kq20, qa20, qb20, qc20⟩ := isOf hZ e18 E_a1
    obtain ⟨_, _, ⟨T20, L20, k20, n20⟩, -, X20, ⟨Lc20, hQ20, l20, y20, z20⟩, st20⟩ := X18.virtualBack hx (y := (⟨"java/lang/String", "length", "()I"⟩ : MethodName)) (z := (⟨"java/lang/String", "length", "()I"⟩ : MethodName)) hown (mvT hZ (hw _ (List.mem_of_getElem? (i := 93) rfl))) (mvT hZ (hw _ (List.mem_of_getElem? (i := 67) rfl))) (notFace_of_selects (args := #[]) (mvT hZ (hw _ (List.mem_of_getElem? (i := 69) rfl)))) (mvT hZ (hw _ (List.mem_of_getElem? (i := 69) rfl))) (mvT hZ (hw _ (List.mem_of_getElem? (i := 68) rfl))) (by decide) (own_lenW (W := 0) hZ hw (hw _ (List.mem_of_getElem? (i := 13) rfl)) G_a1 (hl) (Scs.ext O0.2) hz_Scs (by decide) (by decide)) qa20 qc20 (g := (mkF m 12 #[.val (.ref a1), .val (.int (if IX cs = cs.length then -1 else Int32.ofNat (IX cs)))] [(.ref a1)])) rfl (by rw [hml]; rfl) (Steps.refl _) (argsL := []) (rest := []) (lenOf pd_4 rfl) rfl (by show 2 * 0 + _ ≤ _; exact Nat.le_of_eq rfl) (hb hby d_prog_15_method_9_12) (fun _ _ => ⟨rfl, e18, (by decide : 0 + 0 ≤ _), (by decide : 0 + 0 ≤ _)⟩)
    dsimp only [Pt.U, Pt.locs, Pt.cells, Pt.slots] at X20 l20 y20 z20 st20 hQ20
    subst l20 y20 z20
    obtain ⟨rfl, rfl, e20⟩ := hQ20
    replace N0 := Fr.app N0 (Fr.nil n0)
    refine Goes.run (T' := T20) (g' := (mkF m 15 #[.val (.ref a1), .val (.int (if IX cs = cs.length then -1 else Int32.ofNat (IX cs)))] [(.int (Int32.ofNat cs.length))])) st20 ?_
    refine Goes.step (T' := T20) (g' := (mkF m 19 #[.val (.ref a1), .val (.int (if IX cs = cs.length then -1 else Int32.ofNat (IX cs)))] [(.int (Int32.ofNat cs.length))])) (fun _ kz => XS.goto X20.here hx rfl (pc0 := 15) (pc' := 19) rfl (hb hby d_prog_15_method_9_15) (by decide) (by decide) kz) ?_
    obtain ⟨fs, hr, hrun, hended, hW, hsame⟩ := X20.leave (v := some (.int (Int32.ofNat cs.length))) (fun h => by rw [Bd.returns] at h; cases h)
    exact ⟨_, _, retOut X20 hx Bd.returns rfl (Or.inl ⟨rfl, Or.inl rfl, _, rfl⟩) (hb hby d_prog_15_method_9_19) hr, hrun, hended, _, _, rfl, (by show Q_ptIx Z a1 cs h0 n0 _ T20.heap _; rw [e20]; exact ⟨(by by_cases q : IX cs = cs.length; rw [q]; rw [if_neg q] at hc8_19; exact absurd hc8_19 (own_nn (by have := IX_le cs; omega))), rfl, rfl⟩), ⟨_, rfl⟩, hW, hsame.mono (by decide) (by decide)⟩
  ·
    refine Goes.step (T' := T18) (g' := (mkF m 18 #[.val (.ref a1), .val (.int (if IX cs = cs.length then -1 else Int32.ofNat (IX cs)))] [])) (fun _ kz => XS.ifYes X18.here hx rfl (pc0 := 8) (pc' := 18) rfl (hb hby d_prog_15_method_9_8) rfl ((if0 _ _).trans (flt hc8_19).2.1) (by decide) (by decide) kz) ?_
    refine Goes.step (T' := T18) (g' := (mkF m 19 #[.val (.ref a1), .val (.int (if IX cs = cs.length then -1 else Int32.ofNat (IX cs)))] [(.int (if IX cs = cs.length then -1 else Int32.ofNat (IX cs)))])) (fun _ kz => XS.iloadN X18.here hx rfl (hb hby d_prog_15_method_9_18) rfl  kz) ?_
    obtain ⟨fs, hr, hrun, hended, hW, hsame⟩ := X18.leave (v := some (.int (if IX cs = cs.length then -1 else Int32.ofNat (IX cs)))) (fun h => by rw [Bd.returns] at h; cases h)
    exact ⟨_, _, retOut X18 hx Bd.returns rfl (Or.inl ⟨rfl, Or.inl rfl, _, rfl⟩) (hb hby d_prog_15_method_9_19) hr, hrun, hended, _, _, rfl, (by show Q_ptIx Z a1 cs h0 n0 _ T18.heap _; rw [e18]; exact ⟨(by by_cases q : IX cs = cs.length; rw [if_pos q] at hc8_19; exact absurd (by decide) hc8_19; rw [if_neg q]), rfl, rfl⟩), ⟨_, rfl⟩, hW, hsame.mono (by decide) (by decide)⟩
theorem d_prog_15_method_4_0 : decode prog_15_method_4_code 0 = .ok (.aload_n 0, 1) := by decide +kernel
theorem d_prog_15_method_4_1 : decode prog_15_method_4_code 1 = .ok (.invokestatic 25, 3) := by decide +kernel
theorem pd_6 : parseMethodDescriptor "(Ljava/lang/String;)I" = some ⟨[(.object "java/lang/String")], some .int⟩ := by decide +kernel
theorem d_prog_15_method_4_4 : decode prog_15_method_4_code 4 = .ok (.istore_n 1, 1) := by decide +kernel
theorem d_prog_15_method_4_5 : decode prog_15_method_4_code 5 = .ok (.iload_n 1, 1) := by decide +kernel
theorem d_prog_15_method_4_6 : decode prog_15_method_4_code 6 = .ok (.aload_n 0, 1) := by decide +kernel
theorem d_prog_15_method_4_7 : decode prog_15_method_4_code 7 = .ok (.invokevirtual 35, 3) := by decide +kernel
theorem d_prog_15_method_4_10 : decode prog_15_method_4_code 10 = .ok (.if_icmp .ne 7, 3) := by decide +kernel
theorem d_prog_15_method_4_13 : decode prog_15_method_4_code 13 = .ok (.iconst 0, 1) := by decide +kernel
theorem d_prog_15_method_4_14 : decode prog_15_method_4_code 14 = .ok (.goto 11, 3) := by decide +kernel
theorem d_prog_15_method_4_25 : decode prog_15_method_4_code 25 = .ok (.ireturn, 1) := by decide +kernel
theorem d_prog_15_method_4_17 : decode prog_15_method_4_code 17 = .ok (.aload_n 0, 1) := by decide +kernel
theorem d_prog_15_method_4_18 : decode prog_15_method_4_code 18 = .ok (.invokevirtual 35, 3) := by decide +kernel
theorem d_prog_15_method_4_21 : decode prog_15_method_4_code 21 = .ok (.iload_n 1, 1) := by decide +kernel
theorem d_prog_15_method_4_22 : decode prog_15_method_4_code 22 = .ok (.isub, 1) := by decide +kernel
theorem d_prog_15_method_4_23 : decode prog_15_method_4_code 23 = .ok (.iconst 1, 1) := by decide +kernel
theorem d_prog_15_method_4_24 : decode prog_15_method_4_code 24 = .ok (.isub, 1) := by decide +kernel
theorem ef_fracD (m : MethodId) (a1 : Addr) : entryFrame m #[(.ref a1)] 2 = mkF m 0 #[.val (.ref a1), .unset] [] := by first | (simp [entryFrame, mkF, argsToLocals, Value.category, maxLocals]; done) | rfl
def Q_fracD (Z : State) (a1 : Addr) (cs : List Int32) (h0 : Heap) (n0 : Nat) (v : Option Value) (h : Heap) (L : List Loc) : Prop := (v = some (.int (if IX cs = cs.length then 0 else Int32.ofNat cs.length - Int32.ofNat (IX cs) - 1))) ∧ (L = []) ∧ (h = h0)
set_option maxRecDepth 65536 in
set_option maxHeartbeats 40000000 in
theorem rm_fracD (l : Launch) (Z : State) (a0 : Array Value) (hw : ∀ d ∈ tables_1, d.before a0 Z = true) (ws : List Jvm.Cond) (a1 : Addr) (cs : List Int32) (h0 : Heap) (n0 : Nat) (O0 : Old Z n0 h0) (zcs : Int32) (Scs : Sta Z Z.heap "java/lang/String" "COMPACT_STRINGS" "Z" (.int zcs)) (hz_Scs : ¬ zcs = 0) (E_a1 : Exa Z h0 a1 "java/lang/String") (G_a1 : SX Z h0 a1 cs) (hl : cs.length ≤ 4000) :
    MetFree l (⟨"com/example/tariff/tariff/core/decimal/PlainDecimal", "fractionDigits", "(Ljava/lang/String;)I"⟩ : MethodName) (head1 ((Jvm.Cond.code (⟨"com/example/tariff/tariff/core/decimal/PlainDecimal", "fractionDigits", "(Ljava/lang/String;)I"⟩ : MethodName) prog_15_method_4_code 2 (some .int)) :: ws) ({ frames := 5, cells := 0, slots := 0, locals := 72 } : Room)) (fun a U => a = #[(.ref a1)] ∧ Z.Warmed39 U.vm ∧ U.heap = h0) (fun _ _ _ _ _ => True) (fun _ U o U' => ∃ v L, o = .returned v ∧ Q_fracD Z a1 cs h0 n0 v U'.heap L ∧ FrameEnd U o U' L ({ frames := 5, cells := 0, slots := 0, locals := 72 } : Room).cells ({ frames := 5, cells := 0, slots := 0, locals := 72 } : Room).slots) := by
  refine MetFree.of_bodySF (plainFor_of_name pn_2) hisR ?_
  intro p e s m args below meth c s₁ Bd hml0 hP hK
  obtain ⟨rfl, hZ, hh⟩ := hP
  have hx := Bd.exec
  have hby := Bd.bytes
  have hml : c.maxLocals = 2 := hml0
  have hown : s.vm.findClass "com/example/tariff/tariff/core/decimal/PlainDecimal" = some m.cls := findClass_of_methodNamed Bd.named
  have hnm := (name_of_methodNamed Bd.named Bd.method).1
  have X0 : Stand p l e ({ frames := 5, cells := 0, slots := 0, locals := 72 } : Room) s m #[(.ref a1)] below meth c s₁ [] 0 0 := Stand.of_body Bd
  have e0 : s₁.heap = h0 := by rw [← hh, Bd.state]; rfl
  have N0 := Fr.nil n0
  have K0 : Keep h0 h0 [] := Keep.refl _ _
  suffices hG : Goes p e below (fun o U' => ∃ v L, o = .returned v ∧ Q_fracD Z a1 cs h0 n0 v U'.heap L ∧ FrameEnd s o U' L ({ frames := 5, cells := 0, slots := 0, locals := 72 } : Room).cells ({ frames := 5, cells := 0, slots := 0, locals := 72 } : Room).slots) s₁ (mkF m 0 #[.val (.ref a1), .unset] []) by
    obtain ⟨t, o, h1, h2⟩ := hG; exact ⟨t, o, castTop (ef_fracD m a1) h1, h2⟩
  refine Goes.step (T' := s₁) (g' := (mkF m 1 #[.val (.ref a1), .unset] [(.ref a1)])) (fun _ kz => XS.aloadN X0.here hx rfl (hb hby d_prog_15_method_4_0) rfl rfl kz) ?_
  obtain ⟨_, _, ⟨T21, L21, k21, n21⟩, -, X21, ⟨Lc21, hQ21, l21, y21, z21⟩, st21⟩ := Jvm.LawKit.callS X0 hx (y := (⟨"com/example/tariff/tariff/core/decimal/PlainDecimal", "pointIndex", "(Ljava/lang/String;)I"⟩ : MethodName)) hown (mvT hZ (hw _ (List.mem_of_getElem? (i := 48) rfl))) (mvT hZ (hw _ (List.mem_of_getElem? (i := 49) rfl))) (mvT hZ (hw _ (List.mem_of_getElem? (i := 43) rfl))) (mvT hZ (hw _ (List.mem_of_getElem? (i := 50) rfl))) (by decide) (backOf (W := 0) (rm_ptIx l Z a0 hw [] a1 (cs) h0 n0 O0 zcs Scs hz_Scs E_a1 G_a1 (by first | assumption | decide)) hZ (hw _ (List.mem_of_getElem? (i := 50) rfl)) (hw _ (List.mem_of_getElem? (i := 43) rfl)) (by decide) (by decide)) (g := (mkF m 1 #[.val (.ref a1), .unset] [(.ref a1)])) rfl (by rw [hml]; rfl) (argsL := [(.ref a1)]) (rest := []) (lenOf pd_6 rfl) rfl (by show 2 * 0 + _ ≤ _; exact Nat.le_of_eq rfl) (hb hby d_prog_15_method_4_1) (fun _ _ => ⟨rfl, e0, (by decide : 0 + 0 ≤ _), (by decide : 0 + 0 ≤ _)⟩)
  dsimp only [Pt.U, Pt.locs, Pt.cells, Pt.slots] at X21 l21 y21 z21 st21 hQ21
  subst l21 y21 z21
  obtain ⟨rfl, rfl, e21⟩ := hQ21
  replace N0 := Fr.app N0 (Fr.nil n0)
  refine Goes.step (T' := T21) (g' := (mkF m 4 #[.val (.ref a1), .unset] [(.int (Int32.ofNat (IX cs)))])) st21 ?_
  refine Goes.step (T' := T21) (g' := (mkF m 5 #[.val (.ref a1), .val (.int (Int32.ofNat (IX cs)))] [])) (fun _ kz => XS.istoreN X21.here hx rfl (hb hby d_prog_15_method_4_4) rfl (l' := #[.val (.ref a1), .val (.int (Int32.ofNat (IX cs)))]) rfl kz) ?_
  refine Goes.step (T' := T21) (g' := (mkF m 6 #[.val (.ref a1), .val (.int (Int32.ofNat (IX cs)))] [(.int (Int32.ofNat (IX cs)))])) (fun _ kz => XS.iloadN X21.here hx rfl (hb hby d_prog_15_method_4_5) rfl  kz) ?_
  refine Goes.step (T' := T21) (g' := (mkF m 7 #[.val (.ref a1), .val (.int (Int32.ofNat (IX cs)))] [(.ref a1), (.int (Int32.ofNat (IX cs)))])) (fun _ kz => XS.aloadN X21.here hx rfl (hb hby d_prog_15_method_4_6) rfl rfl kz) ?_
  obtain ⟨cq22, kq22, qa22, qb22, qc22⟩ := isOf hZ e21 E_a1
  obtain ⟨_, _, ⟨T22, L22, k22, n22⟩, -, X22, ⟨Lc22, hQ22, l22, y22, z22⟩, st22⟩ := X21.virtualBack hx (y := (⟨"java/lang/String", "length", "()I"⟩ : MethodName)) (z := (⟨"java/lang/String", "length", "()I"⟩ : MethodName)) hown (mvT hZ (hw _ (List.mem_of_getElem? (i := 93) rfl))) (mvT hZ (hw _ (List.mem_of_getElem? (i := 67) rfl))) (notFace_of_selects (args := #[]) (mvT hZ (hw _ (List.mem_of_getElem? (i := 69) rfl)))) (mvT hZ (hw _ (List.mem_of_getElem? (i := 69) rfl))) (mvT hZ (hw _ (List.mem_of_getElem? (i := 68) rfl))) (by decide) (own_lenW (W := 1) hZ hw (hw _ (List.mem_of_getElem? (i := 13) rfl)) G_a1 (hl) (Scs.ext O0.2) hz_Scs (by decide) (by decide)) qa22 qc22 (g := (mkF m 7 #[.val (.ref a1), .val (.int (Int32.ofNat (IX cs)))] [(.ref a1), (.int (Int32.ofNat (IX cs)))])) rfl (by rw [hml]; rfl) (Steps.refl _) (argsL := []) (rest := [(.int (Int32.ofNat (IX cs)))]) (lenOf pd_4 rfl) rfl (by show 2 * 0 + _ ≤ _; exact Nat.le_of_eq rfl) (hb hby d_prog_15_method_4_7) (fun _ _ => ⟨rfl, e21, (by decide : 0 + 0 ≤ _), (by decide : 0 + 0 ≤ _)⟩)
  dsimp only [Pt.U, Pt.locs, Pt.cells, Pt.slots] at X22 l22 y22 z22 st22 hQ22
  subst l22 y22 z22
  obtain ⟨rfl, rfl, e22⟩ := hQ22
  replace N0 := Fr.app N0 (Fr.nil n0)
  refine Goes.run (T' := T22) (g' := (mkF m 10 #[.val (.ref a1), .val (.int (Int32.ofNat (IX cs)))] [(.int (Int32.ofNat cs.length)), (.int (Int32.ofNat (IX cs)))])) st22 ?_
  by_cases hc10_23 : (Int32.ofNat (IX cs)) = (Int32.ofNat cs.length)
  ·
    refine Goes.step (T' := T22) (g' := (mkF m 13 #[.val (.ref a1), .val (.int (Int32.ofNat (IX cs)))] [])) (fun _ kz => XS.icmpNo X22.here hx rfl (hb hby d_prog_15_method_4_10) rfl (teq hc10_23).2 kz) ?_
    refine Goes.step (T' := T22) (g' := (mkF m 14 #[.val (.ref a1), .val (.int (Int32.ofNat (IX cs)))] [(.int (0 : Int32))])) (fun _ kz => XS.iconst X22.here hx rfl (hb hby d_prog_15_method_4_13) kz) ?_
    refine Goes.step (T' := T22) (g' := (mkF m 25 #[.val (.ref a1), .val (.int (Int32.ofNat (IX cs)))] [(.int (0 : Int32))])) (fun _ kz => XS.goto X22.here hx rfl (pc0 := 14) (pc' := 25) rfl (hb hby d_prog_15_method_4_14) (by decide) (by decide) kz) ?_
    obtain ⟨fs, hr, hrun, hended, hW, hsame⟩ := X22.leave (v := some (.int (0 : Int32))) (fun h => by rw [Bd.returns] at h; cases h)
    exact ⟨_, _, retOut X22 hx Bd.returns rfl (Or.inl ⟨rfl, Or.inl rfl, _, rfl⟩) (hb hby d_prog_15_method_4_25) hr, hrun, hended, _, _, rfl, (by show Q_fracD Z a1 cs h0 n0 _ T22.heap _; rw [e22]; exact ⟨(by rw [if_pos ((own_eq (by have := IX_le cs; omega) hl).mp hc10_23)]), rfl, rfl⟩), ⟨_, rfl⟩, hW, hsame.mono (by decide) (by decide)⟩
  ·
    refine Goes.step (T' := T22) (g' := (mkF m 17 #[.val (.ref a1), .val (.int (Int32.ofNat (IX cs)))] [])) (fun _ kz => XS.icmpYes X22.here hx rfl (pc0 := 10) (pc' := 17) rfl (hb hby d_prog_15_method_4_10) rfl (feq hc10_23).2 (by decide) (by decide) kz) ?_
    refine Goes.step (T' := T22) (g' := (mkF m 18 #[.val (.ref a1), .val (.int (Int32.ofNat (IX cs)))] [(.ref a1)])) (fun _ kz => XS.aloadN X22.here hx rfl (hb hby d_prog_15_method_4_17) rfl rfl kz) ?_
    obtain ⟨cq24, kq24, qa24, qb24, qc24⟩ := isOf hZ e22 E_a1
    obtain ⟨_, _, ⟨T24, L24, k24, n24⟩, -, X24, ⟨Lc24, hQ24, l24, y24, z24⟩, st24⟩ := X22.virtualBack hx (y := (⟨"java/lang/String", "length", "()I"⟩ : MethodName)) (z := (⟨"java/lang/String", "length", "()I"⟩ : MethodName)) hown (mvT hZ (hw _ (List.mem_of_getElem? (i := 93) rfl))) (mvT hZ (hw _ (List.mem_of_getElem? (i := 67) rfl))) (notFace_of_selects (args := #[]) (mvT hZ (hw _ (List.mem_of_getElem? (i := 69) rfl)))) (mvT hZ (hw _ (List.mem_of_getElem? (i := 69) rfl))) (mvT hZ (hw _ (List.mem_of_getElem? (i := 68) rfl))) (by decide) (own_lenW (W := 0) hZ hw (hw _ (List.mem_of_getElem? (i := 13) rfl)) G_a1 (hl) (Scs.ext O0.2) hz_Scs (by decide) (by decide)) qa24 qc24 (g := (mkF m 18 #[.val (.ref a1), .val (.int (Int32.ofNat (IX cs)))] [(.ref a1)])) rfl (by rw [hml]; rfl) (Steps.refl _) (argsL := []) (rest := []) (lenOf pd_4 rfl) rfl (by show 2 * 0 + _ ≤ _; exact Nat.le_of_eq rfl) (hb hby d_prog_15_method_4_18) (fun _ _ => ⟨rfl, e22, (by decide : 0 + 0 ≤ _), (by decide : 0 + 0 ≤ _)⟩)
    dsimp only [Pt.U, Pt.locs, Pt.cells, Pt.slots] at X24 l24 y24 z24 st24 hQ24
    subst l24 y24 z24
    obtain ⟨rfl, rfl, e24⟩ := hQ24
    replace N0 := Fr.app N0 (Fr.nil n0)
    refine Goes.run (T' := T24) (g' := (mkF m 21 #[.val (.ref a1), .val (.int (Int32.ofNat (IX cs)))] [(.int (Int32.ofNat cs.length))])) st24 ?_
    refine Goes.step (T' := T24) (g' := (mkF m 22 #[.val (.ref a1), .val (.int (Int32.ofNat (IX cs)))] [(.int (Int32.ofNat (IX cs))), (.int (Int32.ofNat cs.length))])) (fun _ kz => XS.iloadN X24.here hx rfl (hb hby d_prog_15_method_4_21) rfl  kz) ?_
    refine Goes.step (T' := T24) (g' := (mkF m 23 #[.val (.ref a1), .val (.int (Int32.ofNat (IX cs)))] [(.int ((Int32.ofNat cs.length) - (Int32.ofNat (IX cs))))])) (fun _ kz => XS.isub X24.here hx rfl (hb hby d_prog_15_method_4_22) rfl kz) ?_
    refine Goes.step (T' := T24) (g' := (mkF m 24 #[.val (.ref a1), .val (.int (Int32.ofNat (IX cs)))] [(.int (1 : Int32)), (.int ((Int32.ofNat cs.length) - (Int32.ofNat (IX cs))))])) (fun _ kz => XS.iconst X24.here hx rfl (hb hby d_prog_15_method_4_23) kz) ?_
    refine Goes.step (T' := T24) (g' := (mkF m 25 #[.val (.ref a1), .val (.int (Int32.ofNat (IX cs)))] [(.int (((Int32.ofNat cs.length) - (Int32.ofNat (IX cs))) - (1 : Int32)))])) (fun _ kz => XS.isub X24.here hx rfl (hb hby d_prog_15_method_4_24) rfl kz) ?_
    obtain ⟨fs, hr, hrun, hended, hW, hsame⟩ := X24.leave (v := some (.int (((Int32.ofNat cs.length) - (Int32.ofNat (IX cs))) - (1 : Int32)))) (fun h => by rw [Bd.returns] at h; cases h)
    exact ⟨_, _, retOut X24 hx Bd.returns rfl (Or.inl ⟨rfl, Or.inl rfl, _, rfl⟩) (hb hby d_prog_15_method_4_25) hr, hrun, hended, _, _, rfl, (by show Q_fracD Z a1 cs h0 n0 _ T24.heap _; rw [e24]; exact ⟨(by rw [if_neg (fun q => hc10_23 ((own_eq (by have := IX_le cs; omega) hl).mpr q))]), rfl, rfl⟩), ⟨_, rfl⟩, hW, hsame.mono (by decide) (by decide)⟩
theorem d_prog_15_method_3_0 : decode prog_15_method_3_code 0 = .ok (.aload_n 0, 1) := by decide +kernel
theorem d_prog_15_method_3_1 : decode prog_15_method_3_code 1 = .ok (.invokestatic 25, 3) := by decide +kernel
theorem d_prog_15_method_3_4 : decode prog_15_method_3_code 4 = .ok (.istore_n 1, 1) := by decide +kernel
theorem d_prog_15_method_3_5 : decode prog_15_method_3_code 5 = .ok (.iconst 0, 1) := by decide +kernel
theorem d_prog_15_method_3_6 : decode prog_15_method_3_code 6 = .ok (.istore_n 2, 1) := by decide +kernel
theorem d_prog_15_method_3_7 : decode prog_15_method_3_code 7 = .ok (.iload_n 2, 1) := by decide +kernel
theorem d_prog_15_method_3_8 : decode prog_15_method_3_code 8 = .ok (.iload_n 1, 1) := by decide +kernel
theorem d_prog_15_method_3_9 : decode prog_15_method_3_code 9 = .ok (.if_icmp .ge 19, 3) := by decide +kernel
theorem d_prog_15_method_3_28 : decode prog_15_method_3_code 28 = .ok (.iload_n 1, 1) := by decide +kernel
theorem d_prog_15_method_3_29 : decode prog_15_method_3_code 29 = .ok (.iload_n 2, 1) := by decide +kernel
theorem d_prog_15_method_3_30 : decode prog_15_method_3_code 30 = .ok (.isub, 1) := by decide +kernel
theorem d_prog_15_method_3_31 : decode prog_15_method_3_code 31 = .ok (.ireturn, 1) := by decide +kernel
theorem d_prog_15_method_3_12 : decode prog_15_method_3_code 12 = .ok (.aload_n 0, 1) := by decide +kernel
theorem d_prog_15_method_3_13 : decode prog_15_method_3_code 13 = .ok (.iload_n 2, 1) := by decide +kernel
theorem d_prog_15_method_3_14 : decode prog_15_method_3_code 14 = .ok (.invokevirtual 29, 3) := by decide +kernel
theorem pd_7 : parseMethodDescriptor "(I)C" = some ⟨[.int], some .char⟩ := by decide +kernel
theorem d_prog_15_method_3_17 : decode prog_15_method_3_code 17 = .ok (.bipush 48, 2) := by decide +kernel
theorem d_prog_15_method_3_19 : decode prog_15_method_3_code 19 = .ok (.if_icmp .ne 9, 3) := by decide +kernel
theorem d_prog_15_method_3_22 : decode prog_15_method_3_code 22 = .ok (.iinc 2 1, 3) := by decide +kernel
theorem d_prog_15_method_3_25 : decode prog_15_method_3_code 25 = .ok (.goto (-18), 3) := by decide +kernel
theorem ef_intD (m : MethodId) (a1 : Addr) : entryFrame m #[(.ref a1)] 3 = mkF m 0 #[.val (.ref a1), .unset, .unset] [] := by first | (simp [entryFrame, mkF, argsToLocals, Value.category, maxLocals]; done) | rfl
def Q_intD (Z : State) (a1 : Addr) (cs : List Int32) (h0 : Heap) (n0 : Nat) (v : Option Value) (h : Heap) (L : List Loc) : Prop := (v = some (.int (Int32.ofNat (IX cs) - Int32.ofNat (LZ cs)))) ∧ (L = []) ∧ (h = h0)
set_option maxRecDepth 65536 in
set_option maxHeartbeats 40000000 in
theorem rm_intD (l : Launch) (Z : State) (a0 : Array Value) (hw : ∀ d ∈ tables_1, d.before a0 Z = true) (ws : List Jvm.Cond) (a1 : Addr) (cs : List Int32) (h0 : Heap) (n0 : Nat) (O0 : Old Z n0 h0) (zcs : Int32) (Scs : Sta Z Z.heap "java/lang/String" "COMPACT_STRINGS" "Z" (.int zcs)) (hz_Scs : ¬ zcs = 0) (fmt : Value) (Sfm : Sta Z Z.heap "jdk/internal/util/Preconditions" "SIOOBE_FORMATTER" "Ljava/util/function/BiFunction;" fmt) (hz_Sfm : fmt.isRef = true) (E_a1 : Exa Z h0 a1 "java/lang/String") (G_a1 : SX Z h0 a1 cs) (hl : cs.length ≤ 4000) :
    MetFree l (⟨"com/example/tariff/tariff/core/decimal/PlainDecimal", "integerDigits", "(Ljava/lang/String;)I"⟩ : MethodName) (head1 ((Jvm.Cond.code (⟨"com/example/tariff/tariff/core/decimal/PlainDecimal", "integerDigits", "(Ljava/lang/String;)I"⟩ : MethodName) prog_15_method_3_code 3 (some .int)) :: ws) ({ frames := 5, cells := 0, slots := 0, locals := 72 } : Room)) (fun a U => a = #[(.ref a1)] ∧ Z.Warmed39 U.vm ∧ U.heap = h0) (fun _ _ _ _ _ => True) (fun _ U o U' => ∃ v L, o = .returned v ∧ Q_intD Z a1 cs h0 n0 v U'.heap L ∧ FrameEnd U o U' L ({ frames := 5, cells := 0, slots := 0, locals := 72 } : Room).cells ({ frames := 5, cells := 0, slots := 0, locals := 72 } : Room).slots) := by
  refine MetFree.of_bodySF (plainFor_of_name pn_2) hisR ?_
  intro p e s m args below meth c s₁ Bd hml0 hP hK
  obtain ⟨rfl, hZ, hh⟩ := hP
  have hx := Bd.exec
  have hby := Bd.bytes
  have hml : c.maxLocals = 3 := hml0
  have hown : s.vm.findClass "com/example/tariff/tariff/core/decimal/PlainDecimal" = some m.cls := findClass_of_methodNamed Bd.named
  have hnm := (name_of_methodNamed Bd.named Bd.method).1
  have X0 : Stand p l e ({ frames := 5, cells := 0, slots := 0, locals := 72 } : Room) s m #[(.ref a1)] below meth c s₁ [] 0 0 := Stand.of_body Bd
  have e0 : s₁.heap = h0 := by rw [← hh, Bd.state]; rfl
  have N0 := Fr.nil n0
  have K0 : Keep h0 h0 [] := Keep.refl _ _
  suffices hG : Goes p e below (fun o U' => ∃ v L, o = .returned v ∧ Q_intD Z a1 cs h0 n0 v U'.heap L ∧ FrameEnd s o U' L ({ frames := 5, cells := 0, slots := 0, locals := 72 } : Room).cells ({ frames := 5, cells := 0, slots := 0, locals := 72 } : Room).slots) s₁ (mkF m 0 #[.val (.ref a1), .unset, .unset] []) by
    obtain ⟨t, o, h1, h2⟩ := hG; exact ⟨t, o, castTop (ef_intD m a1) h1, h2⟩
  refine Goes.step (T' := s₁) (g' := (mkF m 1 #[.val (.ref a1), .unset, .unset] [(.ref a1)])) (fun _ kz => XS.aloadN X0.here hx rfl (hb hby d_prog_15_method_3_0) rfl rfl kz) ?_
  obtain ⟨_, _, ⟨T25, L25, k25, n25⟩, -, X25, ⟨Lc25, hQ25, l25, y25, z25⟩, st25⟩ := Jvm.LawKit.callS X0 hx (y := (⟨"com/example/tariff/tariff/core/decimal/PlainDecimal", "pointIndex", "(Ljava/lang/String;)I"⟩ : MethodName)) hown (mvT hZ (hw _ (List.mem_of_getElem? (i := 48) rfl))) (mvT hZ (hw _ (List.mem_of_getElem? (i := 49) rfl))) (mvT hZ (hw _ (List.mem_of_getElem? (i := 43) rfl))) (mvT hZ (hw _ (List.mem_of_getElem? (i := 50) rfl))) (by decide) (backOf (W := 0) (rm_ptIx l Z a0 hw [] a1 (cs) h0 n0 O0 zcs Scs hz_Scs E_a1 G_a1 (by first | assumption | decide)) hZ (hw _ (List.mem_of_getElem? (i := 50) rfl)) (hw _ (List.mem_of_getElem? (i := 43) rfl)) (by decide) (by decide)) (g := (mkF m 1 #[.val (.ref a1), .unset, .unset] [(.ref a1)])) rfl (by rw [hml]; rfl) (argsL := [(.ref a1)]) (rest := []) (lenOf pd_6 rfl) rfl (by show 2 * 0 + _ ≤ _; exact Nat.le_of_eq rfl) (hb hby d_prog_15_method_3_1) (fun _ _ => ⟨rfl, e0, (by decide : 0 + 0 ≤ _), (by decide : 0 + 0 ≤ _)⟩)
  dsimp only [Pt.U, Pt.locs, Pt.cells, Pt.slots] at X25 l25 y25 z25 st25 hQ25
  subst l25 y25 z25
  obtain ⟨rfl, rfl, e25⟩ := hQ25
  replace N0 := Fr.app N0 (Fr.nil n0)
  refine Goes.step (T' := T25) (g' := (mkF m 4 #[.val (.ref a1), .unset, .unset] [(.int (Int32.ofNat (IX cs)))])) st25 ?_
  refine Goes.step (T' := T25) (g' := (mkF m 5 #[.val (.ref a1), .val (.int (Int32.ofNat (IX cs))), .unset] [])) (fun _ kz => XS.istoreN X25.here hx rfl (hb hby d_prog_15_method_3_4) rfl (l' := #[.val (.ref a1), .val (.int (Int32.ofNat (IX cs))), .unset]) rfl kz) ?_
  refine Goes.step (T' := T25) (g' := (mkF m 6 #[.val (.ref a1), .val (.int (Int32.ofNat (IX cs))), .unset] [(.int (0 : Int32))])) (fun _ kz => XS.iconst X25.here hx rfl (hb hby d_prog_15_method_3_5) kz) ?_
  refine Goes.step (T' := T25) (g' := (mkF m 7 #[.val (.ref a1), .val (.int (Int32.ofNat (IX cs))), .val (.int (0 : Int32))] [])) (fun _ kz => XS.istoreN X25.here hx rfl (hb hby d_prog_15_method_3_6) rfl (l' := #[.val (.ref a1), .val (.int (Int32.ofNat (IX cs))), .val (.int (0 : Int32))]) rfl kz) ?_
  have hIl := IX_le cs
  have hLI := LZ_le cs
  have loop : ∀ (k i : Nat) (TL : State) (XL : Stand p l e ({ frames := 5, cells := 0, slots := 0, locals := 72 } : Room) s m #[(.ref a1)] below meth c TL [] 0 0) (eL : TL.heap = h0), i + k = IX cs → LZ cs = i + LZ (cs.drop i) → Goes p e below (fun o U' => ∃ v L, o = .returned v ∧ Q_intD Z a1 cs h0 n0 v U'.heap L ∧ FrameEnd s o U' L ({ frames := 5, cells := 0, slots := 0, locals := 72 } : Room).cells ({ frames := 5, cells := 0, slots := 0, locals := 72 } : Room).slots) TL (mkF m 7 #[.val (.ref a1), .val (.int (Int32.ofNat (IX cs))), .val (.int (Int32.ofNat i))] []) := by
    intro k; induction k with
    | zero =>
      intro i TL XL eL hik hlz
      refine Goes.step (T' := TL) (g' := (mkF m 8 #[.val (.ref a1), .val (.int (Int32.ofNat (IX cs))), .val (.int (Int32.ofNat i))] [(.int (Int32.ofNat i))])) (fun _ kz => XS.iloadN XL.here hx rfl (hb hby d_prog_15_method_3_7) rfl  kz) ?_
      refine Goes.step (T' := TL) (g' := (mkF m 9 #[.val (.ref a1), .val (.int (Int32.ofNat (IX cs))), .val (.int (Int32.ofNat i))] [(.int (Int32.ofNat (IX cs))), (.int (Int32.ofNat i))])) (fun _ kz => XS.iloadN XL.here hx rfl (hb hby d_prog_15_method_3_8) rfl  kz) ?_
      refine Goes.step (T' := TL) (g' := (mkF m 28 #[.val (.ref a1), .val (.int (Int32.ofNat (IX cs))), .val (.int (Int32.ofNat i))] [])) (fun _ kz => XS.icmpYes XL.here hx rfl (pc0 := 9) (pc' := 28) rfl (hb hby d_prog_15_method_3_9) rfl (flt (fun q => absurd ((own_lt (by omega) (by omega)).mp q) (by omega) : ¬ Int32.ofNat i < Int32.ofNat (IX cs))).2.1 (by decide) (by decide) kz) ?_
      refine Goes.step (T' := TL) (g' := (mkF m 29 #[.val (.ref a1), .val (.int (Int32.ofNat (IX cs))), .val (.int (Int32.ofNat i))] [(.int (Int32.ofNat (IX cs)))])) (fun _ kz => XS.iloadN XL.here hx rfl (hb hby d_prog_15_method_3_28) rfl  kz) ?_
      refine Goes.step (T' := TL) (g' := (mkF m 30 #[.val (.ref a1), .val (.int (Int32.ofNat (IX cs))), .val (.int (Int32.ofNat i))] [(.int (Int32.ofNat i)), (.int (Int32.ofNat (IX cs)))])) (fun _ kz => XS.iloadN XL.here hx rfl (hb hby d_prog_15_method_3_29) rfl  kz) ?_
      refine Goes.step (T' := TL) (g' := (mkF m 31 #[.val (.ref a1), .val (.int (Int32.ofNat (IX cs))), .val (.int (Int32.ofNat i))] [(.int ((Int32.ofNat (IX cs)) - (Int32.ofNat i)))])) (fun _ kz => XS.isub XL.here hx rfl (hb hby d_prog_15_method_3_30) rfl kz) ?_
      obtain ⟨fs, hr, hrun, hended, hW, hsame⟩ := XL.leave (v := some (.int ((Int32.ofNat (IX cs)) - (Int32.ofNat i)))) (fun h => by rw [Bd.returns] at h; cases h)
      exact ⟨_, _, retOut XL hx Bd.returns rfl (Or.inl ⟨rfl, Or.inl rfl, _, rfl⟩) (hb hby d_prog_15_method_3_31) hr, hrun, hended, _, _, rfl, (by show Q_intD Z a1 cs h0 n0 _ TL.heap _; rw [eL]; exact ⟨(by rw [show LZ cs = i by omega]), rfl, rfl⟩), ⟨_, rfl⟩, hW, hsame.mono (by decide) (by decide)⟩
    | succ k ih =>
      intro i TL XL eL hik hlz
      have hi : i < cs.length := by omega
      have hd := LZ_drop hi
      refine Goes.step (T' := TL) (g' := (mkF m 8 #[.val (.ref a1), .val (.int (Int32.ofNat (IX cs))), .val (.int (Int32.ofNat i))] [(.int (Int32.ofNat i))])) (fun _ kz => XS.iloadN XL.here hx rfl (hb hby d_prog_15_method_3_7) rfl  kz) ?_
      refine Goes.step (T' := TL) (g' := (mkF m 9 #[.val (.ref a1), .val (.int (Int32.ofNat (IX cs))), .val (.int (Int32.ofNat i))] [(.int (Int32.ofNat (IX cs))), (.int (Int32.ofNat i))])) (fun _ kz => XS.iloadN XL.here hx rfl (hb hby d_prog_15_method_3_8) rfl  kz) ?_
      refine Goes.step (T' := TL) (g' := (mkF m 12 #[.val (.ref a1), .val (.int (Int32.ofNat (IX cs))), .val (.int (Int32.ofNat i))] [])) (fun _ kz => XS.icmpNo XL.here hx rfl (hb hby d_prog_15_method_3_9) rfl (tlt ((own_lt (by omega) (by omega)).mpr (by omega))).2.1 kz) ?_
      refine Goes.step (T' := TL) (g' := (mkF m 13 #[.val (.ref a1), .val (.int (Int32.ofNat (IX cs))), .val (.int (Int32.ofNat i))] [(.ref a1)])) (fun _ kz => XS.aloadN XL.here hx rfl (hb hby d_prog_15_method_3_12) rfl rfl kz) ?_
      refine Goes.step (T' := TL) (g' := (mkF m 14 #[.val (.ref a1), .val (.int (Int32.ofNat (IX cs))), .val (.int (Int32.ofNat i))] [(.int (Int32.ofNat i)), (.ref a1)])) (fun _ kz => XS.iloadN XL.here hx rfl (hb hby d_prog_15_method_3_13) rfl  kz) ?_
      obtain ⟨cq26, kq26, qa26, qb26, qc26⟩ := isOf hZ eL E_a1
      obtain ⟨_, _, ⟨T26, L26, k26, n26⟩, -, X26, ⟨Lc26, hQ26, l26, y26, z26⟩, st26⟩ := XL.virtualBack hx (y := (⟨"java/lang/String", "charAt", "(I)C"⟩ : MethodName)) (z := (⟨"java/lang/String", "charAt", "(I)C"⟩ : MethodName)) hown (mvT hZ (hw _ (List.mem_of_getElem? (i := 94) rfl))) (mvT hZ (hw _ (List.mem_of_getElem? (i := 95) rfl))) (notFace_of_selects (args := #[]) (mvT hZ (hw _ (List.mem_of_getElem? (i := 97) rfl)))) (mvT hZ (hw _ (List.mem_of_getElem? (i := 97) rfl))) (mvT hZ (hw _ (List.mem_of_getElem? (i := 96) rfl))) (by decide) (own_chN (W := 0) hZ hw (hw _ (List.mem_of_getElem? (i := 13) rfl)) G_a1 (hl) (Scs.ext O0.2) hz_Scs (Sfm.ext O0.2) hz_Sfm (i := i) hi rfl (by decide) (by decide)) qa26 qc26 (g := (mkF m 14 #[.val (.ref a1), .val (.int (Int32.ofNat (IX cs))), .val (.int (Int32.ofNat i))] [(.int (Int32.ofNat i)), (.ref a1)])) rfl (by rw [hml]; rfl) (Steps.refl _) (argsL := [(.int (Int32.ofNat i))]) (rest := []) (lenOf pd_7 rfl) rfl (by show 2 * 0 + _ ≤ _; exact Nat.le_of_eq rfl) (hb hby d_prog_15_method_3_14) (fun _ _ => ⟨rfl, eL, (by decide : 0 + 0 ≤ _), (by decide : 0 + 0 ≤ _)⟩)
      dsimp only [Pt.U, Pt.locs, Pt.cells, Pt.slots] at X26 l26 y26 z26 st26 hQ26
      subst l26 y26 z26
      obtain ⟨rfl, rfl, e26⟩ := hQ26
      replace N0 := Fr.app N0 (Fr.nil n0)
      refine Goes.run (T' := T26) (g' := (mkF m 17 #[.val (.ref a1), .val (.int (Int32.ofNat (IX cs))), .val (.int (Int32.ofNat i))] [(.int (cs.getD i 0))])) st26 ?_
      refine Goes.step (T' := T26) (g' := (mkF m 19 #[.val (.ref a1), .val (.int (Int32.ofNat (IX cs))), .val (.int (Int32.ofNat i))] [(.int (48 : Int32)), (.int (cs.getD i 0))])) (fun _ kz => XS.bipush X26.here hx rfl (hb hby d_prog_15_method_3_17) kz) ?_
      by_cases hc19_27 : (cs.getD i 0) = (48 : Int32)
      ·
        refine Goes.step (T' := T26) (g' := (mkF m 22 #[.val (.ref a1), .val (.int (Int32.ofNat (IX cs))), .val (.int (Int32.ofNat i))] [])) (fun _ kz => XS.icmpNo X26.here hx rfl (hb hby d_prog_15_method_3_19) rfl (teq hc19_27).2 kz) ?_
        refine Goes.step (T' := T26) (g' := (mkF m 25 #[.val (.ref a1), .val (.int (Int32.ofNat (IX cs))), .val (.int ((Int32.ofNat i) + (1 : Int32)))] [])) (fun _ kz => XS.iinc X26.here hx rfl (hb hby d_prog_15_method_3_22) rfl (l' := #[.val (.ref a1), .val (.int (Int32.ofNat (IX cs))), .val (.int ((Int32.ofNat i) + (1 : Int32)))]) rfl kz) ?_
        refine Goes.step (T' := T26) (g' := (mkF m 7 #[.val (.ref a1), .val (.int (Int32.ofNat (IX cs))), .val (.int ((Int32.ofNat i) + (1 : Int32)))] [])) (fun _ kz => XS.goto X26.here hx rfl (pc0 := 25) (pc' := 7) rfl (hb hby d_prog_15_method_3_25) (by decide) (by decide) kz) ?_
        rw [if_pos hc19_27] at hd
        have hii : Int32.ofNat i + (1 : Int32) = Int32.ofNat (i + 1) := (inc_ofNat i).symm
        rw [hii]
        exact ih (i + 1) _ X26 e26 (by omega) (by omega)
      ·
        refine Goes.step (T' := T26) (g' := (mkF m 28 #[.val (.ref a1), .val (.int (Int32.ofNat (IX cs))), .val (.int (Int32.ofNat i))] [])) (fun _ kz => XS.icmpYes X26.here hx rfl (pc0 := 19) (pc' := 28) rfl (hb hby d_prog_15_method_3_19) rfl (feq hc19_27).2 (by decide) (by decide) kz) ?_
        refine Goes.step (T' := T26) (g' := (mkF m 29 #[.val (.ref a1), .val (.int (Int32.ofNat (IX cs))), .val (.int (Int32.ofNat i))] [(.int (Int32.ofNat (IX cs)))])) (fun _ kz => XS.iloadN X26.here hx rfl (hb hby d_prog_15_method_3_28) rfl  kz) ?_
        refine Goes.step (T' := T26) (g' := (mkF m 30 #[.val (.ref a1), .val (.int (Int32.ofNat (IX cs))), .val (.int (Int32.ofNat i))] [(.int (Int32.ofNat i)), (.int (Int32.ofNat (IX cs)))])) (fun _ kz => XS.iloadN X26.here hx rfl (hb hby d_prog_15_method_3_29) rfl  kz) ?_
        refine Goes.step (T' := T26) (g' := (mkF m 31 #[.val (.ref a1), .val (.int (Int32.ofNat (IX cs))), .val (.int (Int32.ofNat i))] [(.int ((Int32.ofNat (IX cs)) - (Int32.ofNat i)))])) (fun _ kz => XS.isub X26.here hx rfl (hb hby d_prog_15_method_3_30) rfl kz) ?_
        obtain ⟨fs, hr, hrun, hended, hW, hsame⟩ := X26.leave (v := some (.int ((Int32.ofNat (IX cs)) - (Int32.ofNat i)))) (fun h => by rw [Bd.returns] at h; cases h)
        exact ⟨_, _, retOut X26 hx Bd.returns rfl (Or.inl ⟨rfl, Or.inl rfl, _, rfl⟩) (hb hby d_prog_15_method_3_31) hr, hrun, hended, _, _, rfl, (by show Q_intD Z a1 cs h0 n0 _ T26.heap _; rw [e26]; exact ⟨(by rw [if_neg hc19_27] at hd; rw [show LZ cs = i by omega]), rfl, rfl⟩), ⟨_, rfl⟩, hW, hsame.mono (by decide) (by decide)⟩
  exact loop (IX cs) 0 _ X25 e25 (by omega) (by simp)
theorem d_prog_15_method_5_0 : decode prog_15_method_5_code 0 = .ok (.aload_n 0, 1) := by decide +kernel
theorem d_prog_15_method_5_1 : decode prog_15_method_5_code 1 = .ok (.invokestatic 39, 3) := by decide +kernel
theorem d_prog_15_method_5_4 : decode prog_15_method_5_code 4 = .ok (.bipush 20, 2) := by decide +kernel
theorem d_prog_15_method_5_6 : decode prog_15_method_5_code 6 = .ok (.if_icmp .gt 16, 3) := by decide +kernel
theorem d_prog_15_method_5_22 : decode prog_15_method_5_code 22 = .ok (.iconst 0, 1) := by decide +kernel
theorem d_prog_15_method_5_23 : decode prog_15_method_5_code 23 = .ok (.ireturn, 1) := by decide +kernel
theorem d_prog_15_method_5_9 : decode prog_15_method_5_code 9 = .ok (.aload_n 0, 1) := by decide +kernel
theorem d_prog_15_method_5_10 : decode prog_15_method_5_code 10 = .ok (.invokestatic 42, 3) := by decide +kernel
theorem d_prog_15_method_5_13 : decode prog_15_method_5_code 13 = .ok (.bipush 20, 2) := by decide +kernel
theorem d_prog_15_method_5_15 : decode prog_15_method_5_code 15 = .ok (.if_icmp .gt 7, 3) := by decide +kernel
theorem d_prog_15_method_5_18 : decode prog_15_method_5_code 18 = .ok (.iconst 1, 1) := by decide +kernel
theorem d_prog_15_method_5_19 : decode prog_15_method_5_code 19 = .ok (.goto 4, 3) := by decide +kernel
theorem ef_isB (m : MethodId) (a1 : Addr) : entryFrame m #[(.ref a1)] 1 = mkF m 0 #[.val (.ref a1)] [] := by first | (simp [entryFrame, mkF, argsToLocals, Value.category, maxLocals]; done) | rfl
def Q_isB (Z : State) (a1 : Addr) (cs : List Int32) (h0 : Heap) (n0 : Nat) (v : Option Value) (h : Heap) (L : List Loc) : Prop := (v = some (.int (if (20 : Int32) < (Int32.ofNat (IX cs) - Int32.ofNat (LZ cs)) then 0 else if (20 : Int32) < (if IX cs = cs.length then 0 else Int32.ofNat cs.length - Int32.ofNat (IX cs) - 1) then 0 else 1))) ∧ (L = []) ∧ (h = h0)
set_option maxRecDepth 65536 in
set_option maxHeartbeats 40000000 in
theorem rm_isB (l : Launch) (Z : State) (a0 : Array Value) (hw : ∀ d ∈ tables_1, d.before a0 Z = true) (ws : List Jvm.Cond) (a1 : Addr) (cs : List Int32) (h0 : Heap) (n0 : Nat) (O0 : Old Z n0 h0) (zcs : Int32) (Scs : Sta Z Z.heap "java/lang/String" "COMPACT_STRINGS" "Z" (.int zcs)) (hz_Scs : ¬ zcs = 0) (fmt : Value) (Sfm : Sta Z Z.heap "jdk/internal/util/Preconditions" "SIOOBE_FORMATTER" "Ljava/util/function/BiFunction;" fmt) (hz_Sfm : fmt.isRef = true) (E_a1 : Exa Z h0 a1 "java/lang/String") (G_a1 : SX Z h0 a1 cs) (hl : cs.length ≤ 4000) :
    MetFree l (⟨"com/example/tariff/tariff/core/decimal/PlainDecimal", "isBounded", "(Ljava/lang/String;)Z"⟩ : MethodName) (head1 ((Jvm.Cond.code (⟨"com/example/tariff/tariff/core/decimal/PlainDecimal", "isBounded", "(Ljava/lang/String;)Z"⟩ : MethodName) prog_15_method_5_code 1 (some .boolean)) :: ws) ({ frames := 6, cells := 0, slots := 0, locals := 86 } : Room)) (fun a U => a = #[(.ref a1)] ∧ Z.Warmed39 U.vm ∧ U.heap = h0) (fun _ _ _ _ _ => True) (fun _ U o U' => ∃ v L, o = .returned v ∧ Q_isB Z a1 cs h0 n0 v U'.heap L ∧ FrameEnd U o U' L ({ frames := 6, cells := 0, slots := 0, locals := 86 } : Room).cells ({ frames := 6, cells := 0, slots := 0, locals := 86 } : Room).slots) := by
  refine MetFree.of_bodySF (plainFor_of_name pn_2) hisR ?_
  intro p e s m args below meth c s₁ Bd hml0 hP hK
  obtain ⟨rfl, hZ, hh⟩ := hP
  have hx := Bd.exec
  have hby := Bd.bytes
  have hml : c.maxLocals = 1 := hml0
  have hown : s.vm.findClass "com/example/tariff/tariff/core/decimal/PlainDecimal" = some m.cls := findClass_of_methodNamed Bd.named
  have hnm := (name_of_methodNamed Bd.named Bd.method).1
  have X0 : Stand p l e ({ frames := 6, cells := 0, slots := 0, locals := 86 } : Room) s m #[(.ref a1)] below meth c s₁ [] 0 0 := Stand.of_body Bd
  have e0 : s₁.heap = h0 := by rw [← hh, Bd.state]; rfl
  have N0 := Fr.nil n0
  have K0 : Keep h0 h0 [] := Keep.refl _ _
  suffices hG : Goes p e below (fun o U' => ∃ v L, o = .returned v ∧ Q_isB Z a1 cs h0 n0 v U'.heap L ∧ FrameEnd s o U' L ({ frames := 6, cells := 0, slots := 0, locals := 86 } : Room).cells ({ frames := 6, cells := 0, slots := 0, locals := 86 } : Room).slots) s₁ (mkF m 0 #[.val (.ref a1)] []) by
    obtain ⟨t, o, h1, h2⟩ := hG; exact ⟨t, o, castTop (ef_isB m a1) h1, h2⟩
  refine Goes.step (T' := s₁) (g' := (mkF m 1 #[.val (.ref a1)] [(.ref a1)])) (fun _ kz => XS.aloadN X0.here hx rfl (hb hby d_prog_15_method_5_0) rfl rfl kz) ?_
  obtain ⟨_, _, ⟨T28, L28, k28, n28⟩, -, X28, ⟨Lc28, hQ28, l28, y28, z28⟩, st28⟩ := Jvm.LawKit.callS X0 hx (y := (⟨"com/example/tariff/tariff/core/decimal/PlainDecimal", "integerDigits", "(Ljava/lang/String;)I"⟩ : MethodName)) hown (mvT hZ (hw _ (List.mem_of_getElem? (i := 45) rfl))) (mvT hZ (hw _ (List.mem_of_getElem? (i := 46) rfl))) (mvT hZ (hw _ (List.mem_of_getElem? (i := 43) rfl))) (mvT hZ (hw _ (List.mem_of_getElem? (i := 47) rfl))) (by decide) (backOf (W := 0) (rm_intD l Z a0 hw [] a1 (cs) h0 n0 O0 zcs Scs hz_Scs fmt Sfm hz_Sfm E_a1 G_a1 (by first | assumption | decide)) hZ (hw _ (List.mem_of_getElem? (i := 47) rfl)) (hw _ (List.mem_of_getElem? (i := 43) rfl)) (by decide) (by decide)) (g := (mkF m 1 #[.val (.ref a1)] [(.ref a1)])) rfl (by rw [hml]; rfl) (argsL := [(.ref a1)]) (rest := []) (lenOf pd_6 rfl) rfl (by show 2 * 0 + _ ≤ _; exact Nat.le_of_eq rfl) (hb hby d_prog_15_method_5_1) (fun _ _ => ⟨rfl, e0, (by decide : 0 + 0 ≤ _), (by decide : 0 + 0 ≤ _)⟩)
  dsimp only [Pt.U, Pt.locs, Pt.cells, Pt.slots] at X28 l28 y28 z28 st28 hQ28
  subst l28 y28 z28
  obtain ⟨rfl, rfl, e28⟩ := hQ28
  replace N0 := Fr.app N0 (Fr.nil n0)
  refine Goes.step (T' := T28) (g' := (mkF m 4 #[.val (.ref a1)] [(.int (Int32.ofNat (IX cs) - Int32.ofNat (LZ cs)))])) st28 ?_
  refine Goes.step (T' := T28) (g' := (mkF m 6 #[.val (.ref a1)] [(.int (20 : Int32)), (.int (Int32.ofNat (IX cs) - Int32.ofNat (LZ cs)))])) (fun _ kz => XS.bipush X28.here hx rfl (hb hby d_prog_15_method_5_4) kz) ?_
  by_cases hc6_29 : (20 : Int32) < (Int32.ofNat (IX cs) - Int32.ofNat (LZ cs))
  ·
    refine Goes.step (T' := T28) (g' := (mkF m 22 #[.val (.ref a1)] [])) (fun _ kz => XS.icmpYes X28.here hx rfl (pc0 := 6) (pc' := 22) rfl (hb hby d_prog_15_method_5_6) rfl (tlt hc6_29).2.2.1 (by decide) (by decide) kz) ?_
    refine Goes.step (T' := T28) (g' := (mkF m 23 #[.val (.ref a1)] [(.int (0 : Int32))])) (fun _ kz => XS.iconst X28.here hx rfl (hb hby d_prog_15_method_5_22) kz) ?_
    obtain ⟨fs, hr, hrun, hended, hW, hsame⟩ := X28.leave (v := some (.int (nar .boolean (0 : Int32)))) (fun h => by rw [Bd.returns] at h; cases h)
    exact ⟨_, _, retN X28 hx (t := .boolean) Bd.returns (by simp) (hb hby d_prog_15_method_5_23) hr, hrun, hended, _, _, rfl, (by show Q_isB Z a1 cs h0 n0 _ T28.heap _; rw [e28]; exact ⟨(by rw [if_pos hc6_29]; rfl), rfl, rfl⟩), ⟨_, rfl⟩, hW, hsame.mono (by decide) (by decide)⟩
  ·
    refine Goes.step (T' := T28) (g' := (mkF m 9 #[.val (.ref a1)] [])) (fun _ kz => XS.icmpNo X28.here hx rfl (hb hby d_prog_15_method_5_6) rfl (flt hc6_29).2.2.1 kz) ?_
    refine Goes.step (T' := T28) (g' := (mkF m 10 #[.val (.ref a1)] [(.ref a1)])) (fun _ kz => XS.aloadN X28.here hx rfl (hb hby d_prog_15_method_5_9) rfl rfl kz) ?_
    obtain ⟨_, _, ⟨T30, L30, k30, n30⟩, -, X30, ⟨Lc30, hQ30, l30, y30, z30⟩, st30⟩ := Jvm.LawKit.callS X28 hx (y := (⟨"com/example/tariff/tariff/core/decimal/PlainDecimal", "fractionDigits", "(Ljava/lang/String;)I"⟩ : MethodName)) hown (mvT hZ (hw _ (List.mem_of_getElem? (i := 110) rfl))) (mvT hZ (hw _ (List.mem_of_getElem? (i := 111) rfl))) (mvT hZ (hw _ (List.mem_of_getElem? (i := 43) rfl))) (mvT hZ (hw _ (List.mem_of_getElem? (i := 112) rfl))) (by decide) (backOf (W := 0) (rm_fracD l Z a0 hw [] a1 (cs) h0 n0 O0 zcs Scs hz_Scs E_a1 G_a1 (by first | assumption | decide)) hZ (hw _ (List.mem_of_getElem? (i := 112) rfl)) (hw _ (List.mem_of_getElem? (i := 43) rfl)) (by decide) (by decide)) (g := (mkF m 10 #[.val (.ref a1)] [(.ref a1)])) rfl (by rw [hml]; rfl) (argsL := [(.ref a1)]) (rest := []) (lenOf pd_6 rfl) rfl (by show 2 * 0 + _ ≤ _; exact Nat.le_of_eq rfl) (hb hby d_prog_15_method_5_10) (fun _ _ => ⟨rfl, e28, (by decide : 0 + 0 ≤ _), (by decide : 0 + 0 ≤ _)⟩)
    dsimp only [Pt.U, Pt.locs, Pt.cells, Pt.slots] at X30 l30 y30 z30 st30 hQ30
    subst l30 y30 z30
    obtain ⟨rfl, rfl, e30⟩ := hQ30
    replace N0 := Fr.app N0 (Fr.nil n0)
    refine Goes.step (T' := T30) (g' := (mkF m 13 #[.val (.ref a1)] [(.int (if IX cs = cs.length then 0 else Int32.ofNat cs.length - Int32.ofNat (IX cs) - 1))])) st30 ?_
    refine Goes.step (T' := T30) (g' := (mkF m 15 #[.val (.ref a1)] [(.int (20 : Int32)), (.int (if IX cs = cs.length then 0 else Int32.ofNat cs.length - Int32.ofNat (IX cs) - 1))])) (fun _ kz => XS.bipush X30.here hx rfl (hb hby d_prog_15_method_5_13) kz) ?_
    by_cases hc15_31 : (20 : Int32) < (if IX cs = cs.length then 0 else Int32.ofNat cs.length - Int32.ofNat (IX cs) - 1)
    ·
      refine Goes.step (T' := T30) (g' := (mkF m 22 #[.val (.ref a1)] [])) (fun _ kz => XS.icmpYes X30.here hx rfl (pc0 := 15) (pc' := 22) rfl (hb hby d_prog_15_method_5_15) rfl (tlt hc15_31).2.2.1 (by decide) (by decide) kz) ?_
      refine Goes.step (T' := T30) (g' := (mkF m 23 #[.val (.ref a1)] [(.int (0 : Int32))])) (fun _ kz => XS.iconst X30.here hx rfl (hb hby d_prog_15_method_5_22) kz) ?_
      obtain ⟨fs, hr, hrun, hended, hW, hsame⟩ := X30.leave (v := some (.int (nar .boolean (0 : Int32)))) (fun h => by rw [Bd.returns] at h; cases h)
      exact ⟨_, _, retN X30 hx (t := .boolean) Bd.returns (by simp) (hb hby d_prog_15_method_5_23) hr, hrun, hended, _, _, rfl, (by show Q_isB Z a1 cs h0 n0 _ T30.heap _; rw [e30]; exact ⟨(by rw [if_neg hc6_29, if_pos hc15_31]; rfl), rfl, rfl⟩), ⟨_, rfl⟩, hW, hsame.mono (by decide) (by decide)⟩
    ·
      refine Goes.step (T' := T30) (g' := (mkF m 18 #[.val (.ref a1)] [])) (fun _ kz => XS.icmpNo X30.here hx rfl (hb hby d_prog_15_method_5_15) rfl (flt hc15_31).2.2.1 kz) ?_
      refine Goes.step (T' := T30) (g' := (mkF m 19 #[.val (.ref a1)] [(.int (1 : Int32))])) (fun _ kz => XS.iconst X30.here hx rfl (hb hby d_prog_15_method_5_18) kz) ?_
      refine Goes.step (T' := T30) (g' := (mkF m 23 #[.val (.ref a1)] [(.int (1 : Int32))])) (fun _ kz => XS.goto X30.here hx rfl (pc0 := 19) (pc' := 23) rfl (hb hby d_prog_15_method_5_19) (by decide) (by decide) kz) ?_
      obtain ⟨fs, hr, hrun, hended, hW, hsame⟩ := X30.leave (v := some (.int (nar .boolean (1 : Int32)))) (fun h => by rw [Bd.returns] at h; cases h)
      exact ⟨_, _, retN X30 hx (t := .boolean) Bd.returns (by simp) (hb hby d_prog_15_method_5_23) hr, hrun, hended, _, _, rfl, (by show Q_isB Z a1 cs h0 n0 _ T30.heap _; rw [e30]; exact ⟨(by rw [if_neg hc6_29, if_neg hc15_31]; rfl), rfl, rfl⟩), ⟨_, rfl⟩, hW, hsame.mono (by decide) (by decide)⟩
theorem d_method_3_0 : decode method_3_code 0 = .ok (.iload_n 0, 1) := by decide +kernel
theorem d_method_3_1 : decode method_3_code 1 = .ok (.iload_n 1, 1) := by decide +kernel
theorem d_method_3_2 : decode method_3_code 2 = .ok (.if_icmp .ge 6, 3) := by decide +kernel
theorem d_method_3_5 : decode method_3_code 5 = .ok (.bipush 48, 2) := by decide +kernel
theorem d_method_3_7 : decode method_3_code 7 = .ok (.ireturn, 1) := by decide +kernel
theorem d_method_3_8 : decode method_3_code 8 = .ok (.iload_n 0, 1) := by decide +kernel
theorem d_method_3_9 : decode method_3_code 9 = .ok (.iload_n 2, 1) := by decide +kernel
theorem d_method_3_10 : decode method_3_code 10 = .ok (.if_icmp .ne 6, 3) := by decide +kernel
theorem d_method_3_13 : decode method_3_code 13 = .ok (.bipush 46, 2) := by decide +kernel
theorem d_method_3_15 : decode method_3_code 15 = .ok (.ireturn, 1) := by decide +kernel
theorem d_method_3_16 : decode method_3_code 16 = .ok (.iload_n 0, 1) := by decide +kernel
theorem d_method_3_17 : decode method_3_code 17 = .ok (.iload_n 1, 1) := by decide +kernel
theorem d_method_3_18 : decode method_3_code 18 = .ok (.if_icmp .ne 5, 3) := by decide +kernel
theorem d_method_3_21 : decode method_3_code 21 = .ok (.iload_n 3, 1) := by decide +kernel
theorem d_method_3_22 : decode method_3_code 22 = .ok (.ireturn, 1) := by decide +kernel
theorem d_method_3_23 : decode method_3_code 23 = .ok (.bipush 48, 2) := by decide +kernel
theorem d_method_3_25 : decode method_3_code 25 = .ok (.iload 4, 2) := by decide +kernel
theorem d_method_3_27 : decode method_3_code 27 = .ok (.iload_n 0, 1) := by decide +kernel
theorem d_method_3_28 : decode method_3_code 28 = .ok (.iconst 5, 1) := by decide +kernel
theorem d_method_3_29 : decode method_3_code 29 = .ok (.imul, 1) := by decide +kernel
theorem d_method_3_30 : decode method_3_code 30 = .ok (.bipush 31, 2) := by decide +kernel
theorem d_method_3_32 : decode method_3_code 32 = .ok (.iand, 1) := by decide +kernel
theorem d_method_3_33 : decode method_3_code 33 = .ok (.iushr, 1) := by decide +kernel
theorem d_method_3_34 : decode method_3_code 34 = .ok (.bipush 15, 2) := by decide +kernel
theorem d_method_3_36 : decode method_3_code 36 = .ok (.iand, 1) := by decide +kernel
theorem d_method_3_37 : decode method_3_code 37 = .ok (.bipush 10, 2) := by decide +kernel
theorem d_method_3_39 : decode method_3_code 39 = .ok (.irem, 1) := by decide +kernel
theorem d_method_3_40 : decode method_3_code 40 = .ok (.iadd, 1) := by decide +kernel
theorem d_method_3_41 : decode method_3_code 41 = .ok (.i2c, 1) := by decide +kernel
theorem d_method_3_42 : decode method_3_code 42 = .ok (.ireturn, 1) := by decide +kernel
theorem pn_3 : plainName "com/example/tariff/tariff/core/decimal/PlainDecimalIsBoundedPinLaw" = true := by first | (simp [plainName, overriddenIn]; done) | decide +kernel
theorem ef_at (m : MethodId) (p1 : Int32) (p2 : Int32) (p3 : Int32) (p4 : Int32) (p5 : Int32) : entryFrame m #[(.int p1), (.int p2), (.int p3), (.int p4), (.int p5)] 5 = mkF m 0 #[.val (.int p1), .val (.int p2), .val (.int p3), .val (.int p4), .val (.int p5)] [] := by first | (simp [entryFrame, mkF, argsToLocals, Value.category, maxLocals]; done) | rfl
def Q_at (Z : State) (p1 : Int32) (p2 : Int32) (p3 : Int32) (p4 : Int32) (p5 : Int32) (h0 : Heap) (n0 : Nat) (v : Option Value) (h : Heap) (L : List Loc) : Prop := (v = some (.int (AT p1 p2 p3 p4 p5))) ∧ (L = []) ∧ (h = h0)
set_option maxRecDepth 65536 in
set_option maxHeartbeats 40000000 in
theorem rm_at (l : Launch) (Z : State) (a0 : Array Value) (hw : ∀ d ∈ tables_1, d.before a0 Z = true) (ws : List Jvm.Cond) (p1 : Int32) (p2 : Int32) (p3 : Int32) (p4 : Int32) (p5 : Int32) (h0 : Heap) (n0 : Nat) (O0 : Old Z n0 h0)   :
    MetFree l (⟨"com/example/tariff/tariff/core/decimal/PlainDecimalIsBoundedPinLaw", "at", "(IIICI)C"⟩ : MethodName) (head1 ((Jvm.Cond.code (⟨"com/example/tariff/tariff/core/decimal/PlainDecimalIsBoundedPinLaw", "at", "(IIICI)C"⟩ : MethodName) method_3_code 5 (some .char)) :: ws) ({ frames := 0, cells := 0, slots := 0, locals := 0 } : Room)) (fun a U => a = #[(.int p1), (.int p2), (.int p3), (.int p4), (.int p5)] ∧ Z.Warmed39 U.vm ∧ U.heap = h0) (fun _ _ _ _ _ => True) (fun _ U o U' => ∃ v L, o = .returned v ∧ Q_at Z p1 p2 p3 p4 p5 h0 n0 v U'.heap L ∧ FrameEnd U o U' L ({ frames := 0, cells := 0, slots := 0, locals := 0 } : Room).cells ({ frames := 0, cells := 0, slots := 0, locals := 0 } : Room).slots) := by
  refine MetFree.of_bodySF (plainFor_of_name pn_3) hisR ?_
  intro p e s m args below meth c s₁ Bd hml0 hP hK
  obtain ⟨rfl, hZ, hh⟩ := hP
  have hx := Bd.exec
  have hby := Bd.bytes
  have hml : c.maxLocals = 5 := hml0
  have hown : s.vm.findClass "com/example/tariff/tariff/core/decimal/PlainDecimalIsBoundedPinLaw" = some m.cls := findClass_of_methodNamed Bd.named
  have hnm := (name_of_methodNamed Bd.named Bd.method).1
  have X0 : Stand p l e ({ frames := 0, cells := 0, slots := 0, locals := 0 } : Room) s m #[(.int p1), (.int p2), (.int p3), (.int p4), (.int p5)] below meth c s₁ [] 0 0 := Stand.of_body Bd
  have e0 : s₁.heap = h0 := by rw [← hh, Bd.state]; rfl
  have N0 := Fr.nil n0
  have K0 : Keep h0 h0 [] := Keep.refl _ _
  suffices hG : Goes p e below (fun o U' => ∃ v L, o = .returned v ∧ Q_at Z p1 p2 p3 p4 p5 h0 n0 v U'.heap L ∧ FrameEnd s o U' L ({ frames := 0, cells := 0, slots := 0, locals := 0 } : Room).cells ({ frames := 0, cells := 0, slots := 0, locals := 0 } : Room).slots) s₁ (mkF m 0 #[.val (.int p1), .val (.int p2), .val (.int p3), .val (.int p4), .val (.int p5)] []) by
    obtain ⟨t, o, h1, h2⟩ := hG; exact ⟨t, o, castTop (ef_at m p1 p2 p3 p4 p5) h1, h2⟩
  refine Goes.step (T' := s₁) (g' := (mkF m 1 #[.val (.int p1), .val (.int p2), .val (.int p3), .val (.int p4), .val (.int p5)] [(.int p1)])) (fun _ kz => XS.iloadN X0.here hx rfl (hb hby d_method_3_0) rfl  kz) ?_
  refine Goes.step (T' := s₁) (g' := (mkF m 2 #[.val (.int p1), .val (.int p2), .val (.int p3), .val (.int p4), .val (.int p5)] [(.int p2), (.int p1)])) (fun _ kz => XS.iloadN X0.here hx rfl (hb hby d_method_3_1) rfl  kz) ?_
  by_cases hc2_32 : p1 < p2
  ·
    refine Goes.step (T' := s₁) (g' := (mkF m 5 #[.val (.int p1), .val (.int p2), .val (.int p3), .val (.int p4), .val (.int p5)] [])) (fun _ kz => XS.icmpNo X0.here hx rfl (hb hby d_method_3_2) rfl (tlt hc2_32).2.1 kz) ?_
    refine Goes.step (T' := s₁) (g' := (mkF m 7 #[.val (.int p1), .val (.int p2), .val (.int p3), .val (.int p4), .val (.int p5)] [(.int (48 : Int32))])) (fun _ kz => XS.bipush X0.here hx rfl (hb hby d_method_3_5) kz) ?_
    obtain ⟨fs, hr, hrun, hended, hW, hsame⟩ := X0.leave (v := some (.int (nar .char (48 : Int32)))) (fun h => by rw [Bd.returns] at h; cases h)
    exact ⟨_, _, retN X0 hx (t := .char) Bd.returns (by simp) (hb hby d_method_3_7) hr, hrun, hended, _, _, rfl, (by show Q_at Z p1 p2 p3 p4 p5 h0 n0 _ s₁.heap _; rw [e0]; exact ⟨(by rw [AT, if_pos hc2_32] <;> rfl), rfl, rfl⟩), ⟨_, rfl⟩, hW, hsame.mono (by decide) (by decide)⟩
  ·
    refine Goes.step (T' := s₁) (g' := (mkF m 8 #[.val (.int p1), .val (.int p2), .val (.int p3), .val (.int p4), .val (.int p5)] [])) (fun _ kz => XS.icmpYes X0.here hx rfl (pc0 := 2) (pc' := 8) rfl (hb hby d_method_3_2) rfl (flt hc2_32).2.1 (by decide) (by decide) kz) ?_
    refine Goes.step (T' := s₁) (g' := (mkF m 9 #[.val (.int p1), .val (.int p2), .val (.int p3), .val (.int p4), .val (.int p5)] [(.int p1)])) (fun _ kz => XS.iloadN X0.here hx rfl (hb hby d_method_3_8) rfl  kz) ?_
    refine Goes.step (T' := s₁) (g' := (mkF m 10 #[.val (.int p1), .val (.int p2), .val (.int p3), .val (.int p4), .val (.int p5)] [(.int p3), (.int p1)])) (fun _ kz => XS.iloadN X0.here hx rfl (hb hby d_method_3_9) rfl  kz) ?_
    by_cases hc10_33 : p1 = p3
    ·
      refine Goes.step (T' := s₁) (g' := (mkF m 13 #[.val (.int p1), .val (.int p2), .val (.int p3), .val (.int p4), .val (.int p5)] [])) (fun _ kz => XS.icmpNo X0.here hx rfl (hb hby d_method_3_10) rfl (teq hc10_33).2 kz) ?_
      refine Goes.step (T' := s₁) (g' := (mkF m 15 #[.val (.int p1), .val (.int p2), .val (.int p3), .val (.int p4), .val (.int p5)] [(.int (46 : Int32))])) (fun _ kz => XS.bipush X0.here hx rfl (hb hby d_method_3_13) kz) ?_
      obtain ⟨fs, hr, hrun, hended, hW, hsame⟩ := X0.leave (v := some (.int (nar .char (46 : Int32)))) (fun h => by rw [Bd.returns] at h; cases h)
      exact ⟨_, _, retN X0 hx (t := .char) Bd.returns (by simp) (hb hby d_method_3_15) hr, hrun, hended, _, _, rfl, (by show Q_at Z p1 p2 p3 p4 p5 h0 n0 _ s₁.heap _; rw [e0]; exact ⟨(by rw [AT, if_neg hc2_32, if_pos hc10_33] <;> rfl), rfl, rfl⟩), ⟨_, rfl⟩, hW, hsame.mono (by decide) (by decide)⟩
    ·
      refine Goes.step (T' := s₁) (g' := (mkF m 16 #[.val (.int p1), .val (.int p2), .val (.int p3), .val (.int p4), .val (.int p5)] [])) (fun _ kz => XS.icmpYes X0.here hx rfl (pc0 := 10) (pc' := 16) rfl (hb hby d_method_3_10) rfl (feq hc10_33).2 (by decide) (by decide) kz) ?_
      refine Goes.step (T' := s₁) (g' := (mkF m 17 #[.val (.int p1), .val (.int p2), .val (.int p3), .val (.int p4), .val (.int p5)] [(.int p1)])) (fun _ kz => XS.iloadN X0.here hx rfl (hb hby d_method_3_16) rfl  kz) ?_
      refine Goes.step (T' := s₁) (g' := (mkF m 18 #[.val (.int p1), .val (.int p2), .val (.int p3), .val (.int p4), .val (.int p5)] [(.int p2), (.int p1)])) (fun _ kz => XS.iloadN X0.here hx rfl (hb hby d_method_3_17) rfl  kz) ?_
      by_cases hc18_34 : p1 = p2
      ·
        refine Goes.step (T' := s₁) (g' := (mkF m 21 #[.val (.int p1), .val (.int p2), .val (.int p3), .val (.int p4), .val (.int p5)] [])) (fun _ kz => XS.icmpNo X0.here hx rfl (hb hby d_method_3_18) rfl (teq hc18_34).2 kz) ?_
        refine Goes.step (T' := s₁) (g' := (mkF m 22 #[.val (.int p1), .val (.int p2), .val (.int p3), .val (.int p4), .val (.int p5)] [(.int p4)])) (fun _ kz => XS.iloadN X0.here hx rfl (hb hby d_method_3_21) rfl  kz) ?_
        obtain ⟨fs, hr, hrun, hended, hW, hsame⟩ := X0.leave (v := some (.int (nar .char p4))) (fun h => by rw [Bd.returns] at h; cases h)
        exact ⟨_, _, retN X0 hx (t := .char) Bd.returns (by simp) (hb hby d_method_3_22) hr, hrun, hended, _, _, rfl, (by show Q_at Z p1 p2 p3 p4 p5 h0 n0 _ s₁.heap _; rw [e0]; exact ⟨(by rw [AT, if_neg hc2_32, if_neg hc10_33, if_pos hc18_34] <;> rfl), rfl, rfl⟩), ⟨_, rfl⟩, hW, hsame.mono (by decide) (by decide)⟩
      ·
        refine Goes.step (T' := s₁) (g' := (mkF m 23 #[.val (.int p1), .val (.int p2), .val (.int p3), .val (.int p4), .val (.int p5)] [])) (fun _ kz => XS.icmpYes X0.here hx rfl (pc0 := 18) (pc' := 23) rfl (hb hby d_method_3_18) rfl (feq hc18_34).2 (by decide) (by decide) kz) ?_
        refine Goes.step (T' := s₁) (g' := (mkF m 25 #[.val (.int p1), .val (.int p2), .val (.int p3), .val (.int p4), .val (.int p5)] [(.int (48 : Int32))])) (fun _ kz => XS.bipush X0.here hx rfl (hb hby d_method_3_23) kz) ?_
        refine Goes.step (T' := s₁) (g' := (mkF m 27 #[.val (.int p1), .val (.int p2), .val (.int p3), .val (.int p4), .val (.int p5)] [(.int p5), (.int (48 : Int32))])) (fun _ kz => XS.iload X0.here hx rfl (hb hby d_method_3_25) rfl  kz) ?_
        refine Goes.step (T' := s₁) (g' := (mkF m 28 #[.val (.int p1), .val (.int p2), .val (.int p3), .val (.int p4), .val (.int p5)] [(.int p1), (.int p5), (.int (48 : Int32))])) (fun _ kz => XS.iloadN X0.here hx rfl (hb hby d_method_3_27) rfl  kz) ?_
        refine Goes.step (T' := s₁) (g' := (mkF m 29 #[.val (.int p1), .val (.int p2), .val (.int p3), .val (.int p4), .val (.int p5)] [(.int (5 : Int32)), (.int p1), (.int p5), (.int (48 : Int32))])) (fun _ kz => XS.iconst X0.here hx rfl (hb hby d_method_3_28) kz) ?_
        refine Goes.step (T' := s₁) (g' := (mkF m 30 #[.val (.int p1), .val (.int p2), .val (.int p3), .val (.int p4), .val (.int p5)] [(.int (p1 * (5 : Int32))), (.int p5), (.int (48 : Int32))])) (fun _ kz => XS.imul X0.here hx rfl (hb hby d_method_3_29) rfl kz) ?_
        refine Goes.step (T' := s₁) (g' := (mkF m 32 #[.val (.int p1), .val (.int p2), .val (.int p3), .val (.int p4), .val (.int p5)] [(.int (31 : Int32)), (.int (p1 * (5 : Int32))), (.int p5), (.int (48 : Int32))])) (fun _ kz => XS.bipush X0.here hx rfl (hb hby d_method_3_30) kz) ?_
        refine Goes.step (T' := s₁) (g' := (mkF m 33 #[.val (.int p1), .val (.int p2), .val (.int p3), .val (.int p4), .val (.int p5)] [(.int ((p1 * (5 : Int32)) &&& (31 : Int32))), (.int p5), (.int (48 : Int32))])) (fun _ kz => XS.iand X0.here hx rfl (hb hby d_method_3_32) rfl kz) ?_
        refine Goes.step (T' := s₁) (g' := (mkF m 34 #[.val (.int p1), .val (.int p2), .val (.int p3), .val (.int p4), .val (.int p5)] [(.int ((p5.toUInt32 >>> (((p1 * (5 : Int32)) &&& (31 : Int32)) &&& 31).toUInt32).toInt32)), (.int (48 : Int32))])) (fun _ kz => XS.iushr X0.here hx rfl (hb hby d_method_3_33) rfl kz) ?_
        refine Goes.step (T' := s₁) (g' := (mkF m 36 #[.val (.int p1), .val (.int p2), .val (.int p3), .val (.int p4), .val (.int p5)] [(.int (15 : Int32)), (.int ((p5.toUInt32 >>> (((p1 * (5 : Int32)) &&& (31 : Int32)) &&& 31).toUInt32).toInt32)), (.int (48 : Int32))])) (fun _ kz => XS.bipush X0.here hx rfl (hb hby d_method_3_34) kz) ?_
        refine Goes.step (T' := s₁) (g' := (mkF m 37 #[.val (.int p1), .val (.int p2), .val (.int p3), .val (.int p4), .val (.int p5)] [(.int (((p5.toUInt32 >>> (((p1 * (5 : Int32)) &&& (31 : Int32)) &&& 31).toUInt32).toInt32) &&& (15 : Int32))), (.int (48 : Int32))])) (fun _ kz => XS.iand X0.here hx rfl (hb hby d_method_3_36) rfl kz) ?_
        refine Goes.step (T' := s₁) (g' := (mkF m 39 #[.val (.int p1), .val (.int p2), .val (.int p3), .val (.int p4), .val (.int p5)] [(.int (10 : Int32)), (.int (((p5.toUInt32 >>> (((p1 * (5 : Int32)) &&& (31 : Int32)) &&& 31).toUInt32).toInt32) &&& (15 : Int32))), (.int (48 : Int32))])) (fun _ kz => XS.bipush X0.here hx rfl (hb hby d_method_3_37) kz) ?_
        refine Goes.step (T' := s₁) (g' := (mkF m 40 #[.val (.int p1), .val (.int p2), .val (.int p3), .val (.int p4), .val (.int p5)] [(.int ((((p5.toUInt32 >>> (((p1 * (5 : Int32)) &&& (31 : Int32)) &&& 31).toUInt32).toInt32) &&& (15 : Int32)) % (10 : Int32))), (.int (48 : Int32))])) (fun _ kz => iremM X0 hx rfl (hb hby d_method_3_39) rfl (by decide) kz) ?_
        refine Goes.step (T' := s₁) (g' := (mkF m 41 #[.val (.int p1), .val (.int p2), .val (.int p3), .val (.int p4), .val (.int p5)] [(.int ((48 : Int32) + ((((p5.toUInt32 >>> (((p1 * (5 : Int32)) &&& (31 : Int32)) &&& 31).toUInt32).toInt32) &&& (15 : Int32)) % (10 : Int32))))])) (fun _ kz => XS.iadd X0.here hx rfl (hb hby d_method_3_40) rfl kz) ?_
        refine Goes.step (T' := s₁) (g' := (mkF m 42 #[.val (.int p1), .val (.int p2), .val (.int p3), .val (.int p4), .val (.int p5)] [(.int (((48 : Int32) + ((((p5.toUInt32 >>> (((p1 * (5 : Int32)) &&& (31 : Int32)) &&& 31).toUInt32).toInt32) &&& (15 : Int32)) % (10 : Int32))).toUInt32.toUInt16.toUInt32.toInt32))])) (fun _ kz => XS.i2c X0.here hx rfl (hb hby d_method_3_41) rfl kz) ?_
        obtain ⟨fs, hr, hrun, hended, hW, hsame⟩ := X0.leave (v := some (.int (nar .char (((48 : Int32) + ((((p5.toUInt32 >>> (((p1 * (5 : Int32)) &&& (31 : Int32)) &&& 31).toUInt32).toInt32) &&& (15 : Int32)) % (10 : Int32))).toUInt32.toUInt16.toUInt32.toInt32)))) (fun h => by rw [Bd.returns] at h; cases h)
        exact ⟨_, _, retN X0 hx (t := .char) Bd.returns (by simp) (hb hby d_method_3_42) hr, hrun, hended, _, _, rfl, (by show Q_at Z p1 p2 p3 p4 p5 h0 n0 _ s₁.heap _; rw [e0]; exact ⟨(by rw [AT, if_neg hc2_32, if_neg hc10_33, if_neg hc18_34] <;> rfl), rfl, rfl⟩), ⟨_, rfl⟩, hW, hsame.mono (by decide) (by decide)⟩
theorem d_method_4_0 : decode method_4_code 0 = .ok (.iload_n 1, 1) := by decide +kernel
theorem d_method_4_1 : decode method_4_code 1 = .ok (.aload_n 0, 1) := by decide +kernel
theorem d_method_4_2 : decode method_4_code 2 = .ok (.arraylength, 1) := by decide +kernel
theorem d_method_4_3 : decode method_4_code 3 = .ok (.if_icmp .ge 16, 3) := by decide +kernel
theorem d_method_4_6 : decode method_4_code 6 = .ok (.aload_n 0, 1) := by decide +kernel
theorem d_method_4_7 : decode method_4_code 7 = .ok (.iload_n 1, 1) := by decide +kernel
theorem d_method_4_8 : decode method_4_code 8 = .ok (.iload_n 1, 1) := by decide +kernel
theorem d_method_4_9 : decode method_4_code 9 = .ok (.iload_n 2, 1) := by decide +kernel
theorem d_method_4_10 : decode method_4_code 10 = .ok (.iload_n 3, 1) := by decide +kernel
theorem d_method_4_11 : decode method_4_code 11 = .ok (.iload 4, 2) := by decide +kernel
theorem d_method_4_13 : decode method_4_code 13 = .ok (.iload 5, 2) := by decide +kernel
theorem d_method_4_15 : decode method_4_code 15 = .ok (.invokestatic 25, 3) := by decide +kernel
theorem pd_8 : parseMethodDescriptor "(IIICI)C" = some ⟨[.int, .int, .int, .char, .int], some .char⟩ := by decide +kernel
theorem d_method_4_18 : decode method_4_code 18 = .ok (.castore, 1) := by decide +kernel
theorem d_method_4_19 : decode method_4_code 19 = .ok (.return_, 1) := by decide +kernel
theorem ef_put (m : MethodId) (a1 : Addr) (p2 : Int32) (p3 : Int32) (p4 : Int32) (p5 : Int32) (p6 : Int32) : entryFrame m #[(.ref a1), (.int p2), (.int p3), (.int p4), (.int p5), (.int p6)] 6 = mkF m 0 #[.val (.ref a1), .val (.int p2), .val (.int p3), .val (.int p4), .val (.int p5), .val (.int p6)] [] := by first | (simp [entryFrame, mkF, argsToLocals, Value.category, maxLocals]; done) | rfl
def Q_put (Z : State) (a1 : Addr) (p2 : Int32) (p3 : Int32) (p4 : Int32) (p5 : Int32) (p6 : Int32) (kc : ClassId) (N : Int32) (vs : List Value) (dv : Value) (h0 : Heap) (n0 : Nat) (v : Option Value) (h : Heap) (L : List Loc) : Prop := (v = none) ∧ (Fr n0 L) ∧ (Keep h0 h [a1]) ∧ (Arv Z h a1 kc .char N (vs.set p2.toNatClampNeg (.int (nar .char (AT p2 p3 p4 p5 p6)))) dv)
set_option maxRecDepth 65536 in
set_option maxHeartbeats 40000000 in
theorem rm_put (l : Launch) (Z : State) (a0 : Array Value) (hw : ∀ d ∈ tables_1, d.before a0 Z = true) (ws : List Jvm.Cond) (a1 : Addr) (p2 : Int32) (p3 : Int32) (p4 : Int32) (p5 : Int32) (p6 : Int32) (kc : ClassId) (N : Int32) (vs : List Value) (dv : Value) (h0 : Heap) (n0 : Nat) (O0 : Old Z n0 h0)  (V_a1 : Arv Z h0 a1 kc .char N vs dv) (g_a1 : n0 ≤ a1) (hp2 : ¬ p2 < 0) (hlen : p2.toNatClampNeg < vs.length) :
    MetFree l (⟨"com/example/tariff/tariff/core/decimal/PlainDecimalIsBoundedPinLaw", "put", "([CIIICI)V"⟩ : MethodName) (head1 ((Jvm.Cond.code (⟨"com/example/tariff/tariff/core/decimal/PlainDecimalIsBoundedPinLaw", "put", "([CIIICI)V"⟩ : MethodName) method_4_code 6 none) :: ws) ({ frames := 1, cells := 0, slots := 0, locals := 18 } : Room)) (fun a U => a = #[(.ref a1), (.int p2), (.int p3), (.int p4), (.int p5), (.int p6)] ∧ Z.Warmed39 U.vm ∧ U.heap = h0) (fun _ _ _ _ _ => True) (fun _ U o U' => ∃ v L, o = .returned v ∧ Q_put Z a1 p2 p3 p4 p5 p6 kc N vs dv h0 n0 v U'.heap L ∧ FrameEnd U o U' L ({ frames := 1, cells := 0, slots := 0, locals := 18 } : Room).cells ({ frames := 1, cells := 0, slots := 0, locals := 18 } : Room).slots) := by
  refine MetFree.of_bodySF (plainFor_of_name pn_3) hisR ?_
  intro p e s m args below meth c s₁ Bd hml0 hP hK
  obtain ⟨rfl, hZ, hh⟩ := hP
  have hx := Bd.exec
  have hby := Bd.bytes
  have hml : c.maxLocals = 6 := hml0
  have hown : s.vm.findClass "com/example/tariff/tariff/core/decimal/PlainDecimalIsBoundedPinLaw" = some m.cls := findClass_of_methodNamed Bd.named
  have hnm := (name_of_methodNamed Bd.named Bd.method).1
  have X0 : Stand p l e ({ frames := 1, cells := 0, slots := 0, locals := 18 } : Room) s m #[(.ref a1), (.int p2), (.int p3), (.int p4), (.int p5), (.int p6)] below meth c s₁ [] 0 0 := Stand.of_body Bd
  have e0 : s₁.heap = h0 := by rw [← hh, Bd.state]; rfl
  have N0 := Fr.nil n0
  have K0 : Keep h0 h0 [a1] := Keep.refl _ _
  suffices hG : Goes p e below (fun o U' => ∃ v L, o = .returned v ∧ Q_put Z a1 p2 p3 p4 p5 p6 kc N vs dv h0 n0 v U'.heap L ∧ FrameEnd s o U' L ({ frames := 1, cells := 0, slots := 0, locals := 18 } : Room).cells ({ frames := 1, cells := 0, slots := 0, locals := 18 } : Room).slots) s₁ (mkF m 0 #[.val (.ref a1), .val (.int p2), .val (.int p3), .val (.int p4), .val (.int p5), .val (.int p6)] []) by
    obtain ⟨t, o, h1, h2⟩ := hG; exact ⟨t, o, castTop (ef_put m a1 p2 p3 p4 p5 p6) h1, h2⟩
  refine Goes.step (T' := s₁) (g' := (mkF m 1 #[.val (.ref a1), .val (.int p2), .val (.int p3), .val (.int p4), .val (.int p5), .val (.int p6)] [(.int p2)])) (fun _ kz => XS.iloadN X0.here hx rfl (hb hby d_method_4_0) rfl  kz) ?_
  refine Goes.step (T' := s₁) (g' := (mkF m 2 #[.val (.ref a1), .val (.int p2), .val (.int p3), .val (.int p4), .val (.int p5), .val (.int p6)] [(.ref a1), (.int p2)])) (fun _ kz => XS.aloadN X0.here hx rfl (hb hby d_method_4_1) rfl rfl kz) ?_
  obtain ⟨cl35, Ar35, q35, Sz35, Nn35, Hs35, Gs35⟩ := (id V_a1 : Arv Z h0 a1 kc .char N vs dv)
  have al35 := X0.arraylength hx (by rw [e0]; exact Ar35.1) (State.isArrayOf_alike hZ.alike Ar35.2.1) (g := (mkF m 2 #[.val (.ref a1), .val (.int p2), .val (.int p3), .val (.int p4), .val (.int p5), .val (.int p6)] [(.ref a1), (.int p2)])) rfl rfl (hb hby d_method_4_2)
  rw [len_of Sz35 Nn35] at al35
  refine Goes.step (T' := s₁) (g' := (mkF m 3 #[.val (.ref a1), .val (.int p2), .val (.int p3), .val (.int p4), .val (.int p5), .val (.int p6)] [(.int N), (.int p2)])) al35 ?_
  by_cases hc3_36 : p2 < N
  ·
    refine Goes.step (T' := s₁) (g' := (mkF m 6 #[.val (.ref a1), .val (.int p2), .val (.int p3), .val (.int p4), .val (.int p5), .val (.int p6)] [])) (fun _ kz => XS.icmpNo X0.here hx rfl (hb hby d_method_4_3) rfl (tlt hc3_36).2.1 kz) ?_
    refine Goes.step (T' := s₁) (g' := (mkF m 7 #[.val (.ref a1), .val (.int p2), .val (.int p3), .val (.int p4), .val (.int p5), .val (.int p6)] [(.ref a1)])) (fun _ kz => XS.aloadN X0.here hx rfl (hb hby d_method_4_6) rfl rfl kz) ?_
    refine Goes.step (T' := s₁) (g' := (mkF m 8 #[.val (.ref a1), .val (.int p2), .val (.int p3), .val (.int p4), .val (.int p5), .val (.int p6)] [(.int p2), (.ref a1)])) (fun _ kz => XS.iloadN X0.here hx rfl (hb hby d_method_4_7) rfl  kz) ?_
    refine Goes.step (T' := s₁) (g' := (mkF m 9 #[.val (.ref a1), .val (.int p2), .val (.int p3), .val (.int p4), .val (.int p5), .val (.int p6)] [(.int p2), (.int p2), (.ref a1)])) (fun _ kz => XS.iloadN X0.here hx rfl (hb hby d_method_4_8) rfl  kz) ?_
    refine Goes.step (T' := s₁) (g' := (mkF m 10 #[.val (.ref a1), .val (.int p2), .val (.int p3), .val (.int p4), .val (.int p5), .val (.int p6)] [(.int p3), (.int p2), (.int p2), (.ref a1)])) (fun _ kz => XS.iloadN X0.here hx rfl (hb hby d_method_4_9) rfl  kz) ?_
    refine Goes.step (T' := s₁) (g' := (mkF m 11 #[.val (.ref a1), .val (.int p2), .val (.int p3), .val (.int p4), .val (.int p5), .val (.int p6)] [(.int p4), (.int p3), (.int p2), (.int p2), (.ref a1)])) (fun _ kz => XS.iloadN X0.here hx rfl (hb hby d_method_4_10) rfl  kz) ?_
    refine Goes.step (T' := s₁) (g' := (mkF m 13 #[.val (.ref a1), .val (.int p2), .val (.int p3), .val (.int p4), .val (.int p5), .val (.int p6)] [(.int p5), (.int p4), (.int p3), (.int p2), (.int p2), (.ref a1)])) (fun _ kz => XS.iload X0.here hx rfl (hb hby d_method_4_11) rfl  kz) ?_
    refine Goes.step (T' := s₁) (g' := (mkF m 15 #[.val (.ref a1), .val (.int p2), .val (.int p3), .val (.int p4), .val (.int p5), .val (.int p6)] [(.int p6), (.int p5), (.int p4), (.int p3), (.int p2), (.int p2), (.ref a1)])) (fun _ kz => XS.iload X0.here hx rfl (hb hby d_method_4_13) rfl  kz) ?_
    obtain ⟨_, _, ⟨T37, L37, k37, n37⟩, -, X37, ⟨Lc37, hQ37, l37, y37, z37⟩, st37⟩ := Jvm.LawKit.callS X0 hx (y := (⟨"com/example/tariff/tariff/core/decimal/PlainDecimalIsBoundedPinLaw", "at", "(IIICI)C"⟩ : MethodName)) hown (mvT hZ (hw _ (List.mem_of_getElem? (i := 9) rfl))) (mvT hZ (hw _ (List.mem_of_getElem? (i := 10) rfl))) (mvT hZ (hw _ (List.mem_of_getElem? (i := 4) rfl))) (mvT hZ (hw _ (List.mem_of_getElem? (i := 11) rfl))) (by decide) (backOf (W := 2) (rm_at l Z a0 hw [] p2 p3 p4 p5 p6 h0 n0 O0  ) hZ (hw _ (List.mem_of_getElem? (i := 11) rfl)) (hw _ (List.mem_of_getElem? (i := 4) rfl)) (by decide) (by decide)) (g := (mkF m 15 #[.val (.ref a1), .val (.int p2), .val (.int p3), .val (.int p4), .val (.int p5), .val (.int p6)] [(.int p6), (.int p5), (.int p4), (.int p3), (.int p2), (.int p2), (.ref a1)])) rfl (by rw [hml]; rfl) (argsL := [(.int p2), (.int p3), (.int p4), (.int p5), (.int p6)]) (rest := [(.int p2), (.ref a1)]) (lenOf pd_8 rfl) rfl (by show 2 * 0 + _ ≤ _; exact Nat.le_of_eq rfl) (hb hby d_method_4_15) (fun _ _ => ⟨rfl, e0, (by decide : 0 + 0 ≤ _), (by decide : 0 + 0 ≤ _)⟩)
    dsimp only [Pt.U, Pt.locs, Pt.cells, Pt.slots] at X37 l37 y37 z37 st37 hQ37
    subst l37 y37 z37
    obtain ⟨rfl, rfl, e37⟩ := hQ37
    replace N0 := Fr.app N0 (Fr.nil n0)
    refine Goes.step (T' := T37) (g' := (mkF m 18 #[.val (.ref a1), .val (.int p2), .val (.int p3), .val (.int p4), .val (.int p5), .val (.int p6)] [(.int (AT p2 p3 p4 p5 p6)), (.int p2), (.ref a1)])) st37 ?_
    obtain ⟨cl38, Ar38, q38, Sz38, Nn38, Hs38, Gs38⟩ := (id V_a1 : Arv Z h0 a1 kc .char N vs dv)
    obtain ⟨T38, h38, X38, e38, W38, st38⟩ := stC X37 hx hZ e37 Ar38 (j := p2) (inb_of Sz38 ⟨hp2, hc3_36⟩) (g := (mkF m 18 #[.val (.ref a1), .val (.int p2), .val (.int p3), .val (.int p4), .val (.int p5), .val (.int p6)] [(.int (AT p2 p3 p4 p5 p6)), (.int p2), (.ref a1)])) rfl rfl (hb hby d_method_4_18)
    replace V_a1 : Arv Z h38 a1 kc .char N (vs.set p2.toNatClampNeg (.int (nar .char (AT p2 p3 p4 p5 p6)))) dv := Arv.set Ar38 q38 Sz38 Nn38 Hs38 Gs38 (fits_nar_char _) W38 p2.toNatClampNeg rfl hlen
    replace N0 := Fr.snoc X38 N0 g_a1
    replace O0 := O0.wr W38 g_a1
    replace K0 := K0.wr W38 (Or.inl (List.mem_of_getElem? (i := 0) rfl))
    refine Goes.step (T' := T38) (g' := (mkF m 19 #[.val (.ref a1), .val (.int p2), .val (.int p3), .val (.int p4), .val (.int p5), .val (.int p6)] [])) st38 ?_
    obtain ⟨fs, hr, hrun, hended, hW, hsame⟩ := X38.leave (v := none) (fun _ => rfl)
    exact ⟨_, _, X38.returnOut hx Bd.returns (hb hby d_method_4_19) hr, hrun, hended, _, _, rfl, (by show Q_put Z a1 p2 p3 p4 p5 p6 kc N vs dv h0 n0 _ T38.heap _; rw [e38]; exact ⟨rfl, N0, K0, V_a1⟩), ⟨_, rfl⟩, hW, hsame.mono (by decide) (by decide)⟩
  ·
    refine Goes.step (T' := s₁) (g' := (mkF m 19 #[.val (.ref a1), .val (.int p2), .val (.int p3), .val (.int p4), .val (.int p5), .val (.int p6)] [])) (fun _ kz => XS.icmpYes X0.here hx rfl (pc0 := 3) (pc' := 19) rfl (hb hby d_method_4_3) rfl (flt hc3_36).2.1 (by decide) (by decide) kz) ?_
    obtain ⟨fs, hr, hrun, hended, hW, hsame⟩ := X0.leave (v := none) (fun _ => rfl)
    exact ⟨_, _, X0.returnOut hx Bd.returns (hb hby d_method_4_19) hr, hrun, hended, _, _, rfl, (by show Q_put Z a1 p2 p3 p4 p5 p6 kc N vs dv h0 n0 _ s₁.heap _; rw [e0]; exact ⟨rfl, N0, K0, own_skip V_a1 _ (own_clampLe hp2 hc3_36) _⟩), ⟨_, rfl⟩, hW, hsame.mono (by decide) (by decide)⟩
theorem d_method_5_0 : decode method_5_code 0 = .ok (.aload_n 0, 1) := by decide +kernel
theorem d_method_5_1 : decode method_5_code 1 = .ok (.iconst 0, 1) := by decide +kernel
theorem d_method_5_2 : decode method_5_code 2 = .ok (.iload_n 1, 1) := by decide +kernel
theorem d_method_5_3 : decode method_5_code 3 = .ok (.iload_n 2, 1) := by decide +kernel
theorem d_method_5_4 : decode method_5_code 4 = .ok (.iload_n 3, 1) := by decide +kernel
theorem d_method_5_5 : decode method_5_code 5 = .ok (.iload 4, 2) := by decide +kernel
theorem d_method_5_7 : decode method_5_code 7 = .ok (.invokestatic 29, 3) := by decide +kernel
theorem pd_9 : parseMethodDescriptor "([CIIICI)V" = some ⟨[(.array .char), .int, .int, .int, .char, .int], none⟩ := by decide +kernel
theorem d_method_5_10 : decode method_5_code 10 = .ok (.aload_n 0, 1) := by decide +kernel
theorem d_method_5_11 : decode method_5_code 11 = .ok (.iconst 1, 1) := by decide +kernel
theorem d_method_5_12 : decode method_5_code 12 = .ok (.iload_n 1, 1) := by decide +kernel
theorem d_method_5_13 : decode method_5_code 13 = .ok (.iload_n 2, 1) := by decide +kernel
theorem d_method_5_14 : decode method_5_code 14 = .ok (.iload_n 3, 1) := by decide +kernel
theorem d_method_5_15 : decode method_5_code 15 = .ok (.iload 4, 2) := by decide +kernel
theorem d_method_5_17 : decode method_5_code 17 = .ok (.invokestatic 29, 3) := by decide +kernel
theorem d_method_5_20 : decode method_5_code 20 = .ok (.aload_n 0, 1) := by decide +kernel
theorem d_method_5_21 : decode method_5_code 21 = .ok (.iconst 2, 1) := by decide +kernel
theorem d_method_5_22 : decode method_5_code 22 = .ok (.iload_n 1, 1) := by decide +kernel
theorem d_method_5_23 : decode method_5_code 23 = .ok (.iload_n 2, 1) := by decide +kernel
theorem d_method_5_24 : decode method_5_code 24 = .ok (.iload_n 3, 1) := by decide +kernel
theorem d_method_5_25 : decode method_5_code 25 = .ok (.iload 4, 2) := by decide +kernel
theorem d_method_5_27 : decode method_5_code 27 = .ok (.invokestatic 29, 3) := by decide +kernel
theorem d_method_5_30 : decode method_5_code 30 = .ok (.aload_n 0, 1) := by decide +kernel
theorem d_method_5_31 : decode method_5_code 31 = .ok (.iconst 3, 1) := by decide +kernel
theorem d_method_5_32 : decode method_5_code 32 = .ok (.iload_n 1, 1) := by decide +kernel
theorem d_method_5_33 : decode method_5_code 33 = .ok (.iload_n 2, 1) := by decide +kernel
theorem d_method_5_34 : decode method_5_code 34 = .ok (.iload_n 3, 1) := by decide +kernel
theorem d_method_5_35 : decode method_5_code 35 = .ok (.iload 4, 2) := by decide +kernel
theorem d_method_5_37 : decode method_5_code 37 = .ok (.invokestatic 29, 3) := by decide +kernel
theorem d_method_5_40 : decode method_5_code 40 = .ok (.aload_n 0, 1) := by decide +kernel
theorem d_method_5_41 : decode method_5_code 41 = .ok (.iconst 4, 1) := by decide +kernel
theorem d_method_5_42 : decode method_5_code 42 = .ok (.iload_n 1, 1) := by decide +kernel
theorem d_method_5_43 : decode method_5_code 43 = .ok (.iload_n 2, 1) := by decide +kernel
theorem d_method_5_44 : decode method_5_code 44 = .ok (.iload_n 3, 1) := by decide +kernel
theorem d_method_5_45 : decode method_5_code 45 = .ok (.iload 4, 2) := by decide +kernel
theorem d_method_5_47 : decode method_5_code 47 = .ok (.invokestatic 29, 3) := by decide +kernel
theorem d_method_5_50 : decode method_5_code 50 = .ok (.aload_n 0, 1) := by decide +kernel
theorem d_method_5_51 : decode method_5_code 51 = .ok (.iconst 5, 1) := by decide +kernel
theorem d_method_5_52 : decode method_5_code 52 = .ok (.iload_n 1, 1) := by decide +kernel
theorem d_method_5_53 : decode method_5_code 53 = .ok (.iload_n 2, 1) := by decide +kernel
theorem d_method_5_54 : decode method_5_code 54 = .ok (.iload_n 3, 1) := by decide +kernel
theorem d_method_5_55 : decode method_5_code 55 = .ok (.iload 4, 2) := by decide +kernel
theorem d_method_5_57 : decode method_5_code 57 = .ok (.invokestatic 29, 3) := by decide +kernel
theorem d_method_5_60 : decode method_5_code 60 = .ok (.aload_n 0, 1) := by decide +kernel
theorem d_method_5_61 : decode method_5_code 61 = .ok (.bipush 6, 2) := by decide +kernel
theorem d_method_5_63 : decode method_5_code 63 = .ok (.iload_n 1, 1) := by decide +kernel
theorem d_method_5_64 : decode method_5_code 64 = .ok (.iload_n 2, 1) := by decide +kernel
theorem d_method_5_65 : decode method_5_code 65 = .ok (.iload_n 3, 1) := by decide +kernel
theorem d_method_5_66 : decode method_5_code 66 = .ok (.iload 4, 2) := by decide +kernel
theorem d_method_5_68 : decode method_5_code 68 = .ok (.invokestatic 29, 3) := by decide +kernel
theorem d_method_5_71 : decode method_5_code 71 = .ok (.aload_n 0, 1) := by decide +kernel
theorem d_method_5_72 : decode method_5_code 72 = .ok (.bipush 7, 2) := by decide +kernel
theorem d_method_5_74 : decode method_5_code 74 = .ok (.iload_n 1, 1) := by decide +kernel
theorem d_method_5_75 : decode method_5_code 75 = .ok (.iload_n 2, 1) := by decide +kernel
theorem d_method_5_76 : decode method_5_code 76 = .ok (.iload_n 3, 1) := by decide +kernel
theorem d_method_5_77 : decode method_5_code 77 = .ok (.iload 4, 2) := by decide +kernel
theorem d_method_5_79 : decode method_5_code 79 = .ok (.invokestatic 29, 3) := by decide +kernel
theorem d_method_5_82 : decode method_5_code 82 = .ok (.aload_n 0, 1) := by decide +kernel
theorem d_method_5_83 : decode method_5_code 83 = .ok (.bipush 8, 2) := by decide +kernel
theorem d_method_5_85 : decode method_5_code 85 = .ok (.iload_n 1, 1) := by decide +kernel
theorem d_method_5_86 : decode method_5_code 86 = .ok (.iload_n 2, 1) := by decide +kernel
theorem d_method_5_87 : decode method_5_code 87 = .ok (.iload_n 3, 1) := by decide +kernel
theorem d_method_5_88 : decode method_5_code 88 = .ok (.iload 4, 2) := by decide +kernel
theorem d_method_5_90 : decode method_5_code 90 = .ok (.invokestatic 29, 3) := by decide +kernel
theorem d_method_5_93 : decode method_5_code 93 = .ok (.aload_n 0, 1) := by decide +kernel
theorem d_method_5_94 : decode method_5_code 94 = .ok (.bipush 9, 2) := by decide +kernel
theorem d_method_5_96 : decode method_5_code 96 = .ok (.iload_n 1, 1) := by decide +kernel
theorem d_method_5_97 : decode method_5_code 97 = .ok (.iload_n 2, 1) := by decide +kernel
theorem d_method_5_98 : decode method_5_code 98 = .ok (.iload_n 3, 1) := by decide +kernel
theorem d_method_5_99 : decode method_5_code 99 = .ok (.iload 4, 2) := by decide +kernel
theorem d_method_5_101 : decode method_5_code 101 = .ok (.invokestatic 29, 3) := by decide +kernel
theorem d_method_5_104 : decode method_5_code 104 = .ok (.aload_n 0, 1) := by decide +kernel
theorem d_method_5_105 : decode method_5_code 105 = .ok (.bipush 10, 2) := by decide +kernel
theorem d_method_5_107 : decode method_5_code 107 = .ok (.iload_n 1, 1) := by decide +kernel
theorem d_method_5_108 : decode method_5_code 108 = .ok (.iload_n 2, 1) := by decide +kernel
theorem d_method_5_109 : decode method_5_code 109 = .ok (.iload_n 3, 1) := by decide +kernel
theorem d_method_5_110 : decode method_5_code 110 = .ok (.iload 4, 2) := by decide +kernel
theorem d_method_5_112 : decode method_5_code 112 = .ok (.invokestatic 29, 3) := by decide +kernel
theorem d_method_5_115 : decode method_5_code 115 = .ok (.aload_n 0, 1) := by decide +kernel
theorem d_method_5_116 : decode method_5_code 116 = .ok (.bipush 11, 2) := by decide +kernel
theorem d_method_5_118 : decode method_5_code 118 = .ok (.iload_n 1, 1) := by decide +kernel
theorem d_method_5_119 : decode method_5_code 119 = .ok (.iload_n 2, 1) := by decide +kernel
theorem d_method_5_120 : decode method_5_code 120 = .ok (.iload_n 3, 1) := by decide +kernel
theorem d_method_5_121 : decode method_5_code 121 = .ok (.iload 4, 2) := by decide +kernel
theorem d_method_5_123 : decode method_5_code 123 = .ok (.invokestatic 29, 3) := by decide +kernel
theorem d_method_5_126 : decode method_5_code 126 = .ok (.aload_n 0, 1) := by decide +kernel
theorem d_method_5_127 : decode method_5_code 127 = .ok (.bipush 12, 2) := by decide +kernel
theorem d_method_5_129 : decode method_5_code 129 = .ok (.iload_n 1, 1) := by decide +kernel
theorem d_method_5_130 : decode method_5_code 130 = .ok (.iload_n 2, 1) := by decide +kernel
theorem d_method_5_131 : decode method_5_code 131 = .ok (.iload_n 3, 1) := by decide +kernel
theorem d_method_5_132 : decode method_5_code 132 = .ok (.iload 4, 2) := by decide +kernel
theorem d_method_5_134 : decode method_5_code 134 = .ok (.invokestatic 29, 3) := by decide +kernel
theorem d_method_5_137 : decode method_5_code 137 = .ok (.aload_n 0, 1) := by decide +kernel
theorem d_method_5_138 : decode method_5_code 138 = .ok (.bipush 13, 2) := by decide +kernel
theorem d_method_5_140 : decode method_5_code 140 = .ok (.iload_n 1, 1) := by decide +kernel
theorem d_method_5_141 : decode method_5_code 141 = .ok (.iload_n 2, 1) := by decide +kernel
theorem d_method_5_142 : decode method_5_code 142 = .ok (.iload_n 3, 1) := by decide +kernel
theorem d_method_5_143 : decode method_5_code 143 = .ok (.iload 4, 2) := by decide +kernel
theorem d_method_5_145 : decode method_5_code 145 = .ok (.invokestatic 29, 3) := by decide +kernel
theorem d_method_5_148 : decode method_5_code 148 = .ok (.aload_n 0, 1) := by decide +kernel
theorem d_method_5_149 : decode method_5_code 149 = .ok (.bipush 14, 2) := by decide +kernel
theorem d_method_5_151 : decode method_5_code 151 = .ok (.iload_n 1, 1) := by decide +kernel
theorem d_method_5_152 : decode method_5_code 152 = .ok (.iload_n 2, 1) := by decide +kernel
theorem d_method_5_153 : decode method_5_code 153 = .ok (.iload_n 3, 1) := by decide +kernel
theorem d_method_5_154 : decode method_5_code 154 = .ok (.iload 4, 2) := by decide +kernel
theorem d_method_5_156 : decode method_5_code 156 = .ok (.invokestatic 29, 3) := by decide +kernel
theorem d_method_5_159 : decode method_5_code 159 = .ok (.aload_n 0, 1) := by decide +kernel
theorem d_method_5_160 : decode method_5_code 160 = .ok (.bipush 15, 2) := by decide +kernel
theorem d_method_5_162 : decode method_5_code 162 = .ok (.iload_n 1, 1) := by decide +kernel
theorem d_method_5_163 : decode method_5_code 163 = .ok (.iload_n 2, 1) := by decide +kernel
theorem d_method_5_164 : decode method_5_code 164 = .ok (.iload_n 3, 1) := by decide +kernel
theorem d_method_5_165 : decode method_5_code 165 = .ok (.iload 4, 2) := by decide +kernel
theorem d_method_5_167 : decode method_5_code 167 = .ok (.invokestatic 29, 3) := by decide +kernel
theorem d_method_5_170 : decode method_5_code 170 = .ok (.aload_n 0, 1) := by decide +kernel
theorem d_method_5_171 : decode method_5_code 171 = .ok (.bipush 16, 2) := by decide +kernel
theorem d_method_5_173 : decode method_5_code 173 = .ok (.iload_n 1, 1) := by decide +kernel
theorem d_method_5_174 : decode method_5_code 174 = .ok (.iload_n 2, 1) := by decide +kernel
theorem d_method_5_175 : decode method_5_code 175 = .ok (.iload_n 3, 1) := by decide +kernel
theorem d_method_5_176 : decode method_5_code 176 = .ok (.iload 4, 2) := by decide +kernel
theorem d_method_5_178 : decode method_5_code 178 = .ok (.invokestatic 29, 3) := by decide +kernel
theorem d_method_5_181 : decode method_5_code 181 = .ok (.aload_n 0, 1) := by decide +kernel
theorem d_method_5_182 : decode method_5_code 182 = .ok (.bipush 17, 2) := by decide +kernel
theorem d_method_5_184 : decode method_5_code 184 = .ok (.iload_n 1, 1) := by decide +kernel
theorem d_method_5_185 : decode method_5_code 185 = .ok (.iload_n 2, 1) := by decide +kernel
theorem d_method_5_186 : decode method_5_code 186 = .ok (.iload_n 3, 1) := by decide +kernel
theorem d_method_5_187 : decode method_5_code 187 = .ok (.iload 4, 2) := by decide +kernel
theorem d_method_5_189 : decode method_5_code 189 = .ok (.invokestatic 29, 3) := by decide +kernel
theorem d_method_5_192 : decode method_5_code 192 = .ok (.aload_n 0, 1) := by decide +kernel
theorem d_method_5_193 : decode method_5_code 193 = .ok (.bipush 18, 2) := by decide +kernel
theorem d_method_5_195 : decode method_5_code 195 = .ok (.iload_n 1, 1) := by decide +kernel
theorem d_method_5_196 : decode method_5_code 196 = .ok (.iload_n 2, 1) := by decide +kernel
theorem d_method_5_197 : decode method_5_code 197 = .ok (.iload_n 3, 1) := by decide +kernel
theorem d_method_5_198 : decode method_5_code 198 = .ok (.iload 4, 2) := by decide +kernel
theorem d_method_5_200 : decode method_5_code 200 = .ok (.invokestatic 29, 3) := by decide +kernel
theorem d_method_5_203 : decode method_5_code 203 = .ok (.aload_n 0, 1) := by decide +kernel
theorem d_method_5_204 : decode method_5_code 204 = .ok (.bipush 19, 2) := by decide +kernel
theorem d_method_5_206 : decode method_5_code 206 = .ok (.iload_n 1, 1) := by decide +kernel
theorem d_method_5_207 : decode method_5_code 207 = .ok (.iload_n 2, 1) := by decide +kernel
theorem d_method_5_208 : decode method_5_code 208 = .ok (.iload_n 3, 1) := by decide +kernel
theorem d_method_5_209 : decode method_5_code 209 = .ok (.iload 4, 2) := by decide +kernel
theorem d_method_5_211 : decode method_5_code 211 = .ok (.invokestatic 29, 3) := by decide +kernel
theorem d_method_5_214 : decode method_5_code 214 = .ok (.aload_n 0, 1) := by decide +kernel
theorem d_method_5_215 : decode method_5_code 215 = .ok (.bipush 20, 2) := by decide +kernel
theorem d_method_5_217 : decode method_5_code 217 = .ok (.iload_n 1, 1) := by decide +kernel
theorem d_method_5_218 : decode method_5_code 218 = .ok (.iload_n 2, 1) := by decide +kernel
theorem d_method_5_219 : decode method_5_code 219 = .ok (.iload_n 3, 1) := by decide +kernel
theorem d_method_5_220 : decode method_5_code 220 = .ok (.iload 4, 2) := by decide +kernel
theorem d_method_5_222 : decode method_5_code 222 = .ok (.invokestatic 29, 3) := by decide +kernel
theorem d_method_5_225 : decode method_5_code 225 = .ok (.aload_n 0, 1) := by decide +kernel
theorem d_method_5_226 : decode method_5_code 226 = .ok (.bipush 21, 2) := by decide +kernel
theorem d_method_5_228 : decode method_5_code 228 = .ok (.iload_n 1, 1) := by decide +kernel
theorem d_method_5_229 : decode method_5_code 229 = .ok (.iload_n 2, 1) := by decide +kernel
theorem d_method_5_230 : decode method_5_code 230 = .ok (.iload_n 3, 1) := by decide +kernel
theorem d_method_5_231 : decode method_5_code 231 = .ok (.iload 4, 2) := by decide +kernel
theorem d_method_5_233 : decode method_5_code 233 = .ok (.invokestatic 29, 3) := by decide +kernel
theorem d_method_5_236 : decode method_5_code 236 = .ok (.aload_n 0, 1) := by decide +kernel
theorem d_method_5_237 : decode method_5_code 237 = .ok (.bipush 22, 2) := by decide +kernel
theorem d_method_5_239 : decode method_5_code 239 = .ok (.iload_n 1, 1) := by decide +kernel
theorem d_method_5_240 : decode method_5_code 240 = .ok (.iload_n 2, 1) := by decide +kernel
theorem d_method_5_241 : decode method_5_code 241 = .ok (.iload_n 3, 1) := by decide +kernel
theorem d_method_5_242 : decode method_5_code 242 = .ok (.iload 4, 2) := by decide +kernel
theorem d_method_5_244 : decode method_5_code 244 = .ok (.invokestatic 29, 3) := by decide +kernel
theorem d_method_5_247 : decode method_5_code 247 = .ok (.aload_n 0, 1) := by decide +kernel
theorem d_method_5_248 : decode method_5_code 248 = .ok (.bipush 23, 2) := by decide +kernel
theorem d_method_5_250 : decode method_5_code 250 = .ok (.iload_n 1, 1) := by decide +kernel
theorem d_method_5_251 : decode method_5_code 251 = .ok (.iload_n 2, 1) := by decide +kernel
theorem d_method_5_252 : decode method_5_code 252 = .ok (.iload_n 3, 1) := by decide +kernel
theorem d_method_5_253 : decode method_5_code 253 = .ok (.iload 4, 2) := by decide +kernel
theorem d_method_5_255 : decode method_5_code 255 = .ok (.invokestatic 29, 3) := by decide +kernel
theorem d_method_5_258 : decode method_5_code 258 = .ok (.aload_n 0, 1) := by decide +kernel
theorem d_method_5_259 : decode method_5_code 259 = .ok (.bipush 24, 2) := by decide +kernel
theorem d_method_5_261 : decode method_5_code 261 = .ok (.iload_n 1, 1) := by decide +kernel
theorem d_method_5_262 : decode method_5_code 262 = .ok (.iload_n 2, 1) := by decide +kernel
theorem d_method_5_263 : decode method_5_code 263 = .ok (.iload_n 3, 1) := by decide +kernel
theorem d_method_5_264 : decode method_5_code 264 = .ok (.iload 4, 2) := by decide +kernel
theorem d_method_5_266 : decode method_5_code 266 = .ok (.invokestatic 29, 3) := by decide +kernel
theorem d_method_5_269 : decode method_5_code 269 = .ok (.aload_n 0, 1) := by decide +kernel
theorem d_method_5_270 : decode method_5_code 270 = .ok (.bipush 25, 2) := by decide +kernel
theorem d_method_5_272 : decode method_5_code 272 = .ok (.iload_n 1, 1) := by decide +kernel
theorem d_method_5_273 : decode method_5_code 273 = .ok (.iload_n 2, 1) := by decide +kernel
theorem d_method_5_274 : decode method_5_code 274 = .ok (.iload_n 3, 1) := by decide +kernel
theorem d_method_5_275 : decode method_5_code 275 = .ok (.iload 4, 2) := by decide +kernel
theorem d_method_5_277 : decode method_5_code 277 = .ok (.invokestatic 29, 3) := by decide +kernel
theorem d_method_5_280 : decode method_5_code 280 = .ok (.aload_n 0, 1) := by decide +kernel
theorem d_method_5_281 : decode method_5_code 281 = .ok (.bipush 26, 2) := by decide +kernel
theorem d_method_5_283 : decode method_5_code 283 = .ok (.iload_n 1, 1) := by decide +kernel
theorem d_method_5_284 : decode method_5_code 284 = .ok (.iload_n 2, 1) := by decide +kernel
theorem d_method_5_285 : decode method_5_code 285 = .ok (.iload_n 3, 1) := by decide +kernel
theorem d_method_5_286 : decode method_5_code 286 = .ok (.iload 4, 2) := by decide +kernel
theorem d_method_5_288 : decode method_5_code 288 = .ok (.invokestatic 29, 3) := by decide +kernel
theorem d_method_5_291 : decode method_5_code 291 = .ok (.aload_n 0, 1) := by decide +kernel
theorem d_method_5_292 : decode method_5_code 292 = .ok (.bipush 27, 2) := by decide +kernel
theorem d_method_5_294 : decode method_5_code 294 = .ok (.iload_n 1, 1) := by decide +kernel
theorem d_method_5_295 : decode method_5_code 295 = .ok (.iload_n 2, 1) := by decide +kernel
theorem d_method_5_296 : decode method_5_code 296 = .ok (.iload_n 3, 1) := by decide +kernel
theorem d_method_5_297 : decode method_5_code 297 = .ok (.iload 4, 2) := by decide +kernel
theorem d_method_5_299 : decode method_5_code 299 = .ok (.invokestatic 29, 3) := by decide +kernel
theorem d_method_5_302 : decode method_5_code 302 = .ok (.aload_n 0, 1) := by decide +kernel
theorem d_method_5_303 : decode method_5_code 303 = .ok (.bipush 28, 2) := by decide +kernel
theorem d_method_5_305 : decode method_5_code 305 = .ok (.iload_n 1, 1) := by decide +kernel
theorem d_method_5_306 : decode method_5_code 306 = .ok (.iload_n 2, 1) := by decide +kernel
theorem d_method_5_307 : decode method_5_code 307 = .ok (.iload_n 3, 1) := by decide +kernel
theorem d_method_5_308 : decode method_5_code 308 = .ok (.iload 4, 2) := by decide +kernel
theorem d_method_5_310 : decode method_5_code 310 = .ok (.invokestatic 29, 3) := by decide +kernel
theorem d_method_5_313 : decode method_5_code 313 = .ok (.aload_n 0, 1) := by decide +kernel
theorem d_method_5_314 : decode method_5_code 314 = .ok (.bipush 29, 2) := by decide +kernel
theorem d_method_5_316 : decode method_5_code 316 = .ok (.iload_n 1, 1) := by decide +kernel
theorem d_method_5_317 : decode method_5_code 317 = .ok (.iload_n 2, 1) := by decide +kernel
theorem d_method_5_318 : decode method_5_code 318 = .ok (.iload_n 3, 1) := by decide +kernel
theorem d_method_5_319 : decode method_5_code 319 = .ok (.iload 4, 2) := by decide +kernel
theorem d_method_5_321 : decode method_5_code 321 = .ok (.invokestatic 29, 3) := by decide +kernel
theorem d_method_5_324 : decode method_5_code 324 = .ok (.aload_n 0, 1) := by decide +kernel
theorem d_method_5_325 : decode method_5_code 325 = .ok (.bipush 30, 2) := by decide +kernel
theorem d_method_5_327 : decode method_5_code 327 = .ok (.iload_n 1, 1) := by decide +kernel
theorem d_method_5_328 : decode method_5_code 328 = .ok (.iload_n 2, 1) := by decide +kernel
theorem d_method_5_329 : decode method_5_code 329 = .ok (.iload_n 3, 1) := by decide +kernel
theorem d_method_5_330 : decode method_5_code 330 = .ok (.iload 4, 2) := by decide +kernel
theorem d_method_5_332 : decode method_5_code 332 = .ok (.invokestatic 29, 3) := by decide +kernel
theorem d_method_5_335 : decode method_5_code 335 = .ok (.aload_n 0, 1) := by decide +kernel
theorem d_method_5_336 : decode method_5_code 336 = .ok (.bipush 31, 2) := by decide +kernel
theorem d_method_5_338 : decode method_5_code 338 = .ok (.iload_n 1, 1) := by decide +kernel
theorem d_method_5_339 : decode method_5_code 339 = .ok (.iload_n 2, 1) := by decide +kernel
theorem d_method_5_340 : decode method_5_code 340 = .ok (.iload_n 3, 1) := by decide +kernel
theorem d_method_5_341 : decode method_5_code 341 = .ok (.iload 4, 2) := by decide +kernel
theorem d_method_5_343 : decode method_5_code 343 = .ok (.invokestatic 29, 3) := by decide +kernel
theorem d_method_5_346 : decode method_5_code 346 = .ok (.aload_n 0, 1) := by decide +kernel
theorem d_method_5_347 : decode method_5_code 347 = .ok (.bipush 32, 2) := by decide +kernel
theorem d_method_5_349 : decode method_5_code 349 = .ok (.iload_n 1, 1) := by decide +kernel
theorem d_method_5_350 : decode method_5_code 350 = .ok (.iload_n 2, 1) := by decide +kernel
theorem d_method_5_351 : decode method_5_code 351 = .ok (.iload_n 3, 1) := by decide +kernel
theorem d_method_5_352 : decode method_5_code 352 = .ok (.iload 4, 2) := by decide +kernel
theorem d_method_5_354 : decode method_5_code 354 = .ok (.invokestatic 29, 3) := by decide +kernel
theorem d_method_5_357 : decode method_5_code 357 = .ok (.aload_n 0, 1) := by decide +kernel
theorem d_method_5_358 : decode method_5_code 358 = .ok (.bipush 33, 2) := by decide +kernel
theorem d_method_5_360 : decode method_5_code 360 = .ok (.iload_n 1, 1) := by decide +kernel
theorem d_method_5_361 : decode method_5_code 361 = .ok (.iload_n 2, 1) := by decide +kernel
theorem d_method_5_362 : decode method_5_code 362 = .ok (.iload_n 3, 1) := by decide +kernel
theorem d_method_5_363 : decode method_5_code 363 = .ok (.iload 4, 2) := by decide +kernel
theorem d_method_5_365 : decode method_5_code 365 = .ok (.invokestatic 29, 3) := by decide +kernel
theorem d_method_5_368 : decode method_5_code 368 = .ok (.aload_n 0, 1) := by decide +kernel
theorem d_method_5_369 : decode method_5_code 369 = .ok (.bipush 34, 2) := by decide +kernel
theorem d_method_5_371 : decode method_5_code 371 = .ok (.iload_n 1, 1) := by decide +kernel
theorem d_method_5_372 : decode method_5_code 372 = .ok (.iload_n 2, 1) := by decide +kernel
theorem d_method_5_373 : decode method_5_code 373 = .ok (.iload_n 3, 1) := by decide +kernel
theorem d_method_5_374 : decode method_5_code 374 = .ok (.iload 4, 2) := by decide +kernel
theorem d_method_5_376 : decode method_5_code 376 = .ok (.invokestatic 29, 3) := by decide +kernel
theorem d_method_5_379 : decode method_5_code 379 = .ok (.aload_n 0, 1) := by decide +kernel
theorem d_method_5_380 : decode method_5_code 380 = .ok (.bipush 35, 2) := by decide +kernel
theorem d_method_5_382 : decode method_5_code 382 = .ok (.iload_n 1, 1) := by decide +kernel
theorem d_method_5_383 : decode method_5_code 383 = .ok (.iload_n 2, 1) := by decide +kernel
theorem d_method_5_384 : decode method_5_code 384 = .ok (.iload_n 3, 1) := by decide +kernel
theorem d_method_5_385 : decode method_5_code 385 = .ok (.iload 4, 2) := by decide +kernel
theorem d_method_5_387 : decode method_5_code 387 = .ok (.invokestatic 29, 3) := by decide +kernel
theorem d_method_5_390 : decode method_5_code 390 = .ok (.aload_n 0, 1) := by decide +kernel
theorem d_method_5_391 : decode method_5_code 391 = .ok (.bipush 36, 2) := by decide +kernel
theorem d_method_5_393 : decode method_5_code 393 = .ok (.iload_n 1, 1) := by decide +kernel
theorem d_method_5_394 : decode method_5_code 394 = .ok (.iload_n 2, 1) := by decide +kernel
theorem d_method_5_395 : decode method_5_code 395 = .ok (.iload_n 3, 1) := by decide +kernel
theorem d_method_5_396 : decode method_5_code 396 = .ok (.iload 4, 2) := by decide +kernel
theorem d_method_5_398 : decode method_5_code 398 = .ok (.invokestatic 29, 3) := by decide +kernel
theorem d_method_5_401 : decode method_5_code 401 = .ok (.aload_n 0, 1) := by decide +kernel
theorem d_method_5_402 : decode method_5_code 402 = .ok (.bipush 37, 2) := by decide +kernel
theorem d_method_5_404 : decode method_5_code 404 = .ok (.iload_n 1, 1) := by decide +kernel
theorem d_method_5_405 : decode method_5_code 405 = .ok (.iload_n 2, 1) := by decide +kernel
theorem d_method_5_406 : decode method_5_code 406 = .ok (.iload_n 3, 1) := by decide +kernel
theorem d_method_5_407 : decode method_5_code 407 = .ok (.iload 4, 2) := by decide +kernel
theorem d_method_5_409 : decode method_5_code 409 = .ok (.invokestatic 29, 3) := by decide +kernel
theorem d_method_5_412 : decode method_5_code 412 = .ok (.aload_n 0, 1) := by decide +kernel
theorem d_method_5_413 : decode method_5_code 413 = .ok (.bipush 38, 2) := by decide +kernel
theorem d_method_5_415 : decode method_5_code 415 = .ok (.iload_n 1, 1) := by decide +kernel
theorem d_method_5_416 : decode method_5_code 416 = .ok (.iload_n 2, 1) := by decide +kernel
theorem d_method_5_417 : decode method_5_code 417 = .ok (.iload_n 3, 1) := by decide +kernel
theorem d_method_5_418 : decode method_5_code 418 = .ok (.iload 4, 2) := by decide +kernel
theorem d_method_5_420 : decode method_5_code 420 = .ok (.invokestatic 29, 3) := by decide +kernel
theorem d_method_5_423 : decode method_5_code 423 = .ok (.aload_n 0, 1) := by decide +kernel
theorem d_method_5_424 : decode method_5_code 424 = .ok (.bipush 39, 2) := by decide +kernel
theorem d_method_5_426 : decode method_5_code 426 = .ok (.iload_n 1, 1) := by decide +kernel
theorem d_method_5_427 : decode method_5_code 427 = .ok (.iload_n 2, 1) := by decide +kernel
theorem d_method_5_428 : decode method_5_code 428 = .ok (.iload_n 3, 1) := by decide +kernel
theorem d_method_5_429 : decode method_5_code 429 = .ok (.iload 4, 2) := by decide +kernel
theorem d_method_5_431 : decode method_5_code 431 = .ok (.invokestatic 29, 3) := by decide +kernel
theorem d_method_5_434 : decode method_5_code 434 = .ok (.aload_n 0, 1) := by decide +kernel
theorem d_method_5_435 : decode method_5_code 435 = .ok (.bipush 40, 2) := by decide +kernel
theorem d_method_5_437 : decode method_5_code 437 = .ok (.iload_n 1, 1) := by decide +kernel
theorem d_method_5_438 : decode method_5_code 438 = .ok (.iload_n 2, 1) := by decide +kernel
theorem d_method_5_439 : decode method_5_code 439 = .ok (.iload_n 3, 1) := by decide +kernel
theorem d_method_5_440 : decode method_5_code 440 = .ok (.iload 4, 2) := by decide +kernel
theorem d_method_5_442 : decode method_5_code 442 = .ok (.invokestatic 29, 3) := by decide +kernel
theorem d_method_5_445 : decode method_5_code 445 = .ok (.aload_n 0, 1) := by decide +kernel
theorem d_method_5_446 : decode method_5_code 446 = .ok (.bipush 41, 2) := by decide +kernel
theorem d_method_5_448 : decode method_5_code 448 = .ok (.iload_n 1, 1) := by decide +kernel
theorem d_method_5_449 : decode method_5_code 449 = .ok (.iload_n 2, 1) := by decide +kernel
theorem d_method_5_450 : decode method_5_code 450 = .ok (.iload_n 3, 1) := by decide +kernel
theorem d_method_5_451 : decode method_5_code 451 = .ok (.iload 4, 2) := by decide +kernel
theorem d_method_5_453 : decode method_5_code 453 = .ok (.invokestatic 29, 3) := by decide +kernel
theorem d_method_5_456 : decode method_5_code 456 = .ok (.aload_n 0, 1) := by decide +kernel
theorem d_method_5_457 : decode method_5_code 457 = .ok (.bipush 42, 2) := by decide +kernel
theorem d_method_5_459 : decode method_5_code 459 = .ok (.iload_n 1, 1) := by decide +kernel
theorem d_method_5_460 : decode method_5_code 460 = .ok (.iload_n 2, 1) := by decide +kernel
theorem d_method_5_461 : decode method_5_code 461 = .ok (.iload_n 3, 1) := by decide +kernel
theorem d_method_5_462 : decode method_5_code 462 = .ok (.iload 4, 2) := by decide +kernel
theorem d_method_5_464 : decode method_5_code 464 = .ok (.invokestatic 29, 3) := by decide +kernel
theorem d_method_5_467 : decode method_5_code 467 = .ok (.aload_n 0, 1) := by decide +kernel
theorem d_method_5_468 : decode method_5_code 468 = .ok (.bipush 43, 2) := by decide +kernel
theorem d_method_5_470 : decode method_5_code 470 = .ok (.iload_n 1, 1) := by decide +kernel
theorem d_method_5_471 : decode method_5_code 471 = .ok (.iload_n 2, 1) := by decide +kernel
theorem d_method_5_472 : decode method_5_code 472 = .ok (.iload_n 3, 1) := by decide +kernel
theorem d_method_5_473 : decode method_5_code 473 = .ok (.iload 4, 2) := by decide +kernel
theorem d_method_5_475 : decode method_5_code 475 = .ok (.invokestatic 29, 3) := by decide +kernel
theorem d_method_5_478 : decode method_5_code 478 = .ok (.return_, 1) := by decide +kernel
theorem ef_fill (m : MethodId) (a1 : Addr) (p2 : Int32) (p3 : Int32) (p4 : Int32) (p5 : Int32) : entryFrame m #[(.ref a1), (.int p2), (.int p3), (.int p4), (.int p5)] 5 = mkF m 0 #[.val (.ref a1), .val (.int p2), .val (.int p3), .val (.int p4), .val (.int p5)] [] := by first | (simp [entryFrame, mkF, argsToLocals, Value.category, maxLocals]; done) | rfl
def Q_fill (Z : State) (a1 : Addr) (p2 : Int32) (p3 : Int32) (p4 : Int32) (p5 : Int32) (kc : ClassId) (N : Int32) (h0 : Heap) (n0 : Nat) (v : Option Value) (h : Heap) (L : List Loc) : Prop := (v = none) ∧ (Fr n0 L) ∧ (Keep h0 h [a1]) ∧ (Arv Z h a1 kc .char N ((FL p2 p3 p4 p5).map Value.int) (.int (0 : Int32)))
set_option maxRecDepth 65536 in
set_option maxHeartbeats 40000000 in
theorem fill_0 (l : Launch) (Z : State) (a0 : Array Value) (hw : ∀ d ∈ tables_1, d.before a0 Z = true) (p : Program) (e : Env) (s : State) (m : MethodId) (below : List Frame) (meth : Method) (c : Code) (Post : Outcome → State → Prop) (hx : p.tables.exec = Jvm.exec) (hby : c.code = method_5_code) (hml : c.maxLocals = 5) (hown : s.vm.findClass "com/example/tariff/tariff/core/decimal/PlainDecimalIsBoundedPinLaw" = some m.cls) (hZ : Z.Warmed39 s.vm) (a1 : Addr) (p2 : Int32) (p3 : Int32) (p4 : Int32) (p5 : Int32) (kc : ClassId) (N : Int32) (h0 : Heap) (n0 : Nat) (g_a1 : n0 ≤ a1)  (T39 : State) (h39 : Heap) (locs39 : List Loc) (X39 : Stand p l e ({ frames := 2, cells := 0, slots := 0, locals := 35 } : Room) s m #[(.ref a1), (.int p2), (.int p3), (.int p4), (.int p5)] below meth c T39 locs39 0 0) (e39 : T39.heap = h39) (N0 : Fr n0 locs39) (K0 : Keep h0 h39 [a1]) (O0 : Old Z n0 h39) (V_a1 : Arv Z h39 a1 kc .char N (FLP p2 p3 p4 p5 0) (.int (0 : Int32))) (nx : ∀ (T40 : State) (h40 : Heap) (locs40 : List Loc) (X40 : Stand p l e ({ frames := 2, cells := 0, slots := 0, locals := 35 } : Room) s m #[(.ref a1), (.int p2), (.int p3), (.int p4), (.int p5)] below meth c T40 locs40 0 0) (e40 : T40.heap = h40) (N0 : Fr n0 locs40) (K0 : Keep h0 h40 [a1]) (O0 : Old Z n0 h40) (V_a1 : Arv Z h40 a1 kc .char N (FLP p2 p3 p4 p5 1) (.int (0 : Int32))), Goes p e below Post T40 (mkF m 10 #[.val (.ref a1), .val (.int p2), .val (.int p3), .val (.int p4), .val (.int p5)] [])) :
    Goes p e below Post T39 (mkF m 0 #[.val (.ref a1), .val (.int p2), .val (.int p3), .val (.int p4), .val (.int p5)] []) := by
  refine Goes.step (T' := T39) (g' := (mkF m 1 #[.val (.ref a1), .val (.int p2), .val (.int p3), .val (.int p4), .val (.int p5)] [(.ref a1)])) (fun _ kz => XS.aloadN X39.here hx rfl (hb hby d_method_5_0) rfl rfl kz) ?_
  refine Goes.step (T' := T39) (g' := (mkF m 2 #[.val (.ref a1), .val (.int p2), .val (.int p3), .val (.int p4), .val (.int p5)] [(.int (0 : Int32)), (.ref a1)])) (fun _ kz => XS.iconst X39.here hx rfl (hb hby d_method_5_1) kz) ?_
  refine Goes.step (T' := T39) (g' := (mkF m 3 #[.val (.ref a1), .val (.int p2), .val (.int p3), .val (.int p4), .val (.int p5)] [(.int p2), (.int (0 : Int32)), (.ref a1)])) (fun _ kz => XS.iloadN X39.here hx rfl (hb hby d_method_5_2) rfl  kz) ?_
  refine Goes.step (T' := T39) (g' := (mkF m 4 #[.val (.ref a1), .val (.int p2), .val (.int p3), .val (.int p4), .val (.int p5)] [(.int p3), (.int p2), (.int (0 : Int32)), (.ref a1)])) (fun _ kz => XS.iloadN X39.here hx rfl (hb hby d_method_5_3) rfl  kz) ?_
  refine Goes.step (T' := T39) (g' := (mkF m 5 #[.val (.ref a1), .val (.int p2), .val (.int p3), .val (.int p4), .val (.int p5)] [(.int p4), (.int p3), (.int p2), (.int (0 : Int32)), (.ref a1)])) (fun _ kz => XS.iloadN X39.here hx rfl (hb hby d_method_5_4) rfl  kz) ?_
  refine Goes.step (T' := T39) (g' := (mkF m 7 #[.val (.ref a1), .val (.int p2), .val (.int p3), .val (.int p4), .val (.int p5)] [(.int p5), (.int p4), (.int p3), (.int p2), (.int (0 : Int32)), (.ref a1)])) (fun _ kz => XS.iload X39.here hx rfl (hb hby d_method_5_5) rfl  kz) ?_
  obtain ⟨_, _, ⟨T41, L41, k41, n41⟩, -, X41, ⟨Lc41, hQ41, l41, y41, z41⟩, st41⟩ := Jvm.LawKit.callS X39 hx (y := (⟨"com/example/tariff/tariff/core/decimal/PlainDecimalIsBoundedPinLaw", "put", "([CIIICI)V"⟩ : MethodName)) hown (mvT hZ (hw _ (List.mem_of_getElem? (i := 6) rfl))) (mvT hZ (hw _ (List.mem_of_getElem? (i := 7) rfl))) (mvT hZ (hw _ (List.mem_of_getElem? (i := 4) rfl))) (mvT hZ (hw _ (List.mem_of_getElem? (i := 8) rfl))) (by decide) (backOf (W := 0) (rm_put l Z a0 hw [] a1 (0 : Int32) p2 p3 p4 p5 (kc) (N) ((FLP p2 p3 p4 p5 0)) ((.int (0 : Int32))) h39 n0 O0  V_a1 g_a1 (by decide) (by rw [flp_len]; decide)) hZ (hw _ (List.mem_of_getElem? (i := 8) rfl)) (hw _ (List.mem_of_getElem? (i := 4) rfl)) (by decide) (by decide)) (g := (mkF m 7 #[.val (.ref a1), .val (.int p2), .val (.int p3), .val (.int p4), .val (.int p5)] [(.int p5), (.int p4), (.int p3), (.int p2), (.int (0 : Int32)), (.ref a1)])) rfl (by rw [hml]; rfl) (argsL := [(.ref a1), (.int (0 : Int32)), (.int p2), (.int p3), (.int p4), (.int p5)]) (rest := []) (lenOf pd_9 rfl) rfl (by show 2 * 0 + _ ≤ _; exact Nat.le_of_eq rfl) (hb hby d_method_5_7) (fun _ _ => ⟨rfl, e39, (by decide : 0 + 0 ≤ _), (by decide : 0 + 0 ≤ _)⟩)
  dsimp only [Pt.U, Pt.locs, Pt.cells, Pt.slots] at X41 l41 y41 z41 st41 hQ41
  subst l41 y41 z41
  obtain ⟨h41, e41⟩ : ∃ z, T41.heap = z := ⟨_, rfl⟩
  rw [e41] at hQ41
  obtain ⟨rfl, Nq41, Kq41, V_a1_q41⟩ := hQ41
  replace N0 := Fr.app N0 Nq41
  clear V_a1
  replace O0 := O0.keep Kq41 (allS g_a1 all0)
  replace K0 := K0.trans Kq41 (allS (Or.inl (List.mem_of_getElem? (i := 0) rfl)) all0)
  have V_a1 := V_a1_q41
  refine Goes.step (T' := T41) (g' := (mkF m 10 #[.val (.ref a1), .val (.int p2), .val (.int p3), .val (.int p4), .val (.int p5)] [])) st41 ?_
  rw [flp_step (i := 0) (c := (0 : Int32)) (by decide) rfl (by decide)] at V_a1
  exact nx _ _ _ (X41.mono (by decide) (by decide)) e41 N0 K0 O0 V_a1
set_option maxRecDepth 65536 in
set_option maxHeartbeats 40000000 in
theorem fill_1 (l : Launch) (Z : State) (a0 : Array Value) (hw : ∀ d ∈ tables_1, d.before a0 Z = true) (p : Program) (e : Env) (s : State) (m : MethodId) (below : List Frame) (meth : Method) (c : Code) (Post : Outcome → State → Prop) (hx : p.tables.exec = Jvm.exec) (hby : c.code = method_5_code) (hml : c.maxLocals = 5) (hown : s.vm.findClass "com/example/tariff/tariff/core/decimal/PlainDecimalIsBoundedPinLaw" = some m.cls) (hZ : Z.Warmed39 s.vm) (a1 : Addr) (p2 : Int32) (p3 : Int32) (p4 : Int32) (p5 : Int32) (kc : ClassId) (N : Int32) (h0 : Heap) (n0 : Nat) (g_a1 : n0 ≤ a1)  (T42 : State) (h42 : Heap) (locs42 : List Loc) (X42 : Stand p l e ({ frames := 2, cells := 0, slots := 0, locals := 35 } : Room) s m #[(.ref a1), (.int p2), (.int p3), (.int p4), (.int p5)] below meth c T42 locs42 0 0) (e42 : T42.heap = h42) (N0 : Fr n0 locs42) (K0 : Keep h0 h42 [a1]) (O0 : Old Z n0 h42) (V_a1 : Arv Z h42 a1 kc .char N (FLP p2 p3 p4 p5 1) (.int (0 : Int32))) (nx : ∀ (T43 : State) (h43 : Heap) (locs43 : List Loc) (X43 : Stand p l e ({ frames := 2, cells := 0, slots := 0, locals := 35 } : Room) s m #[(.ref a1), (.int p2), (.int p3), (.int p4), (.int p5)] below meth c T43 locs43 0 0) (e43 : T43.heap = h43) (N0 : Fr n0 locs43) (K0 : Keep h0 h43 [a1]) (O0 : Old Z n0 h43) (V_a1 : Arv Z h43 a1 kc .char N (FLP p2 p3 p4 p5 2) (.int (0 : Int32))), Goes p e below Post T43 (mkF m 20 #[.val (.ref a1), .val (.int p2), .val (.int p3), .val (.int p4), .val (.int p5)] [])) :
    Goes p e below Post T42 (mkF m 10 #[.val (.ref a1), .val (.int p2), .val (.int p3), .val (.int p4), .val (.int p5)] []) := by
  refine Goes.step (T' := T42) (g' := (mkF m 11 #[.val (.ref a1), .val (.int p2), .val (.int p3), .val (.int p4), .val (.int p5)] [(.ref a1)])) (fun _ kz => XS.aloadN X42.here hx rfl (hb hby d_method_5_10) rfl rfl kz) ?_
  refine Goes.step (T' := T42) (g' := (mkF m 12 #[.val (.ref a1), .val (.int p2), .val (.int p3), .val (.int p4), .val (.int p5)] [(.int (1 : Int32)), (.ref a1)])) (fun _ kz => XS.iconst X42.here hx rfl (hb hby d_method_5_11) kz) ?_
  refine Goes.step (T' := T42) (g' := (mkF m 13 #[.val (.ref a1), .val (.int p2), .val (.int p3), .val (.int p4), .val (.int p5)] [(.int p2), (.int (1 : Int32)), (.ref a1)])) (fun _ kz => XS.iloadN X42.here hx rfl (hb hby d_method_5_12) rfl  kz) ?_
  refine Goes.step (T' := T42) (g' := (mkF m 14 #[.val (.ref a1), .val (.int p2), .val (.int p3), .val (.int p4), .val (.int p5)] [(.int p3), (.int p2), (.int (1 : Int32)), (.ref a1)])) (fun _ kz => XS.iloadN X42.here hx rfl (hb hby d_method_5_13) rfl  kz) ?_
  refine Goes.step (T' := T42) (g' := (mkF m 15 #[.val (.ref a1), .val (.int p2), .val (.int p3), .val (.int p4), .val (.int p5)] [(.int p4), (.int p3), (.int p2), (.int (1 : Int32)), (.ref a1)])) (fun _ kz => XS.iloadN X42.here hx rfl (hb hby d_method_5_14) rfl  kz) ?_
  refine Goes.step (T' := T42) (g' := (mkF m 17 #[.val (.ref a1), .val (.int p2), .val (.int p3), .val (.int p4), .val (.int p5)] [(.int p5), (.int p4), (.int p3), (.int p2), (.int (1 : Int32)), (.ref a1)])) (fun _ kz => XS.iload X42.here hx rfl (hb hby d_method_5_15) rfl  kz) ?_
  obtain ⟨_, _, ⟨T44, L44, k44, n44⟩, -, X44, ⟨Lc44, hQ44, l44, y44, z44⟩, st44⟩ := Jvm.LawKit.callS X42 hx (y := (⟨"com/example/tariff/tariff/core/decimal/PlainDecimalIsBoundedPinLaw", "put", "([CIIICI)V"⟩ : MethodName)) hown (mvT hZ (hw _ (List.mem_of_getElem? (i := 6) rfl))) (mvT hZ (hw _ (List.mem_of_getElem? (i := 7) rfl))) (mvT hZ (hw _ (List.mem_of_getElem? (i := 4) rfl))) (mvT hZ (hw _ (List.mem_of_getElem? (i := 8) rfl))) (by decide) (backOf (W := 0) (rm_put l Z a0 hw [] a1 (1 : Int32) p2 p3 p4 p5 (kc) (N) ((FLP p2 p3 p4 p5 1)) ((.int (0 : Int32))) h42 n0 O0  V_a1 g_a1 (by decide) (by rw [flp_len]; decide)) hZ (hw _ (List.mem_of_getElem? (i := 8) rfl)) (hw _ (List.mem_of_getElem? (i := 4) rfl)) (by decide) (by decide)) (g := (mkF m 17 #[.val (.ref a1), .val (.int p2), .val (.int p3), .val (.int p4), .val (.int p5)] [(.int p5), (.int p4), (.int p3), (.int p2), (.int (1 : Int32)), (.ref a1)])) rfl (by rw [hml]; rfl) (argsL := [(.ref a1), (.int (1 : Int32)), (.int p2), (.int p3), (.int p4), (.int p5)]) (rest := []) (lenOf pd_9 rfl) rfl (by show 2 * 0 + _ ≤ _; exact Nat.le_of_eq rfl) (hb hby d_method_5_17) (fun _ _ => ⟨rfl, e42, (by decide : 0 + 0 ≤ _), (by decide : 0 + 0 ≤ _)⟩)
  dsimp only [Pt.U, Pt.locs, Pt.cells, Pt.slots] at X44 l44 y44 z44 st44 hQ44
  subst l44 y44 z44
  obtain ⟨h44, e44⟩ : ∃ z, T44.heap = z := ⟨_, rfl⟩
  rw [e44] at hQ44
  obtain ⟨rfl, Nq44, Kq44, V_a1_q44⟩ := hQ44
  replace N0 := Fr.app N0 Nq44
  clear V_a1
  replace O0 := O0.keep Kq44 (allS g_a1 all0)
  replace K0 := K0.trans Kq44 (allS (Or.inl (List.mem_of_getElem? (i := 0) rfl)) all0)
  have V_a1 := V_a1_q44
  refine Goes.step (T' := T44) (g' := (mkF m 20 #[.val (.ref a1), .val (.int p2), .val (.int p3), .val (.int p4), .val (.int p5)] [])) st44 ?_
  rw [flp_step (i := 1) (c := (1 : Int32)) (by decide) rfl (by decide)] at V_a1
  exact nx _ _ _ (X44.mono (by decide) (by decide)) e44 N0 K0 O0 V_a1
set_option maxRecDepth 65536 in
set_option maxHeartbeats 40000000 in
theorem fill_2 (l : Launch) (Z : State) (a0 : Array Value) (hw : ∀ d ∈ tables_1, d.before a0 Z = true) (p : Program) (e : Env) (s : State) (m : MethodId) (below : List Frame) (meth : Method) (c : Code) (Post : Outcome → State → Prop) (hx : p.tables.exec = Jvm.exec) (hby : c.code = method_5_code) (hml : c.maxLocals = 5) (hown : s.vm.findClass "com/example/tariff/tariff/core/decimal/PlainDecimalIsBoundedPinLaw" = some m.cls) (hZ : Z.Warmed39 s.vm) (a1 : Addr) (p2 : Int32) (p3 : Int32) (p4 : Int32) (p5 : Int32) (kc : ClassId) (N : Int32) (h0 : Heap) (n0 : Nat) (g_a1 : n0 ≤ a1)  (T45 : State) (h45 : Heap) (locs45 : List Loc) (X45 : Stand p l e ({ frames := 2, cells := 0, slots := 0, locals := 35 } : Room) s m #[(.ref a1), (.int p2), (.int p3), (.int p4), (.int p5)] below meth c T45 locs45 0 0) (e45 : T45.heap = h45) (N0 : Fr n0 locs45) (K0 : Keep h0 h45 [a1]) (O0 : Old Z n0 h45) (V_a1 : Arv Z h45 a1 kc .char N (FLP p2 p3 p4 p5 2) (.int (0 : Int32))) (nx : ∀ (T46 : State) (h46 : Heap) (locs46 : List Loc) (X46 : Stand p l e ({ frames := 2, cells := 0, slots := 0, locals := 35 } : Room) s m #[(.ref a1), (.int p2), (.int p3), (.int p4), (.int p5)] below meth c T46 locs46 0 0) (e46 : T46.heap = h46) (N0 : Fr n0 locs46) (K0 : Keep h0 h46 [a1]) (O0 : Old Z n0 h46) (V_a1 : Arv Z h46 a1 kc .char N (FLP p2 p3 p4 p5 3) (.int (0 : Int32))), Goes p e below Post T46 (mkF m 30 #[.val (.ref a1), .val (.int p2), .val (.int p3), .val (.int p4), .val (.int p5)] [])) :
    Goes p e below Post T45 (mkF m 20 #[.val (.ref a1), .val (.int p2), .val (.int p3), .val (.int p4), .val (.int p5)] []) := by
  refine Goes.step (T' := T45) (g' := (mkF m 21 #[.val (.ref a1), .val (.int p2), .val (.int p3), .val (.int p4), .val (.int p5)] [(.ref a1)])) (fun _ kz => XS.aloadN X45.here hx rfl (hb hby d_method_5_20) rfl rfl kz) ?_
  refine Goes.step (T' := T45) (g' := (mkF m 22 #[.val (.ref a1), .val (.int p2), .val (.int p3), .val (.int p4), .val (.int p5)] [(.int (2 : Int32)), (.ref a1)])) (fun _ kz => XS.iconst X45.here hx rfl (hb hby d_method_5_21) kz) ?_
  refine Goes.step (T' := T45) (g' := (mkF m 23 #[.val (.ref a1), .val (.int p2), .val (.int p3), .val (.int p4), .val (.int p5)] [(.int p2), (.int (2 : Int32)), (.ref a1)])) (fun _ kz => XS.iloadN X45.here hx rfl (hb hby d_method_5_22) rfl  kz) ?_
  refine Goes.step (T' := T45) (g' := (mkF m 24 #[.val (.ref a1), .val (.int p2), .val (.int p3), .val (.int p4), .val (.int p5)] [(.int p3), (.int p2), (.int (2 : Int32)), (.ref a1)])) (fun _ kz => XS.iloadN X45.here hx rfl (hb hby d_method_5_23) rfl  kz) ?_
  refine Goes.step (T' := T45) (g' := (mkF m 25 #[.val (.ref a1), .val (.int p2), .val (.int p3), .val (.int p4), .val (.int p5)] [(.int p4), (.int p3), (.int p2), (.int (2 : Int32)), (.ref a1)])) (fun _ kz => XS.iloadN X45.here hx rfl (hb hby d_method_5_24) rfl  kz) ?_
  refine Goes.step (T' := T45) (g' := (mkF m 27 #[.val (.ref a1), .val (.int p2), .val (.int p3), .val (.int p4), .val (.int p5)] [(.int p5), (.int p4), (.int p3), (.int p2), (.int (2 : Int32)), (.ref a1)])) (fun _ kz => XS.iload X45.here hx rfl (hb hby d_method_5_25) rfl  kz) ?_
  obtain ⟨_, _, ⟨T47, L47, k47, n47⟩, -, X47, ⟨Lc47, hQ47, l47, y47, z47⟩, st47⟩ := Jvm.LawKit.callS X45 hx (y := (⟨"com/example/tariff/tariff/core/decimal/PlainDecimalIsBoundedPinLaw", "put", "([CIIICI)V"⟩ : MethodName)) hown (mvT hZ (hw _ (List.mem_of_getElem? (i := 6) rfl))) (mvT hZ (hw _ (List.mem_of_getElem? (i := 7) rfl))) (mvT hZ (hw _ (List.mem_of_getElem? (i := 4) rfl))) (mvT hZ (hw _ (List.mem_of_getElem? (i := 8) rfl))) (by decide) (backOf (W := 0) (rm_put l Z a0 hw [] a1 (2 : Int32) p2 p3 p4 p5 (kc) (N) ((FLP p2 p3 p4 p5 2)) ((.int (0 : Int32))) h45 n0 O0  V_a1 g_a1 (by decide) (by rw [flp_len]; decide)) hZ (hw _ (List.mem_of_getElem? (i := 8) rfl)) (hw _ (List.mem_of_getElem? (i := 4) rfl)) (by decide) (by decide)) (g := (mkF m 27 #[.val (.ref a1), .val (.int p2), .val (.int p3), .val (.int p4), .val (.int p5)] [(.int p5), (.int p4), (.int p3), (.int p2), (.int (2 : Int32)), (.ref a1)])) rfl (by rw [hml]; rfl) (argsL := [(.ref a1), (.int (2 : Int32)), (.int p2), (.int p3), (.int p4), (.int p5)]) (rest := []) (lenOf pd_9 rfl) rfl (by show 2 * 0 + _ ≤ _; exact Nat.le_of_eq rfl) (hb hby d_method_5_27) (fun _ _ => ⟨rfl, e45, (by decide : 0 + 0 ≤ _), (by decide : 0 + 0 ≤ _)⟩)
  dsimp only [Pt.U, Pt.locs, Pt.cells, Pt.slots] at X47 l47 y47 z47 st47 hQ47
  subst l47 y47 z47
  obtain ⟨h47, e47⟩ : ∃ z, T47.heap = z := ⟨_, rfl⟩
  rw [e47] at hQ47
  obtain ⟨rfl, Nq47, Kq47, V_a1_q47⟩ := hQ47
  replace N0 := Fr.app N0 Nq47
  clear V_a1
  replace O0 := O0.keep Kq47 (allS g_a1 all0)
  replace K0 := K0.trans Kq47 (allS (Or.inl (List.mem_of_getElem? (i := 0) rfl)) all0)
  have V_a1 := V_a1_q47
  refine Goes.step (T' := T47) (g' := (mkF m 30 #[.val (.ref a1), .val (.int p2), .val (.int p3), .val (.int p4), .val (.int p5)] [])) st47 ?_
  rw [flp_step (i := 2) (c := (2 : Int32)) (by decide) rfl (by decide)] at V_a1
  exact nx _ _ _ (X47.mono (by decide) (by decide)) e47 N0 K0 O0 V_a1
set_option maxRecDepth 65536 in
set_option maxHeartbeats 40000000 in
theorem fill_3 (l : Launch) (Z : State) (a0 : Array Value) (hw : ∀ d ∈ tables_1, d.before a0 Z = true) (p : Program) (e : Env) (s : State) (m : MethodId) (below : List Frame) (meth : Method) (c : Code) (Post : Outcome → State → Prop) (hx : p.tables.exec = Jvm.exec) (hby : c.code = method_5_code) (hml : c.maxLocals = 5) (hown : s.vm.findClass "com/example/tariff/tariff/core/decimal/PlainDecimalIsBoundedPinLaw" = some m.cls) (hZ : Z.Warmed39 s.vm) (a1 : Addr) (p2 : Int32) (p3 : Int32) (p4 : Int32) (p5 : Int32) (kc : ClassId) (N : Int32) (h0 : Heap) (n0 : Nat) (g_a1 : n0 ≤ a1)  (T48 : State) (h48 : Heap) (locs48 : List Loc) (X48 : Stand p l e ({ frames := 2, cells := 0, slots := 0, locals := 35 } : Room) s m #[(.ref a1), (.int p2), (.int p3), (.int p4), (.int p5)] below meth c T48 locs48 0 0) (e48 : T48.heap = h48) (N0 : Fr n0 locs48) (K0 : Keep h0 h48 [a1]) (O0 : Old Z n0 h48) (V_a1 : Arv Z h48 a1 kc .char N (FLP p2 p3 p4 p5 3) (.int (0 : Int32))) (nx : ∀ (T49 : State) (h49 : Heap) (locs49 : List Loc) (X49 : Stand p l e ({ frames := 2, cells := 0, slots := 0, locals := 35 } : Room) s m #[(.ref a1), (.int p2), (.int p3), (.int p4), (.int p5)] below meth c T49 locs49 0 0) (e49 : T49.heap = h49) (N0 : Fr n0 locs49) (K0 : Keep h0 h49 [a1]) (O0 : Old Z n0 h49) (V_a1 : Arv Z h49 a1 kc .char N (FLP p2 p3 p4 p5 4) (.int (0 : Int32))), Goes p e below Post T49 (mkF m 40 #[.val (.ref a1), .val (.int p2), .val (.int p3), .val (.int p4), .val (.int p5)] [])) :
    Goes p e below Post T48 (mkF m 30 #[.val (.ref a1), .val (.int p2), .val (.int p3), .val (.int p4), .val (.int p5)] []) := by
  refine Goes.step (T' := T48) (g' := (mkF m 31 #[.val (.ref a1), .val (.int p2), .val (.int p3), .val (.int p4), .val (.int p5)] [(.ref a1)])) (fun _ kz => XS.aloadN X48.here hx rfl (hb hby d_method_5_30) rfl rfl kz) ?_
  refine Goes.step (T' := T48) (g' := (mkF m 32 #[.val (.ref a1), .val (.int p2), .val (.int p3), .val (.int p4), .val (.int p5)] [(.int (3 : Int32)), (.ref a1)])) (fun _ kz => XS.iconst X48.here hx rfl (hb hby d_method_5_31) kz) ?_
  refine Goes.step (T' := T48) (g' := (mkF m 33 #[.val (.ref a1), .val (.int p2), .val (.int p3), .val (.int p4), .val (.int p5)] [(.int p2), (.int (3 : Int32)), (.ref a1)])) (fun _ kz => XS.iloadN X48.here hx rfl (hb hby d_method_5_32) rfl  kz) ?_
  refine Goes.step (T' := T48) (g' := (mkF m 34 #[.val (.ref a1), .val (.int p2), .val (.int p3), .val (.int p4), .val (.int p5)] [(.int p3), (.int p2), (.int (3 : Int32)), (.ref a1)])) (fun _ kz => XS.iloadN X48.here hx rfl (hb hby d_method_5_33) rfl  kz) ?_
  refine Goes.step (T' := T48) (g' := (mkF m 35 #[.val (.ref a1), .val (.int p2), .val (.int p3), .val (.int p4), .val (.int p5)] [(.int p4), (.int p3), (.int p2), (.int (3 : Int32)), (.ref a1)])) (fun _ kz => XS.iloadN X48.here hx rfl (hb hby d_method_5_34) rfl  kz) ?_
  refine Goes.step (T' := T48) (g' := (mkF m 37 #[.val (.ref a1), .val (.int p2), .val (.int p3), .val (.int p4), .val (.int p5)] [(.int p5), (.int p4), (.int p3), (.int p2), (.int (3 : Int32)), (.ref a1)])) (fun _ kz => XS.iload X48.here hx rfl (hb hby d_method_5_35) rfl  kz) ?_
  obtain ⟨_, _, ⟨T50, L50, k50, n50⟩, -, X50, ⟨Lc50, hQ50, l50, y50, z50⟩, st50⟩ := Jvm.LawKit.callS X48 hx (y := (⟨"com/example/tariff/tariff/core/decimal/PlainDecimalIsBoundedPinLaw", "put", "([CIIICI)V"⟩ : MethodName)) hown (mvT hZ (hw _ (List.mem_of_getElem? (i := 6) rfl))) (mvT hZ (hw _ (List.mem_of_getElem? (i := 7) rfl))) (mvT hZ (hw _ (List.mem_of_getElem? (i := 4) rfl))) (mvT hZ (hw _ (List.mem_of_getElem? (i := 8) rfl))) (by decide) (backOf (W := 0) (rm_put l Z a0 hw [] a1 (3 : Int32) p2 p3 p4 p5 (kc) (N) ((FLP p2 p3 p4 p5 3)) ((.int (0 : Int32))) h48 n0 O0  V_a1 g_a1 (by decide) (by rw [flp_len]; decide)) hZ (hw _ (List.mem_of_getElem? (i := 8) rfl)) (hw _ (List.mem_of_getElem? (i := 4) rfl)) (by decide) (by decide)) (g := (mkF m 37 #[.val (.ref a1), .val (.int p2), .val (.int p3), .val (.int p4), .val (.int p5)] [(.int p5), (.int p4), (.int p3), (.int p2), (.int (3 : Int32)), (.ref a1)])) rfl (by rw [hml]; rfl) (argsL := [(.ref a1), (.int (3 : Int32)), (.int p2), (.int p3), (.int p4), (.int p5)]) (rest := []) (lenOf pd_9 rfl) rfl (by show 2 * 0 + _ ≤ _; exact Nat.le_of_eq rfl) (hb hby d_method_5_37) (fun _ _ => ⟨rfl, e48, (by decide : 0 + 0 ≤ _), (by decide : 0 + 0 ≤ _)⟩)
  dsimp only [Pt.U, Pt.locs, Pt.cells, Pt.slots] at X50 l50 y50 z50 st50 hQ50
  subst l50 y50 z50
  obtain ⟨h50, e50⟩ : ∃ z, T50.heap = z := ⟨_, rfl⟩
  rw [e50] at hQ50
  obtain ⟨rfl, Nq50, Kq50, V_a1_q50⟩ := hQ50
  replace N0 := Fr.app N0 Nq50
  clear V_a1
  replace O0 := O0.keep Kq50 (allS g_a1 all0)
  replace K0 := K0.trans Kq50 (allS (Or.inl (List.mem_of_getElem? (i := 0) rfl)) all0)
  have V_a1 := V_a1_q50
  refine Goes.step (T' := T50) (g' := (mkF m 40 #[.val (.ref a1), .val (.int p2), .val (.int p3), .val (.int p4), .val (.int p5)] [])) st50 ?_
  rw [flp_step (i := 3) (c := (3 : Int32)) (by decide) rfl (by decide)] at V_a1
  exact nx _ _ _ (X50.mono (by decide) (by decide)) e50 N0 K0 O0 V_a1
set_option maxRecDepth 65536 in
set_option maxHeartbeats 40000000 in
theorem fill_4 (l : Launch) (Z : State) (a0 : Array Value) (hw : ∀ d ∈ tables_1, d.before a0 Z = true) (p : Program) (e : Env) (s : State) (m : MethodId) (below : List Frame) (meth : Method) (c : Code) (Post : Outcome → State → Prop) (hx : p.tables.exec = Jvm.exec) (hby : c.code = method_5_code) (hml : c.maxLocals = 5) (hown : s.vm.findClass "com/example/tariff/tariff/core/decimal/PlainDecimalIsBoundedPinLaw" = some m.cls) (hZ : Z.Warmed39 s.vm) (a1 : Addr) (p2 : Int32) (p3 : Int32) (p4 : Int32) (p5 : Int32) (kc : ClassId) (N : Int32) (h0 : Heap) (n0 : Nat) (g_a1 : n0 ≤ a1)  (T51 : State) (h51 : Heap) (locs51 : List Loc) (X51 : Stand p l e ({ frames := 2, cells := 0, slots := 0, locals := 35 } : Room) s m #[(.ref a1), (.int p2), (.int p3), (.int p4), (.int p5)] below meth c T51 locs51 0 0) (e51 : T51.heap = h51) (N0 : Fr n0 locs51) (K0 : Keep h0 h51 [a1]) (O0 : Old Z n0 h51) (V_a1 : Arv Z h51 a1 kc .char N (FLP p2 p3 p4 p5 4) (.int (0 : Int32))) (nx : ∀ (T52 : State) (h52 : Heap) (locs52 : List Loc) (X52 : Stand p l e ({ frames := 2, cells := 0, slots := 0, locals := 35 } : Room) s m #[(.ref a1), (.int p2), (.int p3), (.int p4), (.int p5)] below meth c T52 locs52 0 0) (e52 : T52.heap = h52) (N0 : Fr n0 locs52) (K0 : Keep h0 h52 [a1]) (O0 : Old Z n0 h52) (V_a1 : Arv Z h52 a1 kc .char N (FLP p2 p3 p4 p5 5) (.int (0 : Int32))), Goes p e below Post T52 (mkF m 50 #[.val (.ref a1), .val (.int p2), .val (.int p3), .val (.int p4), .val (.int p5)] [])) :
    Goes p e below Post T51 (mkF m 40 #[.val (.ref a1), .val (.int p2), .val (.int p3), .val (.int p4), .val (.int p5)] []) := by
  refine Goes.step (T' := T51) (g' := (mkF m 41 #[.val (.ref a1), .val (.int p2), .val (.int p3), .val (.int p4), .val (.int p5)] [(.ref a1)])) (fun _ kz => XS.aloadN X51.here hx rfl (hb hby d_method_5_40) rfl rfl kz) ?_
  refine Goes.step (T' := T51) (g' := (mkF m 42 #[.val (.ref a1), .val (.int p2), .val (.int p3), .val (.int p4), .val (.int p5)] [(.int (4 : Int32)), (.ref a1)])) (fun _ kz => XS.iconst X51.here hx rfl (hb hby d_method_5_41) kz) ?_
  refine Goes.step (T' := T51) (g' := (mkF m 43 #[.val (.ref a1), .val (.int p2), .val (.int p3), .val (.int p4), .val (.int p5)] [(.int p2), (.int (4 : Int32)), (.ref a1)])) (fun _ kz => XS.iloadN X51.here hx rfl (hb hby d_method_5_42) rfl  kz) ?_
  refine Goes.step (T' := T51) (g' := (mkF m 44 #[.val (.ref a1), .val (.int p2), .val (.int p3), .val (.int p4), .val (.int p5)] [(.int p3), (.int p2), (.int (4 : Int32)), (.ref a1)])) (fun _ kz => XS.iloadN X51.here hx rfl (hb hby d_method_5_43) rfl  kz) ?_
  refine Goes.step (T' := T51) (g' := (mkF m 45 #[.val (.ref a1), .val (.int p2), .val (.int p3), .val (.int p4), .val (.int p5)] [(.int p4), (.int p3), (.int p2), (.int (4 : Int32)), (.ref a1)])) (fun _ kz => XS.iloadN X51.here hx rfl (hb hby d_method_5_44) rfl  kz) ?_
  refine Goes.step (T' := T51) (g' := (mkF m 47 #[.val (.ref a1), .val (.int p2), .val (.int p3), .val (.int p4), .val (.int p5)] [(.int p5), (.int p4), (.int p3), (.int p2), (.int (4 : Int32)), (.ref a1)])) (fun _ kz => XS.iload X51.here hx rfl (hb hby d_method_5_45) rfl  kz) ?_
  obtain ⟨_, _, ⟨T53, L53, k53, n53⟩, -, X53, ⟨Lc53, hQ53, l53, y53, z53⟩, st53⟩ := Jvm.LawKit.callS X51 hx (y := (⟨"com/example/tariff/tariff/core/decimal/PlainDecimalIsBoundedPinLaw", "put", "([CIIICI)V"⟩ : MethodName)) hown (mvT hZ (hw _ (List.mem_of_getElem? (i := 6) rfl))) (mvT hZ (hw _ (List.mem_of_getElem? (i := 7) rfl))) (mvT hZ (hw _ (List.mem_of_getElem? (i := 4) rfl))) (mvT hZ (hw _ (List.mem_of_getElem? (i := 8) rfl))) (by decide) (backOf (W := 0) (rm_put l Z a0 hw [] a1 (4 : Int32) p2 p3 p4 p5 (kc) (N) ((FLP p2 p3 p4 p5 4)) ((.int (0 : Int32))) h51 n0 O0  V_a1 g_a1 (by decide) (by rw [flp_len]; decide)) hZ (hw _ (List.mem_of_getElem? (i := 8) rfl)) (hw _ (List.mem_of_getElem? (i := 4) rfl)) (by decide) (by decide)) (g := (mkF m 47 #[.val (.ref a1), .val (.int p2), .val (.int p3), .val (.int p4), .val (.int p5)] [(.int p5), (.int p4), (.int p3), (.int p2), (.int (4 : Int32)), (.ref a1)])) rfl (by rw [hml]; rfl) (argsL := [(.ref a1), (.int (4 : Int32)), (.int p2), (.int p3), (.int p4), (.int p5)]) (rest := []) (lenOf pd_9 rfl) rfl (by show 2 * 0 + _ ≤ _; exact Nat.le_of_eq rfl) (hb hby d_method_5_47) (fun _ _ => ⟨rfl, e51, (by decide : 0 + 0 ≤ _), (by decide : 0 + 0 ≤ _)⟩)
  dsimp only [Pt.U, Pt.locs, Pt.cells, Pt.slots] at X53 l53 y53 z53 st53 hQ53
  subst l53 y53 z53
  obtain ⟨h53, e53⟩ : ∃ z, T53.heap = z := ⟨_, rfl⟩
  rw [e53] at hQ53
  obtain ⟨rfl, Nq53, Kq53, V_a1_q53⟩ := hQ53
  replace N0 := Fr.app N0 Nq53
  clear V_a1
  replace O0 := O0.keep Kq53 (allS g_a1 all0)
  replace K0 := K0.trans Kq53 (allS (Or.inl (List.mem_of_getElem? (i := 0) rfl)) all0)
  have V_a1 := V_a1_q53
  refine Goes.step (T' := T53) (g' := (mkF m 50 #[.val (.ref a1), .val (.int p2), .val (.int p3), .val (.int p4), .val (.int p5)] [])) st53 ?_
  rw [flp_step (i := 4) (c := (4 : Int32)) (by decide) rfl (by decide)] at V_a1
  exact nx _ _ _ (X53.mono (by decide) (by decide)) e53 N0 K0 O0 V_a1
set_option maxRecDepth 65536 in
set_option maxHeartbeats 40000000 in
theorem fill_5 (l : Launch) (Z : State) (a0 : Array Value) (hw : ∀ d ∈ tables_1, d.before a0 Z = true) (p : Program) (e : Env) (s : State) (m : MethodId) (below : List Frame) (meth : Method) (c : Code) (Post : Outcome → State → Prop) (hx : p.tables.exec = Jvm.exec) (hby : c.code = method_5_code) (hml : c.maxLocals = 5) (hown : s.vm.findClass "com/example/tariff/tariff/core/decimal/PlainDecimalIsBoundedPinLaw" = some m.cls) (hZ : Z.Warmed39 s.vm) (a1 : Addr) (p2 : Int32) (p3 : Int32) (p4 : Int32) (p5 : Int32) (kc : ClassId) (N : Int32) (h0 : Heap) (n0 : Nat) (g_a1 : n0 ≤ a1)  (T54 : State) (h54 : Heap) (locs54 : List Loc) (X54 : Stand p l e ({ frames := 2, cells := 0, slots := 0, locals := 35 } : Room) s m #[(.ref a1), (.int p2), (.int p3), (.int p4), (.int p5)] below meth c T54 locs54 0 0) (e54 : T54.heap = h54) (N0 : Fr n0 locs54) (K0 : Keep h0 h54 [a1]) (O0 : Old Z n0 h54) (V_a1 : Arv Z h54 a1 kc .char N (FLP p2 p3 p4 p5 5) (.int (0 : Int32))) (nx : ∀ (T55 : State) (h55 : Heap) (locs55 : List Loc) (X55 : Stand p l e ({ frames := 2, cells := 0, slots := 0, locals := 35 } : Room) s m #[(.ref a1), (.int p2), (.int p3), (.int p4), (.int p5)] below meth c T55 locs55 0 0) (e55 : T55.heap = h55) (N0 : Fr n0 locs55) (K0 : Keep h0 h55 [a1]) (O0 : Old Z n0 h55) (V_a1 : Arv Z h55 a1 kc .char N (FLP p2 p3 p4 p5 6) (.int (0 : Int32))), Goes p e below Post T55 (mkF m 60 #[.val (.ref a1), .val (.int p2), .val (.int p3), .val (.int p4), .val (.int p5)] [])) :
    Goes p e below Post T54 (mkF m 50 #[.val (.ref a1), .val (.int p2), .val (.int p3), .val (.int p4), .val (.int p5)] []) := by
  refine Goes.step (T' := T54) (g' := (mkF m 51 #[.val (.ref a1), .val (.int p2), .val (.int p3), .val (.int p4), .val (.int p5)] [(.ref a1)])) (fun _ kz => XS.aloadN X54.here hx rfl (hb hby d_method_5_50) rfl rfl kz) ?_
  refine Goes.step (T' := T54) (g' := (mkF m 52 #[.val (.ref a1), .val (.int p2), .val (.int p3), .val (.int p4), .val (.int p5)] [(.int (5 : Int32)), (.ref a1)])) (fun _ kz => XS.iconst X54.here hx rfl (hb hby d_method_5_51) kz) ?_
  refine Goes.step (T' := T54) (g' := (mkF m 53 #[.val (.ref a1), .val (.int p2), .val (.int p3), .val (.int p4), .val (.int p5)] [(.int p2), (.int (5 : Int32)), (.ref a1)])) (fun _ kz => XS.iloadN X54.here hx rfl (hb hby d_method_5_52) rfl  kz) ?_
  refine Goes.step (T' := T54) (g' := (mkF m 54 #[.val (.ref a1), .val (.int p2), .val (.int p3), .val (.int p4), .val (.int p5)] [(.int p3), (.int p2), (.int (5 : Int32)), (.ref a1)])) (fun _ kz => XS.iloadN X54.here hx rfl (hb hby d_method_5_53) rfl  kz) ?_
  refine Goes.step (T' := T54) (g' := (mkF m 55 #[.val (.ref a1), .val (.int p2), .val (.int p3), .val (.int p4), .val (.int p5)] [(.int p4), (.int p3), (.int p2), (.int (5 : Int32)), (.ref a1)])) (fun _ kz => XS.iloadN X54.here hx rfl (hb hby d_method_5_54) rfl  kz) ?_
  refine Goes.step (T' := T54) (g' := (mkF m 57 #[.val (.ref a1), .val (.int p2), .val (.int p3), .val (.int p4), .val (.int p5)] [(.int p5), (.int p4), (.int p3), (.int p2), (.int (5 : Int32)), (.ref a1)])) (fun _ kz => XS.iload X54.here hx rfl (hb hby d_method_5_55) rfl  kz) ?_
  obtain ⟨_, _, ⟨T56, L56, k56, n56⟩, -, X56, ⟨Lc56, hQ56, l56, y56, z56⟩, st56⟩ := Jvm.LawKit.callS X54 hx (y := (⟨"com/example/tariff/tariff/core/decimal/PlainDecimalIsBoundedPinLaw", "put", "([CIIICI)V"⟩ : MethodName)) hown (mvT hZ (hw _ (List.mem_of_getElem? (i := 6) rfl))) (mvT hZ (hw _ (List.mem_of_getElem? (i := 7) rfl))) (mvT hZ (hw _ (List.mem_of_getElem? (i := 4) rfl))) (mvT hZ (hw _ (List.mem_of_getElem? (i := 8) rfl))) (by decide) (backOf (W := 0) (rm_put l Z a0 hw [] a1 (5 : Int32) p2 p3 p4 p5 (kc) (N) ((FLP p2 p3 p4 p5 5)) ((.int (0 : Int32))) h54 n0 O0  V_a1 g_a1 (by decide) (by rw [flp_len]; decide)) hZ (hw _ (List.mem_of_getElem? (i := 8) rfl)) (hw _ (List.mem_of_getElem? (i := 4) rfl)) (by decide) (by decide)) (g := (mkF m 57 #[.val (.ref a1), .val (.int p2), .val (.int p3), .val (.int p4), .val (.int p5)] [(.int p5), (.int p4), (.int p3), (.int p2), (.int (5 : Int32)), (.ref a1)])) rfl (by rw [hml]; rfl) (argsL := [(.ref a1), (.int (5 : Int32)), (.int p2), (.int p3), (.int p4), (.int p5)]) (rest := []) (lenOf pd_9 rfl) rfl (by show 2 * 0 + _ ≤ _; exact Nat.le_of_eq rfl) (hb hby d_method_5_57) (fun _ _ => ⟨rfl, e54, (by decide : 0 + 0 ≤ _), (by decide : 0 + 0 ≤ _)⟩)
  dsimp only [Pt.U, Pt.locs, Pt.cells, Pt.slots] at X56 l56 y56 z56 st56 hQ56
  subst l56 y56 z56
  obtain ⟨h56, e56⟩ : ∃ z, T56.heap = z := ⟨_, rfl⟩
  rw [e56] at hQ56
  obtain ⟨rfl, Nq56, Kq56, V_a1_q56⟩ := hQ56
  replace N0 := Fr.app N0 Nq56
  clear V_a1
  replace O0 := O0.keep Kq56 (allS g_a1 all0)
  replace K0 := K0.trans Kq56 (allS (Or.inl (List.mem_of_getElem? (i := 0) rfl)) all0)
  have V_a1 := V_a1_q56
  refine Goes.step (T' := T56) (g' := (mkF m 60 #[.val (.ref a1), .val (.int p2), .val (.int p3), .val (.int p4), .val (.int p5)] [])) st56 ?_
  rw [flp_step (i := 5) (c := (5 : Int32)) (by decide) rfl (by decide)] at V_a1
  exact nx _ _ _ (X56.mono (by decide) (by decide)) e56 N0 K0 O0 V_a1
set_option maxRecDepth 65536 in
set_option maxHeartbeats 40000000 in
theorem fill_6 (l : Launch) (Z : State) (a0 : Array Value) (hw : ∀ d ∈ tables_1, d.before a0 Z = true) (p : Program) (e : Env) (s : State) (m : MethodId) (below : List Frame) (meth : Method) (c : Code) (Post : Outcome → State → Prop) (hx : p.tables.exec = Jvm.exec) (hby : c.code = method_5_code) (hml : c.maxLocals = 5) (hown : s.vm.findClass "com/example/tariff/tariff/core/decimal/PlainDecimalIsBoundedPinLaw" = some m.cls) (hZ : Z.Warmed39 s.vm) (a1 : Addr) (p2 : Int32) (p3 : Int32) (p4 : Int32) (p5 : Int32) (kc : ClassId) (N : Int32) (h0 : Heap) (n0 : Nat) (g_a1 : n0 ≤ a1)  (T57 : State) (h57 : Heap) (locs57 : List Loc) (X57 : Stand p l e ({ frames := 2, cells := 0, slots := 0, locals := 35 } : Room) s m #[(.ref a1), (.int p2), (.int p3), (.int p4), (.int p5)] below meth c T57 locs57 0 0) (e57 : T57.heap = h57) (N0 : Fr n0 locs57) (K0 : Keep h0 h57 [a1]) (O0 : Old Z n0 h57) (V_a1 : Arv Z h57 a1 kc .char N (FLP p2 p3 p4 p5 6) (.int (0 : Int32))) (nx : ∀ (T58 : State) (h58 : Heap) (locs58 : List Loc) (X58 : Stand p l e ({ frames := 2, cells := 0, slots := 0, locals := 35 } : Room) s m #[(.ref a1), (.int p2), (.int p3), (.int p4), (.int p5)] below meth c T58 locs58 0 0) (e58 : T58.heap = h58) (N0 : Fr n0 locs58) (K0 : Keep h0 h58 [a1]) (O0 : Old Z n0 h58) (V_a1 : Arv Z h58 a1 kc .char N (FLP p2 p3 p4 p5 7) (.int (0 : Int32))), Goes p e below Post T58 (mkF m 71 #[.val (.ref a1), .val (.int p2), .val (.int p3), .val (.int p4), .val (.int p5)] [])) :
    Goes p e below Post T57 (mkF m 60 #[.val (.ref a1), .val (.int p2), .val (.int p3), .val (.int p4), .val (.int p5)] []) := by
  refine Goes.step (T' := T57) (g' := (mkF m 61 #[.val (.ref a1), .val (.int p2), .val (.int p3), .val (.int p4), .val (.int p5)] [(.ref a1)])) (fun _ kz => XS.aloadN X57.here hx rfl (hb hby d_method_5_60) rfl rfl kz) ?_
  refine Goes.step (T' := T57) (g' := (mkF m 63 #[.val (.ref a1), .val (.int p2), .val (.int p3), .val (.int p4), .val (.int p5)] [(.int (6 : Int32)), (.ref a1)])) (fun _ kz => XS.bipush X57.here hx rfl (hb hby d_method_5_61) kz) ?_
  refine Goes.step (T' := T57) (g' := (mkF m 64 #[.val (.ref a1), .val (.int p2), .val (.int p3), .val (.int p4), .val (.int p5)] [(.int p2), (.int (6 : Int32)), (.ref a1)])) (fun _ kz => XS.iloadN X57.here hx rfl (hb hby d_method_5_63) rfl  kz) ?_
  refine Goes.step (T' := T57) (g' := (mkF m 65 #[.val (.ref a1), .val (.int p2), .val (.int p3), .val (.int p4), .val (.int p5)] [(.int p3), (.int p2), (.int (6 : Int32)), (.ref a1)])) (fun _ kz => XS.iloadN X57.here hx rfl (hb hby d_method_5_64) rfl  kz) ?_
  refine Goes.step (T' := T57) (g' := (mkF m 66 #[.val (.ref a1), .val (.int p2), .val (.int p3), .val (.int p4), .val (.int p5)] [(.int p4), (.int p3), (.int p2), (.int (6 : Int32)), (.ref a1)])) (fun _ kz => XS.iloadN X57.here hx rfl (hb hby d_method_5_65) rfl  kz) ?_
  refine Goes.step (T' := T57) (g' := (mkF m 68 #[.val (.ref a1), .val (.int p2), .val (.int p3), .val (.int p4), .val (.int p5)] [(.int p5), (.int p4), (.int p3), (.int p2), (.int (6 : Int32)), (.ref a1)])) (fun _ kz => XS.iload X57.here hx rfl (hb hby d_method_5_66) rfl  kz) ?_
  obtain ⟨_, _, ⟨T59, L59, k59, n59⟩, -, X59, ⟨Lc59, hQ59, l59, y59, z59⟩, st59⟩ := Jvm.LawKit.callS X57 hx (y := (⟨"com/example/tariff/tariff/core/decimal/PlainDecimalIsBoundedPinLaw", "put", "([CIIICI)V"⟩ : MethodName)) hown (mvT hZ (hw _ (List.mem_of_getElem? (i := 6) rfl))) (mvT hZ (hw _ (List.mem_of_getElem? (i := 7) rfl))) (mvT hZ (hw _ (List.mem_of_getElem? (i := 4) rfl))) (mvT hZ (hw _ (List.mem_of_getElem? (i := 8) rfl))) (by decide) (backOf (W := 0) (rm_put l Z a0 hw [] a1 (6 : Int32) p2 p3 p4 p5 (kc) (N) ((FLP p2 p3 p4 p5 6)) ((.int (0 : Int32))) h57 n0 O0  V_a1 g_a1 (by decide) (by rw [flp_len]; decide)) hZ (hw _ (List.mem_of_getElem? (i := 8) rfl)) (hw _ (List.mem_of_getElem? (i := 4) rfl)) (by decide) (by decide)) (g := (mkF m 68 #[.val (.ref a1), .val (.int p2), .val (.int p3), .val (.int p4), .val (.int p5)] [(.int p5), (.int p4), (.int p3), (.int p2), (.int (6 : Int32)), (.ref a1)])) rfl (by rw [hml]; rfl) (argsL := [(.ref a1), (.int (6 : Int32)), (.int p2), (.int p3), (.int p4), (.int p5)]) (rest := []) (lenOf pd_9 rfl) rfl (by show 2 * 0 + _ ≤ _; exact Nat.le_of_eq rfl) (hb hby d_method_5_68) (fun _ _ => ⟨rfl, e57, (by decide : 0 + 0 ≤ _), (by decide : 0 + 0 ≤ _)⟩)
  dsimp only [Pt.U, Pt.locs, Pt.cells, Pt.slots] at X59 l59 y59 z59 st59 hQ59
  subst l59 y59 z59
  obtain ⟨h59, e59⟩ : ∃ z, T59.heap = z := ⟨_, rfl⟩
  rw [e59] at hQ59
  obtain ⟨rfl, Nq59, Kq59, V_a1_q59⟩ := hQ59
  replace N0 := Fr.app N0 Nq59
  clear V_a1
  replace O0 := O0.keep Kq59 (allS g_a1 all0)
  replace K0 := K0.trans Kq59 (allS (Or.inl (List.mem_of_getElem? (i := 0) rfl)) all0)
  have V_a1 := V_a1_q59
  refine Goes.step (T' := T59) (g' := (mkF m 71 #[.val (.ref a1), .val (.int p2), .val (.int p3), .val (.int p4), .val (.int p5)] [])) st59 ?_
  rw [flp_step (i := 6) (c := (6 : Int32)) (by decide) rfl (by decide)] at V_a1
  exact nx _ _ _ (X59.mono (by decide) (by decide)) e59 N0 K0 O0 V_a1
set_option maxRecDepth 65536 in
set_option maxHeartbeats 40000000 in
theorem fill_7 (l : Launch) (Z : State) (a0 : Array Value) (hw : ∀ d ∈ tables_1, d.before a0 Z = true) (p : Program) (e : Env) (s : State) (m : MethodId) (below : List Frame) (meth : Method) (c : Code) (Post : Outcome → State → Prop) (hx : p.tables.exec = Jvm.exec) (hby : c.code = method_5_code) (hml : c.maxLocals = 5) (hown : s.vm.findClass "com/example/tariff/tariff/core/decimal/PlainDecimalIsBoundedPinLaw" = some m.cls) (hZ : Z.Warmed39 s.vm) (a1 : Addr) (p2 : Int32) (p3 : Int32) (p4 : Int32) (p5 : Int32) (kc : ClassId) (N : Int32) (h0 : Heap) (n0 : Nat) (g_a1 : n0 ≤ a1)  (T60 : State) (h60 : Heap) (locs60 : List Loc) (X60 : Stand p l e ({ frames := 2, cells := 0, slots := 0, locals := 35 } : Room) s m #[(.ref a1), (.int p2), (.int p3), (.int p4), (.int p5)] below meth c T60 locs60 0 0) (e60 : T60.heap = h60) (N0 : Fr n0 locs60) (K0 : Keep h0 h60 [a1]) (O0 : Old Z n0 h60) (V_a1 : Arv Z h60 a1 kc .char N (FLP p2 p3 p4 p5 7) (.int (0 : Int32))) (nx : ∀ (T61 : State) (h61 : Heap) (locs61 : List Loc) (X61 : Stand p l e ({ frames := 2, cells := 0, slots := 0, locals := 35 } : Room) s m #[(.ref a1), (.int p2), (.int p3), (.int p4), (.int p5)] below meth c T61 locs61 0 0) (e61 : T61.heap = h61) (N0 : Fr n0 locs61) (K0 : Keep h0 h61 [a1]) (O0 : Old Z n0 h61) (V_a1 : Arv Z h61 a1 kc .char N (FLP p2 p3 p4 p5 8) (.int (0 : Int32))), Goes p e below Post T61 (mkF m 82 #[.val (.ref a1), .val (.int p2), .val (.int p3), .val (.int p4), .val (.int p5)] [])) :
    Goes p e below Post T60 (mkF m 71 #[.val (.ref a1), .val (.int p2), .val (.int p3), .val (.int p4), .val (.int p5)] []) := by
  refine Goes.step (T' := T60) (g' := (mkF m 72 #[.val (.ref a1), .val (.int p2), .val (.int p3), .val (.int p4), .val (.int p5)] [(.ref a1)])) (fun _ kz => XS.aloadN X60.here hx rfl (hb hby d_method_5_71) rfl rfl kz) ?_
  refine Goes.step (T' := T60) (g' := (mkF m 74 #[.val (.ref a1), .val (.int p2), .val (.int p3), .val (.int p4), .val (.int p5)] [(.int (7 : Int32)), (.ref a1)])) (fun _ kz => XS.bipush X60.here hx rfl (hb hby d_method_5_72) kz) ?_
  refine Goes.step (T' := T60) (g' := (mkF m 75 #[.val (.ref a1), .val (.int p2), .val (.int p3), .val (.int p4), .val (.int p5)] [(.int p2), (.int (7 : Int32)), (.ref a1)])) (fun _ kz => XS.iloadN X60.here hx rfl (hb hby d_method_5_74) rfl  kz) ?_
  refine Goes.step (T' := T60) (g' := (mkF m 76 #[.val (.ref a1), .val (.int p2), .val (.int p3), .val (.int p4), .val (.int p5)] [(.int p3), (.int p2), (.int (7 : Int32)), (.ref a1)])) (fun _ kz => XS.iloadN X60.here hx rfl (hb hby d_method_5_75) rfl  kz) ?_
  refine Goes.step (T' := T60) (g' := (mkF m 77 #[.val (.ref a1), .val (.int p2), .val (.int p3), .val (.int p4), .val (.int p5)] [(.int p4), (.int p3), (.int p2), (.int (7 : Int32)), (.ref a1)])) (fun _ kz => XS.iloadN X60.here hx rfl (hb hby d_method_5_76) rfl  kz) ?_
  refine Goes.step (T' := T60) (g' := (mkF m 79 #[.val (.ref a1), .val (.int p2), .val (.int p3), .val (.int p4), .val (.int p5)] [(.int p5), (.int p4), (.int p3), (.int p2), (.int (7 : Int32)), (.ref a1)])) (fun _ kz => XS.iload X60.here hx rfl (hb hby d_method_5_77) rfl  kz) ?_
  obtain ⟨_, _, ⟨T62, L62, k62, n62⟩, -, X62, ⟨Lc62, hQ62, l62, y62, z62⟩, st62⟩ := Jvm.LawKit.callS X60 hx (y := (⟨"com/example/tariff/tariff/core/decimal/PlainDecimalIsBoundedPinLaw", "put", "([CIIICI)V"⟩ : MethodName)) hown (mvT hZ (hw _ (List.mem_of_getElem? (i := 6) rfl))) (mvT hZ (hw _ (List.mem_of_getElem? (i := 7) rfl))) (mvT hZ (hw _ (List.mem_of_getElem? (i := 4) rfl))) (mvT hZ (hw _ (List.mem_of_getElem? (i := 8) rfl))) (by decide) (backOf (W := 0) (rm_put l Z a0 hw [] a1 (7 : Int32) p2 p3 p4 p5 (kc) (N) ((FLP p2 p3 p4 p5 7)) ((.int (0 : Int32))) h60 n0 O0  V_a1 g_a1 (by decide) (by rw [flp_len]; decide)) hZ (hw _ (List.mem_of_getElem? (i := 8) rfl)) (hw _ (List.mem_of_getElem? (i := 4) rfl)) (by decide) (by decide)) (g := (mkF m 79 #[.val (.ref a1), .val (.int p2), .val (.int p3), .val (.int p4), .val (.int p5)] [(.int p5), (.int p4), (.int p3), (.int p2), (.int (7 : Int32)), (.ref a1)])) rfl (by rw [hml]; rfl) (argsL := [(.ref a1), (.int (7 : Int32)), (.int p2), (.int p3), (.int p4), (.int p5)]) (rest := []) (lenOf pd_9 rfl) rfl (by show 2 * 0 + _ ≤ _; exact Nat.le_of_eq rfl) (hb hby d_method_5_79) (fun _ _ => ⟨rfl, e60, (by decide : 0 + 0 ≤ _), (by decide : 0 + 0 ≤ _)⟩)
  dsimp only [Pt.U, Pt.locs, Pt.cells, Pt.slots] at X62 l62 y62 z62 st62 hQ62
  subst l62 y62 z62
  obtain ⟨h62, e62⟩ : ∃ z, T62.heap = z := ⟨_, rfl⟩
  rw [e62] at hQ62
  obtain ⟨rfl, Nq62, Kq62, V_a1_q62⟩ := hQ62
  replace N0 := Fr.app N0 Nq62
  clear V_a1
  replace O0 := O0.keep Kq62 (allS g_a1 all0)
  replace K0 := K0.trans Kq62 (allS (Or.inl (List.mem_of_getElem? (i := 0) rfl)) all0)
  have V_a1 := V_a1_q62
  refine Goes.step (T' := T62) (g' := (mkF m 82 #[.val (.ref a1), .val (.int p2), .val (.int p3), .val (.int p4), .val (.int p5)] [])) st62 ?_
  rw [flp_step (i := 7) (c := (7 : Int32)) (by decide) rfl (by decide)] at V_a1
  exact nx _ _ _ (X62.mono (by decide) (by decide)) e62 N0 K0 O0 V_a1
set_option maxRecDepth 65536 in
set_option maxHeartbeats 40000000 in
theorem fill_8 (l : Launch) (Z : State) (a0 : Array Value) (hw : ∀ d ∈ tables_1, d.before a0 Z = true) (p : Program) (e : Env) (s : State) (m : MethodId) (below : List Frame) (meth : Method) (c : Code) (Post : Outcome → State → Prop) (hx : p.tables.exec = Jvm.exec) (hby : c.code = method_5_code) (hml : c.maxLocals = 5) (hown : s.vm.findClass "com/example/tariff/tariff/core/decimal/PlainDecimalIsBoundedPinLaw" = some m.cls) (hZ : Z.Warmed39 s.vm) (a1 : Addr) (p2 : Int32) (p3 : Int32) (p4 : Int32) (p5 : Int32) (kc : ClassId) (N : Int32) (h0 : Heap) (n0 : Nat) (g_a1 : n0 ≤ a1)  (T63 : State) (h63 : Heap) (locs63 : List Loc) (X63 : Stand p l e ({ frames := 2, cells := 0, slots := 0, locals := 35 } : Room) s m #[(.ref a1), (.int p2), (.int p3), (.int p4), (.int p5)] below meth c T63 locs63 0 0) (e63 : T63.heap = h63) (N0 : Fr n0 locs63) (K0 : Keep h0 h63 [a1]) (O0 : Old Z n0 h63) (V_a1 : Arv Z h63 a1 kc .char N (FLP p2 p3 p4 p5 8) (.int (0 : Int32))) (nx : ∀ (T64 : State) (h64 : Heap) (locs64 : List Loc) (X64 : Stand p l e ({ frames := 2, cells := 0, slots := 0, locals := 35 } : Room) s m #[(.ref a1), (.int p2), (.int p3), (.int p4), (.int p5)] below meth c T64 locs64 0 0) (e64 : T64.heap = h64) (N0 : Fr n0 locs64) (K0 : Keep h0 h64 [a1]) (O0 : Old Z n0 h64) (V_a1 : Arv Z h64 a1 kc .char N (FLP p2 p3 p4 p5 9) (.int (0 : Int32))), Goes p e below Post T64 (mkF m 93 #[.val (.ref a1), .val (.int p2), .val (.int p3), .val (.int p4), .val (.int p5)] [])) :
    Goes p e below Post T63 (mkF m 82 #[.val (.ref a1), .val (.int p2), .val (.int p3), .val (.int p4), .val (.int p5)] []) := by
  refine Goes.step (T' := T63) (g' := (mkF m 83 #[.val (.ref a1), .val (.int p2), .val (.int p3), .val (.int p4), .val (.int p5)] [(.ref a1)])) (fun _ kz => XS.aloadN X63.here hx rfl (hb hby d_method_5_82) rfl rfl kz) ?_
  refine Goes.step (T' := T63) (g' := (mkF m 85 #[.val (.ref a1), .val (.int p2), .val (.int p3), .val (.int p4), .val (.int p5)] [(.int (8 : Int32)), (.ref a1)])) (fun _ kz => XS.bipush X63.here hx rfl (hb hby d_method_5_83) kz) ?_
  refine Goes.step (T' := T63) (g' := (mkF m 86 #[.val (.ref a1), .val (.int p2), .val (.int p3), .val (.int p4), .val (.int p5)] [(.int p2), (.int (8 : Int32)), (.ref a1)])) (fun _ kz => XS.iloadN X63.here hx rfl (hb hby d_method_5_85) rfl  kz) ?_
  refine Goes.step (T' := T63) (g' := (mkF m 87 #[.val (.ref a1), .val (.int p2), .val (.int p3), .val (.int p4), .val (.int p5)] [(.int p3), (.int p2), (.int (8 : Int32)), (.ref a1)])) (fun _ kz => XS.iloadN X63.here hx rfl (hb hby d_method_5_86) rfl  kz) ?_
  refine Goes.step (T' := T63) (g' := (mkF m 88 #[.val (.ref a1), .val (.int p2), .val (.int p3), .val (.int p4), .val (.int p5)] [(.int p4), (.int p3), (.int p2), (.int (8 : Int32)), (.ref a1)])) (fun _ kz => XS.iloadN X63.here hx rfl (hb hby d_method_5_87) rfl  kz) ?_
  refine Goes.step (T' := T63) (g' := (mkF m 90 #[.val (.ref a1), .val (.int p2), .val (.int p3), .val (.int p4), .val (.int p5)] [(.int p5), (.int p4), (.int p3), (.int p2), (.int (8 : Int32)), (.ref a1)])) (fun _ kz => XS.iload X63.here hx rfl (hb hby d_method_5_88) rfl  kz) ?_
  obtain ⟨_, _, ⟨T65, L65, k65, n65⟩, -, X65, ⟨Lc65, hQ65, l65, y65, z65⟩, st65⟩ := Jvm.LawKit.callS X63 hx (y := (⟨"com/example/tariff/tariff/core/decimal/PlainDecimalIsBoundedPinLaw", "put", "([CIIICI)V"⟩ : MethodName)) hown (mvT hZ (hw _ (List.mem_of_getElem? (i := 6) rfl))) (mvT hZ (hw _ (List.mem_of_getElem? (i := 7) rfl))) (mvT hZ (hw _ (List.mem_of_getElem? (i := 4) rfl))) (mvT hZ (hw _ (List.mem_of_getElem? (i := 8) rfl))) (by decide) (backOf (W := 0) (rm_put l Z a0 hw [] a1 (8 : Int32) p2 p3 p4 p5 (kc) (N) ((FLP p2 p3 p4 p5 8)) ((.int (0 : Int32))) h63 n0 O0  V_a1 g_a1 (by decide) (by rw [flp_len]; decide)) hZ (hw _ (List.mem_of_getElem? (i := 8) rfl)) (hw _ (List.mem_of_getElem? (i := 4) rfl)) (by decide) (by decide)) (g := (mkF m 90 #[.val (.ref a1), .val (.int p2), .val (.int p3), .val (.int p4), .val (.int p5)] [(.int p5), (.int p4), (.int p3), (.int p2), (.int (8 : Int32)), (.ref a1)])) rfl (by rw [hml]; rfl) (argsL := [(.ref a1), (.int (8 : Int32)), (.int p2), (.int p3), (.int p4), (.int p5)]) (rest := []) (lenOf pd_9 rfl) rfl (by show 2 * 0 + _ ≤ _; exact Nat.le_of_eq rfl) (hb hby d_method_5_90) (fun _ _ => ⟨rfl, e63, (by decide : 0 + 0 ≤ _), (by decide : 0 + 0 ≤ _)⟩)
  dsimp only [Pt.U, Pt.locs, Pt.cells, Pt.slots] at X65 l65 y65 z65 st65 hQ65
  subst l65 y65 z65
  obtain ⟨h65, e65⟩ : ∃ z, T65.heap = z := ⟨_, rfl⟩
  rw [e65] at hQ65
  obtain ⟨rfl, Nq65, Kq65, V_a1_q65⟩ := hQ65
  replace N0 := Fr.app N0 Nq65
  clear V_a1
  replace O0 := O0.keep Kq65 (allS g_a1 all0)
  replace K0 := K0.trans Kq65 (allS (Or.inl (List.mem_of_getElem? (i := 0) rfl)) all0)
  have V_a1 := V_a1_q65
  refine Goes.step (T' := T65) (g' := (mkF m 93 #[.val (.ref a1), .val (.int p2), .val (.int p3), .val (.int p4), .val (.int p5)] [])) st65 ?_
  rw [flp_step (i := 8) (c := (8 : Int32)) (by decide) rfl (by decide)] at V_a1
  exact nx _ _ _ (X65.mono (by decide) (by decide)) e65 N0 K0 O0 V_a1
set_option maxRecDepth 65536 in
set_option maxHeartbeats 40000000 in
theorem fill_9 (l : Launch) (Z : State) (a0 : Array Value) (hw : ∀ d ∈ tables_1, d.before a0 Z = true) (p : Program) (e : Env) (s : State) (m : MethodId) (below : List Frame) (meth : Method) (c : Code) (Post : Outcome → State → Prop) (hx : p.tables.exec = Jvm.exec) (hby : c.code = method_5_code) (hml : c.maxLocals = 5) (hown : s.vm.findClass "com/example/tariff/tariff/core/decimal/PlainDecimalIsBoundedPinLaw" = some m.cls) (hZ : Z.Warmed39 s.vm) (a1 : Addr) (p2 : Int32) (p3 : Int32) (p4 : Int32) (p5 : Int32) (kc : ClassId) (N : Int32) (h0 : Heap) (n0 : Nat) (g_a1 : n0 ≤ a1)  (T66 : State) (h66 : Heap) (locs66 : List Loc) (X66 : Stand p l e ({ frames := 2, cells := 0, slots := 0, locals := 35 } : Room) s m #[(.ref a1), (.int p2), (.int p3), (.int p4), (.int p5)] below meth c T66 locs66 0 0) (e66 : T66.heap = h66) (N0 : Fr n0 locs66) (K0 : Keep h0 h66 [a1]) (O0 : Old Z n0 h66) (V_a1 : Arv Z h66 a1 kc .char N (FLP p2 p3 p4 p5 9) (.int (0 : Int32))) (nx : ∀ (T67 : State) (h67 : Heap) (locs67 : List Loc) (X67 : Stand p l e ({ frames := 2, cells := 0, slots := 0, locals := 35 } : Room) s m #[(.ref a1), (.int p2), (.int p3), (.int p4), (.int p5)] below meth c T67 locs67 0 0) (e67 : T67.heap = h67) (N0 : Fr n0 locs67) (K0 : Keep h0 h67 [a1]) (O0 : Old Z n0 h67) (V_a1 : Arv Z h67 a1 kc .char N (FLP p2 p3 p4 p5 10) (.int (0 : Int32))), Goes p e below Post T67 (mkF m 104 #[.val (.ref a1), .val (.int p2), .val (.int p3), .val (.int p4), .val (.int p5)] [])) :
    Goes p e below Post T66 (mkF m 93 #[.val (.ref a1), .val (.int p2), .val (.int p3), .val (.int p4), .val (.int p5)] []) := by
  refine Goes.step (T' := T66) (g' := (mkF m 94 #[.val (.ref a1), .val (.int p2), .val (.int p3), .val (.int p4), .val (.int p5)] [(.ref a1)])) (fun _ kz => XS.aloadN X66.here hx rfl (hb hby d_method_5_93) rfl rfl kz) ?_
  refine Goes.step (T' := T66) (g' := (mkF m 96 #[.val (.ref a1), .val (.int p2), .val (.int p3), .val (.int p4), .val (.int p5)] [(.int (9 : Int32)), (.ref a1)])) (fun _ kz => XS.bipush X66.here hx rfl (hb hby d_method_5_94) kz) ?_
  refine Goes.step (T' := T66) (g' := (mkF m 97 #[.val (.ref a1), .val (.int p2), .val (.int p3), .val (.int p4), .val (.int p5)] [(.int p2), (.int (9 : Int32)), (.ref a1)])) (fun _ kz => XS.iloadN X66.here hx rfl (hb hby d_method_5_96) rfl  kz) ?_
  refine Goes.step (T' := T66) (g' := (mkF m 98 #[.val (.ref a1), .val (.int p2), .val (.int p3), .val (.int p4), .val (.int p5)] [(.int p3), (.int p2), (.int (9 : Int32)), (.ref a1)])) (fun _ kz => XS.iloadN X66.here hx rfl (hb hby d_method_5_97) rfl  kz) ?_
  refine Goes.step (T' := T66) (g' := (mkF m 99 #[.val (.ref a1), .val (.int p2), .val (.int p3), .val (.int p4), .val (.int p5)] [(.int p4), (.int p3), (.int p2), (.int (9 : Int32)), (.ref a1)])) (fun _ kz => XS.iloadN X66.here hx rfl (hb hby d_method_5_98) rfl  kz) ?_
  refine Goes.step (T' := T66) (g' := (mkF m 101 #[.val (.ref a1), .val (.int p2), .val (.int p3), .val (.int p4), .val (.int p5)] [(.int p5), (.int p4), (.int p3), (.int p2), (.int (9 : Int32)), (.ref a1)])) (fun _ kz => XS.iload X66.here hx rfl (hb hby d_method_5_99) rfl  kz) ?_
  obtain ⟨_, _, ⟨T68, L68, k68, n68⟩, -, X68, ⟨Lc68, hQ68, l68, y68, z68⟩, st68⟩ := Jvm.LawKit.callS X66 hx (y := (⟨"com/example/tariff/tariff/core/decimal/PlainDecimalIsBoundedPinLaw", "put", "([CIIICI)V"⟩ : MethodName)) hown (mvT hZ (hw _ (List.mem_of_getElem? (i := 6) rfl))) (mvT hZ (hw _ (List.mem_of_getElem? (i := 7) rfl))) (mvT hZ (hw _ (List.mem_of_getElem? (i := 4) rfl))) (mvT hZ (hw _ (List.mem_of_getElem? (i := 8) rfl))) (by decide) (backOf (W := 0) (rm_put l Z a0 hw [] a1 (9 : Int32) p2 p3 p4 p5 (kc) (N) ((FLP p2 p3 p4 p5 9)) ((.int (0 : Int32))) h66 n0 O0  V_a1 g_a1 (by decide) (by rw [flp_len]; decide)) hZ (hw _ (List.mem_of_getElem? (i := 8) rfl)) (hw _ (List.mem_of_getElem? (i := 4) rfl)) (by decide) (by decide)) (g := (mkF m 101 #[.val (.ref a1), .val (.int p2), .val (.int p3), .val (.int p4), .val (.int p5)] [(.int p5), (.int p4), (.int p3), (.int p2), (.int (9 : Int32)), (.ref a1)])) rfl (by rw [hml]; rfl) (argsL := [(.ref a1), (.int (9 : Int32)), (.int p2), (.int p3), (.int p4), (.int p5)]) (rest := []) (lenOf pd_9 rfl) rfl (by show 2 * 0 + _ ≤ _; exact Nat.le_of_eq rfl) (hb hby d_method_5_101) (fun _ _ => ⟨rfl, e66, (by decide : 0 + 0 ≤ _), (by decide : 0 + 0 ≤ _)⟩)
  dsimp only [Pt.U, Pt.locs, Pt.cells, Pt.slots] at X68 l68 y68 z68 st68 hQ68
  subst l68 y68 z68
  obtain ⟨h68, e68⟩ : ∃ z, T68.heap = z := ⟨_, rfl⟩
  rw [e68] at hQ68
  obtain ⟨rfl, Nq68, Kq68, V_a1_q68⟩ := hQ68
  replace N0 := Fr.app N0 Nq68
  clear V_a1
  replace O0 := O0.keep Kq68 (allS g_a1 all0)
  replace K0 := K0.trans Kq68 (allS (Or.inl (List.mem_of_getElem? (i := 0) rfl)) all0)
  have V_a1 := V_a1_q68
  refine Goes.step (T' := T68) (g' := (mkF m 104 #[.val (.ref a1), .val (.int p2), .val (.int p3), .val (.int p4), .val (.int p5)] [])) st68 ?_
  rw [flp_step (i := 9) (c := (9 : Int32)) (by decide) rfl (by decide)] at V_a1
  exact nx _ _ _ (X68.mono (by decide) (by decide)) e68 N0 K0 O0 V_a1
set_option maxRecDepth 65536 in
set_option maxHeartbeats 40000000 in
theorem fill_10 (l : Launch) (Z : State) (a0 : Array Value) (hw : ∀ d ∈ tables_1, d.before a0 Z = true) (p : Program) (e : Env) (s : State) (m : MethodId) (below : List Frame) (meth : Method) (c : Code) (Post : Outcome → State → Prop) (hx : p.tables.exec = Jvm.exec) (hby : c.code = method_5_code) (hml : c.maxLocals = 5) (hown : s.vm.findClass "com/example/tariff/tariff/core/decimal/PlainDecimalIsBoundedPinLaw" = some m.cls) (hZ : Z.Warmed39 s.vm) (a1 : Addr) (p2 : Int32) (p3 : Int32) (p4 : Int32) (p5 : Int32) (kc : ClassId) (N : Int32) (h0 : Heap) (n0 : Nat) (g_a1 : n0 ≤ a1)  (T69 : State) (h69 : Heap) (locs69 : List Loc) (X69 : Stand p l e ({ frames := 2, cells := 0, slots := 0, locals := 35 } : Room) s m #[(.ref a1), (.int p2), (.int p3), (.int p4), (.int p5)] below meth c T69 locs69 0 0) (e69 : T69.heap = h69) (N0 : Fr n0 locs69) (K0 : Keep h0 h69 [a1]) (O0 : Old Z n0 h69) (V_a1 : Arv Z h69 a1 kc .char N (FLP p2 p3 p4 p5 10) (.int (0 : Int32))) (nx : ∀ (T70 : State) (h70 : Heap) (locs70 : List Loc) (X70 : Stand p l e ({ frames := 2, cells := 0, slots := 0, locals := 35 } : Room) s m #[(.ref a1), (.int p2), (.int p3), (.int p4), (.int p5)] below meth c T70 locs70 0 0) (e70 : T70.heap = h70) (N0 : Fr n0 locs70) (K0 : Keep h0 h70 [a1]) (O0 : Old Z n0 h70) (V_a1 : Arv Z h70 a1 kc .char N (FLP p2 p3 p4 p5 11) (.int (0 : Int32))), Goes p e below Post T70 (mkF m 115 #[.val (.ref a1), .val (.int p2), .val (.int p3), .val (.int p4), .val (.int p5)] [])) :
    Goes p e below Post T69 (mkF m 104 #[.val (.ref a1), .val (.int p2), .val (.int p3), .val (.int p4), .val (.int p5)] []) := by
  refine Goes.step (T' := T69) (g' := (mkF m 105 #[.val (.ref a1), .val (.int p2), .val (.int p3), .val (.int p4), .val (.int p5)] [(.ref a1)])) (fun _ kz => XS.aloadN X69.here hx rfl (hb hby d_method_5_104) rfl rfl kz) ?_
  refine Goes.step (T' := T69) (g' := (mkF m 107 #[.val (.ref a1), .val (.int p2), .val (.int p3), .val (.int p4), .val (.int p5)] [(.int (10 : Int32)), (.ref a1)])) (fun _ kz => XS.bipush X69.here hx rfl (hb hby d_method_5_105) kz) ?_
  refine Goes.step (T' := T69) (g' := (mkF m 108 #[.val (.ref a1), .val (.int p2), .val (.int p3), .val (.int p4), .val (.int p5)] [(.int p2), (.int (10 : Int32)), (.ref a1)])) (fun _ kz => XS.iloadN X69.here hx rfl (hb hby d_method_5_107) rfl  kz) ?_
  refine Goes.step (T' := T69) (g' := (mkF m 109 #[.val (.ref a1), .val (.int p2), .val (.int p3), .val (.int p4), .val (.int p5)] [(.int p3), (.int p2), (.int (10 : Int32)), (.ref a1)])) (fun _ kz => XS.iloadN X69.here hx rfl (hb hby d_method_5_108) rfl  kz) ?_
  refine Goes.step (T' := T69) (g' := (mkF m 110 #[.val (.ref a1), .val (.int p2), .val (.int p3), .val (.int p4), .val (.int p5)] [(.int p4), (.int p3), (.int p2), (.int (10 : Int32)), (.ref a1)])) (fun _ kz => XS.iloadN X69.here hx rfl (hb hby d_method_5_109) rfl  kz) ?_
  refine Goes.step (T' := T69) (g' := (mkF m 112 #[.val (.ref a1), .val (.int p2), .val (.int p3), .val (.int p4), .val (.int p5)] [(.int p5), (.int p4), (.int p3), (.int p2), (.int (10 : Int32)), (.ref a1)])) (fun _ kz => XS.iload X69.here hx rfl (hb hby d_method_5_110) rfl  kz) ?_
  obtain ⟨_, _, ⟨T71, L71, k71, n71⟩, -, X71, ⟨Lc71, hQ71, l71, y71, z71⟩, st71⟩ := Jvm.LawKit.callS X69 hx (y := (⟨"com/example/tariff/tariff/core/decimal/PlainDecimalIsBoundedPinLaw", "put", "([CIIICI)V"⟩ : MethodName)) hown (mvT hZ (hw _ (List.mem_of_getElem? (i := 6) rfl))) (mvT hZ (hw _ (List.mem_of_getElem? (i := 7) rfl))) (mvT hZ (hw _ (List.mem_of_getElem? (i := 4) rfl))) (mvT hZ (hw _ (List.mem_of_getElem? (i := 8) rfl))) (by decide) (backOf (W := 0) (rm_put l Z a0 hw [] a1 (10 : Int32) p2 p3 p4 p5 (kc) (N) ((FLP p2 p3 p4 p5 10)) ((.int (0 : Int32))) h69 n0 O0  V_a1 g_a1 (by decide) (by rw [flp_len]; decide)) hZ (hw _ (List.mem_of_getElem? (i := 8) rfl)) (hw _ (List.mem_of_getElem? (i := 4) rfl)) (by decide) (by decide)) (g := (mkF m 112 #[.val (.ref a1), .val (.int p2), .val (.int p3), .val (.int p4), .val (.int p5)] [(.int p5), (.int p4), (.int p3), (.int p2), (.int (10 : Int32)), (.ref a1)])) rfl (by rw [hml]; rfl) (argsL := [(.ref a1), (.int (10 : Int32)), (.int p2), (.int p3), (.int p4), (.int p5)]) (rest := []) (lenOf pd_9 rfl) rfl (by show 2 * 0 + _ ≤ _; exact Nat.le_of_eq rfl) (hb hby d_method_5_112) (fun _ _ => ⟨rfl, e69, (by decide : 0 + 0 ≤ _), (by decide : 0 + 0 ≤ _)⟩)
  dsimp only [Pt.U, Pt.locs, Pt.cells, Pt.slots] at X71 l71 y71 z71 st71 hQ71
  subst l71 y71 z71
  obtain ⟨h71, e71⟩ : ∃ z, T71.heap = z := ⟨_, rfl⟩
  rw [e71] at hQ71
  obtain ⟨rfl, Nq71, Kq71, V_a1_q71⟩ := hQ71
  replace N0 := Fr.app N0 Nq71
  clear V_a1
  replace O0 := O0.keep Kq71 (allS g_a1 all0)
  replace K0 := K0.trans Kq71 (allS (Or.inl (List.mem_of_getElem? (i := 0) rfl)) all0)
  have V_a1 := V_a1_q71
  refine Goes.step (T' := T71) (g' := (mkF m 115 #[.val (.ref a1), .val (.int p2), .val (.int p3), .val (.int p4), .val (.int p5)] [])) st71 ?_
  rw [flp_step (i := 10) (c := (10 : Int32)) (by decide) rfl (by decide)] at V_a1
  exact nx _ _ _ (X71.mono (by decide) (by decide)) e71 N0 K0 O0 V_a1
set_option maxRecDepth 65536 in
set_option maxHeartbeats 40000000 in
theorem fill_11 (l : Launch) (Z : State) (a0 : Array Value) (hw : ∀ d ∈ tables_1, d.before a0 Z = true) (p : Program) (e : Env) (s : State) (m : MethodId) (below : List Frame) (meth : Method) (c : Code) (Post : Outcome → State → Prop) (hx : p.tables.exec = Jvm.exec) (hby : c.code = method_5_code) (hml : c.maxLocals = 5) (hown : s.vm.findClass "com/example/tariff/tariff/core/decimal/PlainDecimalIsBoundedPinLaw" = some m.cls) (hZ : Z.Warmed39 s.vm) (a1 : Addr) (p2 : Int32) (p3 : Int32) (p4 : Int32) (p5 : Int32) (kc : ClassId) (N : Int32) (h0 : Heap) (n0 : Nat) (g_a1 : n0 ≤ a1)  (T72 : State) (h72 : Heap) (locs72 : List Loc) (X72 : Stand p l e ({ frames := 2, cells := 0, slots := 0, locals := 35 } : Room) s m #[(.ref a1), (.int p2), (.int p3), (.int p4), (.int p5)] below meth c T72 locs72 0 0) (e72 : T72.heap = h72) (N0 : Fr n0 locs72) (K0 : Keep h0 h72 [a1]) (O0 : Old Z n0 h72) (V_a1 : Arv Z h72 a1 kc .char N (FLP p2 p3 p4 p5 11) (.int (0 : Int32))) (nx : ∀ (T73 : State) (h73 : Heap) (locs73 : List Loc) (X73 : Stand p l e ({ frames := 2, cells := 0, slots := 0, locals := 35 } : Room) s m #[(.ref a1), (.int p2), (.int p3), (.int p4), (.int p5)] below meth c T73 locs73 0 0) (e73 : T73.heap = h73) (N0 : Fr n0 locs73) (K0 : Keep h0 h73 [a1]) (O0 : Old Z n0 h73) (V_a1 : Arv Z h73 a1 kc .char N (FLP p2 p3 p4 p5 12) (.int (0 : Int32))), Goes p e below Post T73 (mkF m 126 #[.val (.ref a1), .val (.int p2), .val (.int p3), .val (.int p4), .val (.int p5)] [])) :
    Goes p e below Post T72 (mkF m 115 #[.val (.ref a1), .val (.int p2), .val (.int p3), .val (.int p4), .val (.int p5)] []) := by
  refine Goes.step (T' := T72) (g' := (mkF m 116 #[.val (.ref a1), .val (.int p2), .val (.int p3), .val (.int p4), .val (.int p5)] [(.ref a1)])) (fun _ kz => XS.aloadN X72.here hx rfl (hb hby d_method_5_115) rfl rfl kz) ?_
  refine Goes.step (T' := T72) (g' := (mkF m 118 #[.val (.ref a1), .val (.int p2), .val (.int p3), .val (.int p4), .val (.int p5)] [(.int (11 : Int32)), (.ref a1)])) (fun _ kz => XS.bipush X72.here hx rfl (hb hby d_method_5_116) kz) ?_
  refine Goes.step (T' := T72) (g' := (mkF m 119 #[.val (.ref a1), .val (.int p2), .val (.int p3), .val (.int p4), .val (.int p5)] [(.int p2), (.int (11 : Int32)), (.ref a1)])) (fun _ kz => XS.iloadN X72.here hx rfl (hb hby d_method_5_118) rfl  kz) ?_
  refine Goes.step (T' := T72) (g' := (mkF m 120 #[.val (.ref a1), .val (.int p2), .val (.int p3), .val (.int p4), .val (.int p5)] [(.int p3), (.int p2), (.int (11 : Int32)), (.ref a1)])) (fun _ kz => XS.iloadN X72.here hx rfl (hb hby d_method_5_119) rfl  kz) ?_
  refine Goes.step (T' := T72) (g' := (mkF m 121 #[.val (.ref a1), .val (.int p2), .val (.int p3), .val (.int p4), .val (.int p5)] [(.int p4), (.int p3), (.int p2), (.int (11 : Int32)), (.ref a1)])) (fun _ kz => XS.iloadN X72.here hx rfl (hb hby d_method_5_120) rfl  kz) ?_
  refine Goes.step (T' := T72) (g' := (mkF m 123 #[.val (.ref a1), .val (.int p2), .val (.int p3), .val (.int p4), .val (.int p5)] [(.int p5), (.int p4), (.int p3), (.int p2), (.int (11 : Int32)), (.ref a1)])) (fun _ kz => XS.iload X72.here hx rfl (hb hby d_method_5_121) rfl  kz) ?_
  obtain ⟨_, _, ⟨T74, L74, k74, n74⟩, -, X74, ⟨Lc74, hQ74, l74, y74, z74⟩, st74⟩ := Jvm.LawKit.callS X72 hx (y := (⟨"com/example/tariff/tariff/core/decimal/PlainDecimalIsBoundedPinLaw", "put", "([CIIICI)V"⟩ : MethodName)) hown (mvT hZ (hw _ (List.mem_of_getElem? (i := 6) rfl))) (mvT hZ (hw _ (List.mem_of_getElem? (i := 7) rfl))) (mvT hZ (hw _ (List.mem_of_getElem? (i := 4) rfl))) (mvT hZ (hw _ (List.mem_of_getElem? (i := 8) rfl))) (by decide) (backOf (W := 0) (rm_put l Z a0 hw [] a1 (11 : Int32) p2 p3 p4 p5 (kc) (N) ((FLP p2 p3 p4 p5 11)) ((.int (0 : Int32))) h72 n0 O0  V_a1 g_a1 (by decide) (by rw [flp_len]; decide)) hZ (hw _ (List.mem_of_getElem? (i := 8) rfl)) (hw _ (List.mem_of_getElem? (i := 4) rfl)) (by decide) (by decide)) (g := (mkF m 123 #[.val (.ref a1), .val (.int p2), .val (.int p3), .val (.int p4), .val (.int p5)] [(.int p5), (.int p4), (.int p3), (.int p2), (.int (11 : Int32)), (.ref a1)])) rfl (by rw [hml]; rfl) (argsL := [(.ref a1), (.int (11 : Int32)), (.int p2), (.int p3), (.int p4), (.int p5)]) (rest := []) (lenOf pd_9 rfl) rfl (by show 2 * 0 + _ ≤ _; exact Nat.le_of_eq rfl) (hb hby d_method_5_123) (fun _ _ => ⟨rfl, e72, (by decide : 0 + 0 ≤ _), (by decide : 0 + 0 ≤ _)⟩)
  dsimp only [Pt.U, Pt.locs, Pt.cells, Pt.slots] at X74 l74 y74 z74 st74 hQ74
  subst l74 y74 z74
  obtain ⟨h74, e74⟩ : ∃ z, T74.heap = z := ⟨_, rfl⟩
  rw [e74] at hQ74
  obtain ⟨rfl, Nq74, Kq74, V_a1_q74⟩ := hQ74
  replace N0 := Fr.app N0 Nq74
  clear V_a1
  replace O0 := O0.keep Kq74 (allS g_a1 all0)
  replace K0 := K0.trans Kq74 (allS (Or.inl (List.mem_of_getElem? (i := 0) rfl)) all0)
  have V_a1 := V_a1_q74
  refine Goes.step (T' := T74) (g' := (mkF m 126 #[.val (.ref a1), .val (.int p2), .val (.int p3), .val (.int p4), .val (.int p5)] [])) st74 ?_
  rw [flp_step (i := 11) (c := (11 : Int32)) (by decide) rfl (by decide)] at V_a1
  exact nx _ _ _ (X74.mono (by decide) (by decide)) e74 N0 K0 O0 V_a1
set_option maxRecDepth 65536 in
set_option maxHeartbeats 40000000 in
theorem fill_12 (l : Launch) (Z : State) (a0 : Array Value) (hw : ∀ d ∈ tables_1, d.before a0 Z = true) (p : Program) (e : Env) (s : State) (m : MethodId) (below : List Frame) (meth : Method) (c : Code) (Post : Outcome → State → Prop) (hx : p.tables.exec = Jvm.exec) (hby : c.code = method_5_code) (hml : c.maxLocals = 5) (hown : s.vm.findClass "com/example/tariff/tariff/core/decimal/PlainDecimalIsBoundedPinLaw" = some m.cls) (hZ : Z.Warmed39 s.vm) (a1 : Addr) (p2 : Int32) (p3 : Int32) (p4 : Int32) (p5 : Int32) (kc : ClassId) (N : Int32) (h0 : Heap) (n0 : Nat) (g_a1 : n0 ≤ a1)  (T75 : State) (h75 : Heap) (locs75 : List Loc) (X75 : Stand p l e ({ frames := 2, cells := 0, slots := 0, locals := 35 } : Room) s m #[(.ref a1), (.int p2), (.int p3), (.int p4), (.int p5)] below meth c T75 locs75 0 0) (e75 : T75.heap = h75) (N0 : Fr n0 locs75) (K0 : Keep h0 h75 [a1]) (O0 : Old Z n0 h75) (V_a1 : Arv Z h75 a1 kc .char N (FLP p2 p3 p4 p5 12) (.int (0 : Int32))) (nx : ∀ (T76 : State) (h76 : Heap) (locs76 : List Loc) (X76 : Stand p l e ({ frames := 2, cells := 0, slots := 0, locals := 35 } : Room) s m #[(.ref a1), (.int p2), (.int p3), (.int p4), (.int p5)] below meth c T76 locs76 0 0) (e76 : T76.heap = h76) (N0 : Fr n0 locs76) (K0 : Keep h0 h76 [a1]) (O0 : Old Z n0 h76) (V_a1 : Arv Z h76 a1 kc .char N (FLP p2 p3 p4 p5 13) (.int (0 : Int32))), Goes p e below Post T76 (mkF m 137 #[.val (.ref a1), .val (.int p2), .val (.int p3), .val (.int p4), .val (.int p5)] [])) :
    Goes p e below Post T75 (mkF m 126 #[.val (.ref a1), .val (.int p2), .val (.int p3), .val (.int p4), .val (.int p5)] []) := by
  refine Goes.step (T' := T75) (g' := (mkF m 127 #[.val (.ref a1), .val (.int p2), .val (.int p3), .val (.int p4), .val (.int p5)] [(.ref a1)])) (fun _ kz => XS.aloadN X75.here hx rfl (hb hby d_method_5_126) rfl rfl kz) ?_
  refine Goes.step (T' := T75) (g' := (mkF m 129 #[.val (.ref a1), .val (.int p2), .val (.int p3), .val (.int p4), .val (.int p5)] [(.int (12 : Int32)), (.ref a1)])) (fun _ kz => XS.bipush X75.here hx rfl (hb hby d_method_5_127) kz) ?_
  refine Goes.step (T' := T75) (g' := (mkF m 130 #[.val (.ref a1), .val (.int p2), .val (.int p3), .val (.int p4), .val (.int p5)] [(.int p2), (.int (12 : Int32)), (.ref a1)])) (fun _ kz => XS.iloadN X75.here hx rfl (hb hby d_method_5_129) rfl  kz) ?_
  refine Goes.step (T' := T75) (g' := (mkF m 131 #[.val (.ref a1), .val (.int p2), .val (.int p3), .val (.int p4), .val (.int p5)] [(.int p3), (.int p2), (.int (12 : Int32)), (.ref a1)])) (fun _ kz => XS.iloadN X75.here hx rfl (hb hby d_method_5_130) rfl  kz) ?_
  refine Goes.step (T' := T75) (g' := (mkF m 132 #[.val (.ref a1), .val (.int p2), .val (.int p3), .val (.int p4), .val (.int p5)] [(.int p4), (.int p3), (.int p2), (.int (12 : Int32)), (.ref a1)])) (fun _ kz => XS.iloadN X75.here hx rfl (hb hby d_method_5_131) rfl  kz) ?_
  refine Goes.step (T' := T75) (g' := (mkF m 134 #[.val (.ref a1), .val (.int p2), .val (.int p3), .val (.int p4), .val (.int p5)] [(.int p5), (.int p4), (.int p3), (.int p2), (.int (12 : Int32)), (.ref a1)])) (fun _ kz => XS.iload X75.here hx rfl (hb hby d_method_5_132) rfl  kz) ?_
  obtain ⟨_, _, ⟨T77, L77, k77, n77⟩, -, X77, ⟨Lc77, hQ77, l77, y77, z77⟩, st77⟩ := Jvm.LawKit.callS X75 hx (y := (⟨"com/example/tariff/tariff/core/decimal/PlainDecimalIsBoundedPinLaw", "put", "([CIIICI)V"⟩ : MethodName)) hown (mvT hZ (hw _ (List.mem_of_getElem? (i := 6) rfl))) (mvT hZ (hw _ (List.mem_of_getElem? (i := 7) rfl))) (mvT hZ (hw _ (List.mem_of_getElem? (i := 4) rfl))) (mvT hZ (hw _ (List.mem_of_getElem? (i := 8) rfl))) (by decide) (backOf (W := 0) (rm_put l Z a0 hw [] a1 (12 : Int32) p2 p3 p4 p5 (kc) (N) ((FLP p2 p3 p4 p5 12)) ((.int (0 : Int32))) h75 n0 O0  V_a1 g_a1 (by decide) (by rw [flp_len]; decide)) hZ (hw _ (List.mem_of_getElem? (i := 8) rfl)) (hw _ (List.mem_of_getElem? (i := 4) rfl)) (by decide) (by decide)) (g := (mkF m 134 #[.val (.ref a1), .val (.int p2), .val (.int p3), .val (.int p4), .val (.int p5)] [(.int p5), (.int p4), (.int p3), (.int p2), (.int (12 : Int32)), (.ref a1)])) rfl (by rw [hml]; rfl) (argsL := [(.ref a1), (.int (12 : Int32)), (.int p2), (.int p3), (.int p4), (.int p5)]) (rest := []) (lenOf pd_9 rfl) rfl (by show 2 * 0 + _ ≤ _; exact Nat.le_of_eq rfl) (hb hby d_method_5_134) (fun _ _ => ⟨rfl, e75, (by decide : 0 + 0 ≤ _), (by decide : 0 + 0 ≤ _)⟩)
  dsimp only [Pt.U, Pt.locs, Pt.cells, Pt.slots] at X77 l77 y77 z77 st77 hQ77
  subst l77 y77 z77
  obtain ⟨h77, e77⟩ : ∃ z, T77.heap = z := ⟨_, rfl⟩
  rw [e77] at hQ77
  obtain ⟨rfl, Nq77, Kq77, V_a1_q77⟩ := hQ77
  replace N0 := Fr.app N0 Nq77
  clear V_a1
  replace O0 := O0.keep Kq77 (allS g_a1 all0)
  replace K0 := K0.trans Kq77 (allS (Or.inl (List.mem_of_getElem? (i := 0) rfl)) all0)
  have V_a1 := V_a1_q77
  refine Goes.step (T' := T77) (g' := (mkF m 137 #[.val (.ref a1), .val (.int p2), .val (.int p3), .val (.int p4), .val (.int p5)] [])) st77 ?_
  rw [flp_step (i := 12) (c := (12 : Int32)) (by decide) rfl (by decide)] at V_a1
  exact nx _ _ _ (X77.mono (by decide) (by decide)) e77 N0 K0 O0 V_a1
set_option maxRecDepth 65536 in
set_option maxHeartbeats 40000000 in
theorem fill_13 (l : Launch) (Z : State) (a0 : Array Value) (hw : ∀ d ∈ tables_1, d.before a0 Z = true) (p : Program) (e : Env) (s : State) (m : MethodId) (below : List Frame) (meth : Method) (c : Code) (Post : Outcome → State → Prop) (hx : p.tables.exec = Jvm.exec) (hby : c.code = method_5_code) (hml : c.maxLocals = 5) (hown : s.vm.findClass "com/example/tariff/tariff/core/decimal/PlainDecimalIsBoundedPinLaw" = some m.cls) (hZ : Z.Warmed39 s.vm) (a1 : Addr) (p2 : Int32) (p3 : Int32) (p4 : Int32) (p5 : Int32) (kc : ClassId) (N : Int32) (h0 : Heap) (n0 : Nat) (g_a1 : n0 ≤ a1)  (T78 : State) (h78 : Heap) (locs78 : List Loc) (X78 : Stand p l e ({ frames := 2, cells := 0, slots := 0, locals := 35 } : Room) s m #[(.ref a1), (.int p2), (.int p3), (.int p4), (.int p5)] below meth c T78 locs78 0 0) (e78 : T78.heap = h78) (N0 : Fr n0 locs78) (K0 : Keep h0 h78 [a1]) (O0 : Old Z n0 h78) (V_a1 : Arv Z h78 a1 kc .char N (FLP p2 p3 p4 p5 13) (.int (0 : Int32))) (nx : ∀ (T79 : State) (h79 : Heap) (locs79 : List Loc) (X79 : Stand p l e ({ frames := 2, cells := 0, slots := 0, locals := 35 } : Room) s m #[(.ref a1), (.int p2), (.int p3), (.int p4), (.int p5)] below meth c T79 locs79 0 0) (e79 : T79.heap = h79) (N0 : Fr n0 locs79) (K0 : Keep h0 h79 [a1]) (O0 : Old Z n0 h79) (V_a1 : Arv Z h79 a1 kc .char N (FLP p2 p3 p4 p5 14) (.int (0 : Int32))), Goes p e below Post T79 (mkF m 148 #[.val (.ref a1), .val (.int p2), .val (.int p3), .val (.int p4), .val (.int p5)] [])) :
    Goes p e below Post T78 (mkF m 137 #[.val (.ref a1), .val (.int p2), .val (.int p3), .val (.int p4), .val (.int p5)] []) := by
  refine Goes.step (T' := T78) (g' := (mkF m 138 #[.val (.ref a1), .val (.int p2), .val (.int p3), .val (.int p4), .val (.int p5)] [(.ref a1)])) (fun _ kz => XS.aloadN X78.here hx rfl (hb hby d_method_5_137) rfl rfl kz) ?_
  refine Goes.step (T' := T78) (g' := (mkF m 140 #[.val (.ref a1), .val (.int p2), .val (.int p3), .val (.int p4), .val (.int p5)] [(.int (13 : Int32)), (.ref a1)])) (fun _ kz => XS.bipush X78.here hx rfl (hb hby d_method_5_138) kz) ?_
  refine Goes.step (T' := T78) (g' := (mkF m 141 #[.val (.ref a1), .val (.int p2), .val (.int p3), .val (.int p4), .val (.int p5)] [(.int p2), (.int (13 : Int32)), (.ref a1)])) (fun _ kz => XS.iloadN X78.here hx rfl (hb hby d_method_5_140) rfl  kz) ?_
  refine Goes.step (T' := T78) (g' := (mkF m 142 #[.val (.ref a1), .val (.int p2), .val (.int p3), .val (.int p4), .val (.int p5)] [(.int p3), (.int p2), (.int (13 : Int32)), (.ref a1)])) (fun _ kz => XS.iloadN X78.here hx rfl (hb hby d_method_5_141) rfl  kz) ?_
  refine Goes.step (T' := T78) (g' := (mkF m 143 #[.val (.ref a1), .val (.int p2), .val (.int p3), .val (.int p4), .val (.int p5)] [(.int p4), (.int p3), (.int p2), (.int (13 : Int32)), (.ref a1)])) (fun _ kz => XS.iloadN X78.here hx rfl (hb hby d_method_5_142) rfl  kz) ?_
  refine Goes.step (T' := T78) (g' := (mkF m 145 #[.val (.ref a1), .val (.int p2), .val (.int p3), .val (.int p4), .val (.int p5)] [(.int p5), (.int p4), (.int p3), (.int p2), (.int (13 : Int32)), (.ref a1)])) (fun _ kz => XS.iload X78.here hx rfl (hb hby d_method_5_143) rfl  kz) ?_
  obtain ⟨_, _, ⟨T80, L80, k80, n80⟩, -, X80, ⟨Lc80, hQ80, l80, y80, z80⟩, st80⟩ := Jvm.LawKit.callS X78 hx (y := (⟨"com/example/tariff/tariff/core/decimal/PlainDecimalIsBoundedPinLaw", "put", "([CIIICI)V"⟩ : MethodName)) hown (mvT hZ (hw _ (List.mem_of_getElem? (i := 6) rfl))) (mvT hZ (hw _ (List.mem_of_getElem? (i := 7) rfl))) (mvT hZ (hw _ (List.mem_of_getElem? (i := 4) rfl))) (mvT hZ (hw _ (List.mem_of_getElem? (i := 8) rfl))) (by decide) (backOf (W := 0) (rm_put l Z a0 hw [] a1 (13 : Int32) p2 p3 p4 p5 (kc) (N) ((FLP p2 p3 p4 p5 13)) ((.int (0 : Int32))) h78 n0 O0  V_a1 g_a1 (by decide) (by rw [flp_len]; decide)) hZ (hw _ (List.mem_of_getElem? (i := 8) rfl)) (hw _ (List.mem_of_getElem? (i := 4) rfl)) (by decide) (by decide)) (g := (mkF m 145 #[.val (.ref a1), .val (.int p2), .val (.int p3), .val (.int p4), .val (.int p5)] [(.int p5), (.int p4), (.int p3), (.int p2), (.int (13 : Int32)), (.ref a1)])) rfl (by rw [hml]; rfl) (argsL := [(.ref a1), (.int (13 : Int32)), (.int p2), (.int p3), (.int p4), (.int p5)]) (rest := []) (lenOf pd_9 rfl) rfl (by show 2 * 0 + _ ≤ _; exact Nat.le_of_eq rfl) (hb hby d_method_5_145) (fun _ _ => ⟨rfl, e78, (by decide : 0 + 0 ≤ _), (by decide : 0 + 0 ≤ _)⟩)
  dsimp only [Pt.U, Pt.locs, Pt.cells, Pt.slots] at X80 l80 y80 z80 st80 hQ80
  subst l80 y80 z80
  obtain ⟨h80, e80⟩ : ∃ z, T80.heap = z := ⟨_, rfl⟩
  rw [e80] at hQ80
  obtain ⟨rfl, Nq80, Kq80, V_a1_q80⟩ := hQ80
  replace N0 := Fr.app N0 Nq80
  clear V_a1
  replace O0 := O0.keep Kq80 (allS g_a1 all0)
  replace K0 := K0.trans Kq80 (allS (Or.inl (List.mem_of_getElem? (i := 0) rfl)) all0)
  have V_a1 := V_a1_q80
  refine Goes.step (T' := T80) (g' := (mkF m 148 #[.val (.ref a1), .val (.int p2), .val (.int p3), .val (.int p4), .val (.int p5)] [])) st80 ?_
  rw [flp_step (i := 13) (c := (13 : Int32)) (by decide) rfl (by decide)] at V_a1
  exact nx _ _ _ (X80.mono (by decide) (by decide)) e80 N0 K0 O0 V_a1
set_option maxRecDepth 65536 in
set_option maxHeartbeats 40000000 in
theorem fill_14 (l : Launch) (Z : State) (a0 : Array Value) (hw : ∀ d ∈ tables_1, d.before a0 Z = true) (p : Program) (e : Env) (s : State) (m : MethodId) (below : List Frame) (meth : Method) (c : Code) (Post : Outcome → State → Prop) (hx : p.tables.exec = Jvm.exec) (hby : c.code = method_5_code) (hml : c.maxLocals = 5) (hown : s.vm.findClass "com/example/tariff/tariff/core/decimal/PlainDecimalIsBoundedPinLaw" = some m.cls) (hZ : Z.Warmed39 s.vm) (a1 : Addr) (p2 : Int32) (p3 : Int32) (p4 : Int32) (p5 : Int32) (kc : ClassId) (N : Int32) (h0 : Heap) (n0 : Nat) (g_a1 : n0 ≤ a1)  (T81 : State) (h81 : Heap) (locs81 : List Loc) (X81 : Stand p l e ({ frames := 2, cells := 0, slots := 0, locals := 35 } : Room) s m #[(.ref a1), (.int p2), (.int p3), (.int p4), (.int p5)] below meth c T81 locs81 0 0) (e81 : T81.heap = h81) (N0 : Fr n0 locs81) (K0 : Keep h0 h81 [a1]) (O0 : Old Z n0 h81) (V_a1 : Arv Z h81 a1 kc .char N (FLP p2 p3 p4 p5 14) (.int (0 : Int32))) (nx : ∀ (T82 : State) (h82 : Heap) (locs82 : List Loc) (X82 : Stand p l e ({ frames := 2, cells := 0, slots := 0, locals := 35 } : Room) s m #[(.ref a1), (.int p2), (.int p3), (.int p4), (.int p5)] below meth c T82 locs82 0 0) (e82 : T82.heap = h82) (N0 : Fr n0 locs82) (K0 : Keep h0 h82 [a1]) (O0 : Old Z n0 h82) (V_a1 : Arv Z h82 a1 kc .char N (FLP p2 p3 p4 p5 15) (.int (0 : Int32))), Goes p e below Post T82 (mkF m 159 #[.val (.ref a1), .val (.int p2), .val (.int p3), .val (.int p4), .val (.int p5)] [])) :
    Goes p e below Post T81 (mkF m 148 #[.val (.ref a1), .val (.int p2), .val (.int p3), .val (.int p4), .val (.int p5)] []) := by
  refine Goes.step (T' := T81) (g' := (mkF m 149 #[.val (.ref a1), .val (.int p2), .val (.int p3), .val (.int p4), .val (.int p5)] [(.ref a1)])) (fun _ kz => XS.aloadN X81.here hx rfl (hb hby d_method_5_148) rfl rfl kz) ?_
  refine Goes.step (T' := T81) (g' := (mkF m 151 #[.val (.ref a1), .val (.int p2), .val (.int p3), .val (.int p4), .val (.int p5)] [(.int (14 : Int32)), (.ref a1)])) (fun _ kz => XS.bipush X81.here hx rfl (hb hby d_method_5_149) kz) ?_
  refine Goes.step (T' := T81) (g' := (mkF m 152 #[.val (.ref a1), .val (.int p2), .val (.int p3), .val (.int p4), .val (.int p5)] [(.int p2), (.int (14 : Int32)), (.ref a1)])) (fun _ kz => XS.iloadN X81.here hx rfl (hb hby d_method_5_151) rfl  kz) ?_
  refine Goes.step (T' := T81) (g' := (mkF m 153 #[.val (.ref a1), .val (.int p2), .val (.int p3), .val (.int p4), .val (.int p5)] [(.int p3), (.int p2), (.int (14 : Int32)), (.ref a1)])) (fun _ kz => XS.iloadN X81.here hx rfl (hb hby d_method_5_152) rfl  kz) ?_
  refine Goes.step (T' := T81) (g' := (mkF m 154 #[.val (.ref a1), .val (.int p2), .val (.int p3), .val (.int p4), .val (.int p5)] [(.int p4), (.int p3), (.int p2), (.int (14 : Int32)), (.ref a1)])) (fun _ kz => XS.iloadN X81.here hx rfl (hb hby d_method_5_153) rfl  kz) ?_
  refine Goes.step (T' := T81) (g' := (mkF m 156 #[.val (.ref a1), .val (.int p2), .val (.int p3), .val (.int p4), .val (.int p5)] [(.int p5), (.int p4), (.int p3), (.int p2), (.int (14 : Int32)), (.ref a1)])) (fun _ kz => XS.iload X81.here hx rfl (hb hby d_method_5_154) rfl  kz) ?_
  obtain ⟨_, _, ⟨T83, L83, k83, n83⟩, -, X83, ⟨Lc83, hQ83, l83, y83, z83⟩, st83⟩ := Jvm.LawKit.callS X81 hx (y := (⟨"com/example/tariff/tariff/core/decimal/PlainDecimalIsBoundedPinLaw", "put", "([CIIICI)V"⟩ : MethodName)) hown (mvT hZ (hw _ (List.mem_of_getElem? (i := 6) rfl))) (mvT hZ (hw _ (List.mem_of_getElem? (i := 7) rfl))) (mvT hZ (hw _ (List.mem_of_getElem? (i := 4) rfl))) (mvT hZ (hw _ (List.mem_of_getElem? (i := 8) rfl))) (by decide) (backOf (W := 0) (rm_put l Z a0 hw [] a1 (14 : Int32) p2 p3 p4 p5 (kc) (N) ((FLP p2 p3 p4 p5 14)) ((.int (0 : Int32))) h81 n0 O0  V_a1 g_a1 (by decide) (by rw [flp_len]; decide)) hZ (hw _ (List.mem_of_getElem? (i := 8) rfl)) (hw _ (List.mem_of_getElem? (i := 4) rfl)) (by decide) (by decide)) (g := (mkF m 156 #[.val (.ref a1), .val (.int p2), .val (.int p3), .val (.int p4), .val (.int p5)] [(.int p5), (.int p4), (.int p3), (.int p2), (.int (14 : Int32)), (.ref a1)])) rfl (by rw [hml]; rfl) (argsL := [(.ref a1), (.int (14 : Int32)), (.int p2), (.int p3), (.int p4), (.int p5)]) (rest := []) (lenOf pd_9 rfl) rfl (by show 2 * 0 + _ ≤ _; exact Nat.le_of_eq rfl) (hb hby d_method_5_156) (fun _ _ => ⟨rfl, e81, (by decide : 0 + 0 ≤ _), (by decide : 0 + 0 ≤ _)⟩)
  dsimp only [Pt.U, Pt.locs, Pt.cells, Pt.slots] at X83 l83 y83 z83 st83 hQ83
  subst l83 y83 z83
  obtain ⟨h83, e83⟩ : ∃ z, T83.heap = z := ⟨_, rfl⟩
  rw [e83] at hQ83
  obtain ⟨rfl, Nq83, Kq83, V_a1_q83⟩ := hQ83
  replace N0 := Fr.app N0 Nq83
  clear V_a1
  replace O0 := O0.keep Kq83 (allS g_a1 all0)
  replace K0 := K0.trans Kq83 (allS (Or.inl (List.mem_of_getElem? (i := 0) rfl)) all0)
  have V_a1 := V_a1_q83
  refine Goes.step (T' := T83) (g' := (mkF m 159 #[.val (.ref a1), .val (.int p2), .val (.int p3), .val (.int p4), .val (.int p5)] [])) st83 ?_
  rw [flp_step (i := 14) (c := (14 : Int32)) (by decide) rfl (by decide)] at V_a1
  exact nx _ _ _ (X83.mono (by decide) (by decide)) e83 N0 K0 O0 V_a1
set_option maxRecDepth 65536 in
set_option maxHeartbeats 40000000 in
theorem fill_15 (l : Launch) (Z : State) (a0 : Array Value) (hw : ∀ d ∈ tables_1, d.before a0 Z = true) (p : Program) (e : Env) (s : State) (m : MethodId) (below : List Frame) (meth : Method) (c : Code) (Post : Outcome → State → Prop) (hx : p.tables.exec = Jvm.exec) (hby : c.code = method_5_code) (hml : c.maxLocals = 5) (hown : s.vm.findClass "com/example/tariff/tariff/core/decimal/PlainDecimalIsBoundedPinLaw" = some m.cls) (hZ : Z.Warmed39 s.vm) (a1 : Addr) (p2 : Int32) (p3 : Int32) (p4 : Int32) (p5 : Int32) (kc : ClassId) (N : Int32) (h0 : Heap) (n0 : Nat) (g_a1 : n0 ≤ a1)  (T84 : State) (h84 : Heap) (locs84 : List Loc) (X84 : Stand p l e ({ frames := 2, cells := 0, slots := 0, locals := 35 } : Room) s m #[(.ref a1), (.int p2), (.int p3), (.int p4), (.int p5)] below meth c T84 locs84 0 0) (e84 : T84.heap = h84) (N0 : Fr n0 locs84) (K0 : Keep h0 h84 [a1]) (O0 : Old Z n0 h84) (V_a1 : Arv Z h84 a1 kc .char N (FLP p2 p3 p4 p5 15) (.int (0 : Int32))) (nx : ∀ (T85 : State) (h85 : Heap) (locs85 : List Loc) (X85 : Stand p l e ({ frames := 2, cells := 0, slots := 0, locals := 35 } : Room) s m #[(.ref a1), (.int p2), (.int p3), (.int p4), (.int p5)] below meth c T85 locs85 0 0) (e85 : T85.heap = h85) (N0 : Fr n0 locs85) (K0 : Keep h0 h85 [a1]) (O0 : Old Z n0 h85) (V_a1 : Arv Z h85 a1 kc .char N (FLP p2 p3 p4 p5 16) (.int (0 : Int32))), Goes p e below Post T85 (mkF m 170 #[.val (.ref a1), .val (.int p2), .val (.int p3), .val (.int p4), .val (.int p5)] [])) :
    Goes p e below Post T84 (mkF m 159 #[.val (.ref a1), .val (.int p2), .val (.int p3), .val (.int p4), .val (.int p5)] []) := by
  refine Goes.step (T' := T84) (g' := (mkF m 160 #[.val (.ref a1), .val (.int p2), .val (.int p3), .val (.int p4), .val (.int p5)] [(.ref a1)])) (fun _ kz => XS.aloadN X84.here hx rfl (hb hby d_method_5_159) rfl rfl kz) ?_
  refine Goes.step (T' := T84) (g' := (mkF m 162 #[.val (.ref a1), .val (.int p2), .val (.int p3), .val (.int p4), .val (.int p5)] [(.int (15 : Int32)), (.ref a1)])) (fun _ kz => XS.bipush X84.here hx rfl (hb hby d_method_5_160) kz) ?_
  refine Goes.step (T' := T84) (g' := (mkF m 163 #[.val (.ref a1), .val (.int p2), .val (.int p3), .val (.int p4), .val (.int p5)] [(.int p2), (.int (15 : Int32)), (.ref a1)])) (fun _ kz => XS.iloadN X84.here hx rfl (hb hby d_method_5_162) rfl  kz) ?_
  refine Goes.step (T' := T84) (g' := (mkF m 164 #[.val (.ref a1), .val (.int p2), .val (.int p3), .val (.int p4), .val (.int p5)] [(.int p3), (.int p2), (.int (15 : Int32)), (.ref a1)])) (fun _ kz => XS.iloadN X84.here hx rfl (hb hby d_method_5_163) rfl  kz) ?_
  refine Goes.step (T' := T84) (g' := (mkF m 165 #[.val (.ref a1), .val (.int p2), .val (.int p3), .val (.int p4), .val (.int p5)] [(.int p4), (.int p3), (.int p2), (.int (15 : Int32)), (.ref a1)])) (fun _ kz => XS.iloadN X84.here hx rfl (hb hby d_method_5_164) rfl  kz) ?_
  refine Goes.step (T' := T84) (g' := (mkF m 167 #[.val (.ref a1), .val (.int p2), .val (.int p3), .val (.int p4), .val (.int p5)] [(.int p5), (.int p4), (.int p3), (.int p2), (.int (15 : Int32)), (.ref a1)])) (fun _ kz => XS.iload X84.here hx rfl (hb hby d_method_5_165) rfl  kz) ?_
  obtain ⟨_, _, ⟨T86, L86, k86, n86⟩, -, X86, ⟨Lc86, hQ86, l86, y86, z86⟩, st86⟩ := Jvm.LawKit.callS X84 hx (y := (⟨"com/example/tariff/tariff/core/decimal/PlainDecimalIsBoundedPinLaw", "put", "([CIIICI)V"⟩ : MethodName)) hown (mvT hZ (hw _ (List.mem_of_getElem? (i := 6) rfl))) (mvT hZ (hw _ (List.mem_of_getElem? (i := 7) rfl))) (mvT hZ (hw _ (List.mem_of_getElem? (i := 4) rfl))) (mvT hZ (hw _ (List.mem_of_getElem? (i := 8) rfl))) (by decide) (backOf (W := 0) (rm_put l Z a0 hw [] a1 (15 : Int32) p2 p3 p4 p5 (kc) (N) ((FLP p2 p3 p4 p5 15)) ((.int (0 : Int32))) h84 n0 O0  V_a1 g_a1 (by decide) (by rw [flp_len]; decide)) hZ (hw _ (List.mem_of_getElem? (i := 8) rfl)) (hw _ (List.mem_of_getElem? (i := 4) rfl)) (by decide) (by decide)) (g := (mkF m 167 #[.val (.ref a1), .val (.int p2), .val (.int p3), .val (.int p4), .val (.int p5)] [(.int p5), (.int p4), (.int p3), (.int p2), (.int (15 : Int32)), (.ref a1)])) rfl (by rw [hml]; rfl) (argsL := [(.ref a1), (.int (15 : Int32)), (.int p2), (.int p3), (.int p4), (.int p5)]) (rest := []) (lenOf pd_9 rfl) rfl (by show 2 * 0 + _ ≤ _; exact Nat.le_of_eq rfl) (hb hby d_method_5_167) (fun _ _ => ⟨rfl, e84, (by decide : 0 + 0 ≤ _), (by decide : 0 + 0 ≤ _)⟩)
  dsimp only [Pt.U, Pt.locs, Pt.cells, Pt.slots] at X86 l86 y86 z86 st86 hQ86
  subst l86 y86 z86
  obtain ⟨h86, e86⟩ : ∃ z, T86.heap = z := ⟨_, rfl⟩
  rw [e86] at hQ86
  obtain ⟨rfl, Nq86, Kq86, V_a1_q86⟩ := hQ86
  replace N0 := Fr.app N0 Nq86
  clear V_a1
  replace O0 := O0.keep Kq86 (allS g_a1 all0)
  replace K0 := K0.trans Kq86 (allS (Or.inl (List.mem_of_getElem? (i := 0) rfl)) all0)
  have V_a1 := V_a1_q86
  refine Goes.step (T' := T86) (g' := (mkF m 170 #[.val (.ref a1), .val (.int p2), .val (.int p3), .val (.int p4), .val (.int p5)] [])) st86 ?_
  rw [flp_step (i := 15) (c := (15 : Int32)) (by decide) rfl (by decide)] at V_a1
  exact nx _ _ _ (X86.mono (by decide) (by decide)) e86 N0 K0 O0 V_a1
set_option maxRecDepth 65536 in
set_option maxHeartbeats 40000000 in
theorem fill_16 (l : Launch) (Z : State) (a0 : Array Value) (hw : ∀ d ∈ tables_1, d.before a0 Z = true) (p : Program) (e : Env) (s : State) (m : MethodId) (below : List Frame) (meth : Method) (c : Code) (Post : Outcome → State → Prop) (hx : p.tables.exec = Jvm.exec) (hby : c.code = method_5_code) (hml : c.maxLocals = 5) (hown : s.vm.findClass "com/example/tariff/tariff/core/decimal/PlainDecimalIsBoundedPinLaw" = some m.cls) (hZ : Z.Warmed39 s.vm) (a1 : Addr) (p2 : Int32) (p3 : Int32) (p4 : Int32) (p5 : Int32) (kc : ClassId) (N : Int32) (h0 : Heap) (n0 : Nat) (g_a1 : n0 ≤ a1)  (T87 : State) (h87 : Heap) (locs87 : List Loc) (X87 : Stand p l e ({ frames := 2, cells := 0, slots := 0, locals := 35 } : Room) s m #[(.ref a1), (.int p2), (.int p3), (.int p4), (.int p5)] below meth c T87 locs87 0 0) (e87 : T87.heap = h87) (N0 : Fr n0 locs87) (K0 : Keep h0 h87 [a1]) (O0 : Old Z n0 h87) (V_a1 : Arv Z h87 a1 kc .char N (FLP p2 p3 p4 p5 16) (.int (0 : Int32))) (nx : ∀ (T88 : State) (h88 : Heap) (locs88 : List Loc) (X88 : Stand p l e ({ frames := 2, cells := 0, slots := 0, locals := 35 } : Room) s m #[(.ref a1), (.int p2), (.int p3), (.int p4), (.int p5)] below meth c T88 locs88 0 0) (e88 : T88.heap = h88) (N0 : Fr n0 locs88) (K0 : Keep h0 h88 [a1]) (O0 : Old Z n0 h88) (V_a1 : Arv Z h88 a1 kc .char N (FLP p2 p3 p4 p5 17) (.int (0 : Int32))), Goes p e below Post T88 (mkF m 181 #[.val (.ref a1), .val (.int p2), .val (.int p3), .val (.int p4), .val (.int p5)] [])) :
    Goes p e below Post T87 (mkF m 170 #[.val (.ref a1), .val (.int p2), .val (.int p3), .val (.int p4), .val (.int p5)] []) := by
  refine Goes.step (T' := T87) (g' := (mkF m 171 #[.val (.ref a1), .val (.int p2), .val (.int p3), .val (.int p4), .val (.int p5)] [(.ref a1)])) (fun _ kz => XS.aloadN X87.here hx rfl (hb hby d_method_5_170) rfl rfl kz) ?_
  refine Goes.step (T' := T87) (g' := (mkF m 173 #[.val (.ref a1), .val (.int p2), .val (.int p3), .val (.int p4), .val (.int p5)] [(.int (16 : Int32)), (.ref a1)])) (fun _ kz => XS.bipush X87.here hx rfl (hb hby d_method_5_171) kz) ?_
  refine Goes.step (T' := T87) (g' := (mkF m 174 #[.val (.ref a1), .val (.int p2), .val (.int p3), .val (.int p4), .val (.int p5)] [(.int p2), (.int (16 : Int32)), (.ref a1)])) (fun _ kz => XS.iloadN X87.here hx rfl (hb hby d_method_5_173) rfl  kz) ?_
  refine Goes.step (T' := T87) (g' := (mkF m 175 #[.val (.ref a1), .val (.int p2), .val (.int p3), .val (.int p4), .val (.int p5)] [(.int p3), (.int p2), (.int (16 : Int32)), (.ref a1)])) (fun _ kz => XS.iloadN X87.here hx rfl (hb hby d_method_5_174) rfl  kz) ?_
  refine Goes.step (T' := T87) (g' := (mkF m 176 #[.val (.ref a1), .val (.int p2), .val (.int p3), .val (.int p4), .val (.int p5)] [(.int p4), (.int p3), (.int p2), (.int (16 : Int32)), (.ref a1)])) (fun _ kz => XS.iloadN X87.here hx rfl (hb hby d_method_5_175) rfl  kz) ?_
  refine Goes.step (T' := T87) (g' := (mkF m 178 #[.val (.ref a1), .val (.int p2), .val (.int p3), .val (.int p4), .val (.int p5)] [(.int p5), (.int p4), (.int p3), (.int p2), (.int (16 : Int32)), (.ref a1)])) (fun _ kz => XS.iload X87.here hx rfl (hb hby d_method_5_176) rfl  kz) ?_
  obtain ⟨_, _, ⟨T89, L89, k89, n89⟩, -, X89, ⟨Lc89, hQ89, l89, y89, z89⟩, st89⟩ := Jvm.LawKit.callS X87 hx (y := (⟨"com/example/tariff/tariff/core/decimal/PlainDecimalIsBoundedPinLaw", "put", "([CIIICI)V"⟩ : MethodName)) hown (mvT hZ (hw _ (List.mem_of_getElem? (i := 6) rfl))) (mvT hZ (hw _ (List.mem_of_getElem? (i := 7) rfl))) (mvT hZ (hw _ (List.mem_of_getElem? (i := 4) rfl))) (mvT hZ (hw _ (List.mem_of_getElem? (i := 8) rfl))) (by decide) (backOf (W := 0) (rm_put l Z a0 hw [] a1 (16 : Int32) p2 p3 p4 p5 (kc) (N) ((FLP p2 p3 p4 p5 16)) ((.int (0 : Int32))) h87 n0 O0  V_a1 g_a1 (by decide) (by rw [flp_len]; decide)) hZ (hw _ (List.mem_of_getElem? (i := 8) rfl)) (hw _ (List.mem_of_getElem? (i := 4) rfl)) (by decide) (by decide)) (g := (mkF m 178 #[.val (.ref a1), .val (.int p2), .val (.int p3), .val (.int p4), .val (.int p5)] [(.int p5), (.int p4), (.int p3), (.int p2), (.int (16 : Int32)), (.ref a1)])) rfl (by rw [hml]; rfl) (argsL := [(.ref a1), (.int (16 : Int32)), (.int p2), (.int p3), (.int p4), (.int p5)]) (rest := []) (lenOf pd_9 rfl) rfl (by show 2 * 0 + _ ≤ _; exact Nat.le_of_eq rfl) (hb hby d_method_5_178) (fun _ _ => ⟨rfl, e87, (by decide : 0 + 0 ≤ _), (by decide : 0 + 0 ≤ _)⟩)
  dsimp only [Pt.U, Pt.locs, Pt.cells, Pt.slots] at X89 l89 y89 z89 st89 hQ89
  subst l89 y89 z89
  obtain ⟨h89, e89⟩ : ∃ z, T89.heap = z := ⟨_, rfl⟩
  rw [e89] at hQ89
  obtain ⟨rfl, Nq89, Kq89, V_a1_q89⟩ := hQ89
  replace N0 := Fr.app N0 Nq89
  clear V_a1
  replace O0 := O0.keep Kq89 (allS g_a1 all0)
  replace K0 := K0.trans Kq89 (allS (Or.inl (List.mem_of_getElem? (i := 0) rfl)) all0)
  have V_a1 := V_a1_q89
  refine Goes.step (T' := T89) (g' := (mkF m 181 #[.val (.ref a1), .val (.int p2), .val (.int p3), .val (.int p4), .val (.int p5)] [])) st89 ?_
  rw [flp_step (i := 16) (c := (16 : Int32)) (by decide) rfl (by decide)] at V_a1
  exact nx _ _ _ (X89.mono (by decide) (by decide)) e89 N0 K0 O0 V_a1
set_option maxRecDepth 65536 in
set_option maxHeartbeats 40000000 in
theorem fill_17 (l : Launch) (Z : State) (a0 : Array Value) (hw : ∀ d ∈ tables_1, d.before a0 Z = true) (p : Program) (e : Env) (s : State) (m : MethodId) (below : List Frame) (meth : Method) (c : Code) (Post : Outcome → State → Prop) (hx : p.tables.exec = Jvm.exec) (hby : c.code = method_5_code) (hml : c.maxLocals = 5) (hown : s.vm.findClass "com/example/tariff/tariff/core/decimal/PlainDecimalIsBoundedPinLaw" = some m.cls) (hZ : Z.Warmed39 s.vm) (a1 : Addr) (p2 : Int32) (p3 : Int32) (p4 : Int32) (p5 : Int32) (kc : ClassId) (N : Int32) (h0 : Heap) (n0 : Nat) (g_a1 : n0 ≤ a1)  (T90 : State) (h90 : Heap) (locs90 : List Loc) (X90 : Stand p l e ({ frames := 2, cells := 0, slots := 0, locals := 35 } : Room) s m #[(.ref a1), (.int p2), (.int p3), (.int p4), (.int p5)] below meth c T90 locs90 0 0) (e90 : T90.heap = h90) (N0 : Fr n0 locs90) (K0 : Keep h0 h90 [a1]) (O0 : Old Z n0 h90) (V_a1 : Arv Z h90 a1 kc .char N (FLP p2 p3 p4 p5 17) (.int (0 : Int32))) (nx : ∀ (T91 : State) (h91 : Heap) (locs91 : List Loc) (X91 : Stand p l e ({ frames := 2, cells := 0, slots := 0, locals := 35 } : Room) s m #[(.ref a1), (.int p2), (.int p3), (.int p4), (.int p5)] below meth c T91 locs91 0 0) (e91 : T91.heap = h91) (N0 : Fr n0 locs91) (K0 : Keep h0 h91 [a1]) (O0 : Old Z n0 h91) (V_a1 : Arv Z h91 a1 kc .char N (FLP p2 p3 p4 p5 18) (.int (0 : Int32))), Goes p e below Post T91 (mkF m 192 #[.val (.ref a1), .val (.int p2), .val (.int p3), .val (.int p4), .val (.int p5)] [])) :
    Goes p e below Post T90 (mkF m 181 #[.val (.ref a1), .val (.int p2), .val (.int p3), .val (.int p4), .val (.int p5)] []) := by
  refine Goes.step (T' := T90) (g' := (mkF m 182 #[.val (.ref a1), .val (.int p2), .val (.int p3), .val (.int p4), .val (.int p5)] [(.ref a1)])) (fun _ kz => XS.aloadN X90.here hx rfl (hb hby d_method_5_181) rfl rfl kz) ?_
  refine Goes.step (T' := T90) (g' := (mkF m 184 #[.val (.ref a1), .val (.int p2), .val (.int p3), .val (.int p4), .val (.int p5)] [(.int (17 : Int32)), (.ref a1)])) (fun _ kz => XS.bipush X90.here hx rfl (hb hby d_method_5_182) kz) ?_
  refine Goes.step (T' := T90) (g' := (mkF m 185 #[.val (.ref a1), .val (.int p2), .val (.int p3), .val (.int p4), .val (.int p5)] [(.int p2), (.int (17 : Int32)), (.ref a1)])) (fun _ kz => XS.iloadN X90.here hx rfl (hb hby d_method_5_184) rfl  kz) ?_
  refine Goes.step (T' := T90) (g' := (mkF m 186 #[.val (.ref a1), .val (.int p2), .val (.int p3), .val (.int p4), .val (.int p5)] [(.int p3), (.int p2), (.int (17 : Int32)), (.ref a1)])) (fun _ kz => XS.iloadN X90.here hx rfl (hb hby d_method_5_185) rfl  kz) ?_
  refine Goes.step (T' := T90) (g' := (mkF m 187 #[.val (.ref a1), .val (.int p2), .val (.int p3), .val (.int p4), .val (.int p5)] [(.int p4), (.int p3), (.int p2), (.int (17 : Int32)), (.ref a1)])) (fun _ kz => XS.iloadN X90.here hx rfl (hb hby d_method_5_186) rfl  kz) ?_
  refine Goes.step (T' := T90) (g' := (mkF m 189 #[.val (.ref a1), .val (.int p2), .val (.int p3), .val (.int p4), .val (.int p5)] [(.int p5), (.int p4), (.int p3), (.int p2), (.int (17 : Int32)), (.ref a1)])) (fun _ kz => XS.iload X90.here hx rfl (hb hby d_method_5_187) rfl  kz) ?_
  obtain ⟨_, _, ⟨T92, L92, k92, n92⟩, -, X92, ⟨Lc92, hQ92, l92, y92, z92⟩, st92⟩ := Jvm.LawKit.callS X90 hx (y := (⟨"com/example/tariff/tariff/core/decimal/PlainDecimalIsBoundedPinLaw", "put", "([CIIICI)V"⟩ : MethodName)) hown (mvT hZ (hw _ (List.mem_of_getElem? (i := 6) rfl))) (mvT hZ (hw _ (List.mem_of_getElem? (i := 7) rfl))) (mvT hZ (hw _ (List.mem_of_getElem? (i := 4) rfl))) (mvT hZ (hw _ (List.mem_of_getElem? (i := 8) rfl))) (by decide) (backOf (W := 0) (rm_put l Z a0 hw [] a1 (17 : Int32) p2 p3 p4 p5 (kc) (N) ((FLP p2 p3 p4 p5 17)) ((.int (0 : Int32))) h90 n0 O0  V_a1 g_a1 (by decide) (by rw [flp_len]; decide)) hZ (hw _ (List.mem_of_getElem? (i := 8) rfl)) (hw _ (List.mem_of_getElem? (i := 4) rfl)) (by decide) (by decide)) (g := (mkF m 189 #[.val (.ref a1), .val (.int p2), .val (.int p3), .val (.int p4), .val (.int p5)] [(.int p5), (.int p4), (.int p3), (.int p2), (.int (17 : Int32)), (.ref a1)])) rfl (by rw [hml]; rfl) (argsL := [(.ref a1), (.int (17 : Int32)), (.int p2), (.int p3), (.int p4), (.int p5)]) (rest := []) (lenOf pd_9 rfl) rfl (by show 2 * 0 + _ ≤ _; exact Nat.le_of_eq rfl) (hb hby d_method_5_189) (fun _ _ => ⟨rfl, e90, (by decide : 0 + 0 ≤ _), (by decide : 0 + 0 ≤ _)⟩)
  dsimp only [Pt.U, Pt.locs, Pt.cells, Pt.slots] at X92 l92 y92 z92 st92 hQ92
  subst l92 y92 z92
  obtain ⟨h92, e92⟩ : ∃ z, T92.heap = z := ⟨_, rfl⟩
  rw [e92] at hQ92
  obtain ⟨rfl, Nq92, Kq92, V_a1_q92⟩ := hQ92
  replace N0 := Fr.app N0 Nq92
  clear V_a1
  replace O0 := O0.keep Kq92 (allS g_a1 all0)
  replace K0 := K0.trans Kq92 (allS (Or.inl (List.mem_of_getElem? (i := 0) rfl)) all0)
  have V_a1 := V_a1_q92
  refine Goes.step (T' := T92) (g' := (mkF m 192 #[.val (.ref a1), .val (.int p2), .val (.int p3), .val (.int p4), .val (.int p5)] [])) st92 ?_
  rw [flp_step (i := 17) (c := (17 : Int32)) (by decide) rfl (by decide)] at V_a1
  exact nx _ _ _ (X92.mono (by decide) (by decide)) e92 N0 K0 O0 V_a1
set_option maxRecDepth 65536 in
set_option maxHeartbeats 40000000 in
theorem fill_18 (l : Launch) (Z : State) (a0 : Array Value) (hw : ∀ d ∈ tables_1, d.before a0 Z = true) (p : Program) (e : Env) (s : State) (m : MethodId) (below : List Frame) (meth : Method) (c : Code) (Post : Outcome → State → Prop) (hx : p.tables.exec = Jvm.exec) (hby : c.code = method_5_code) (hml : c.maxLocals = 5) (hown : s.vm.findClass "com/example/tariff/tariff/core/decimal/PlainDecimalIsBoundedPinLaw" = some m.cls) (hZ : Z.Warmed39 s.vm) (a1 : Addr) (p2 : Int32) (p3 : Int32) (p4 : Int32) (p5 : Int32) (kc : ClassId) (N : Int32) (h0 : Heap) (n0 : Nat) (g_a1 : n0 ≤ a1)  (T93 : State) (h93 : Heap) (locs93 : List Loc) (X93 : Stand p l e ({ frames := 2, cells := 0, slots := 0, locals := 35 } : Room) s m #[(.ref a1), (.int p2), (.int p3), (.int p4), (.int p5)] below meth c T93 locs93 0 0) (e93 : T93.heap = h93) (N0 : Fr n0 locs93) (K0 : Keep h0 h93 [a1]) (O0 : Old Z n0 h93) (V_a1 : Arv Z h93 a1 kc .char N (FLP p2 p3 p4 p5 18) (.int (0 : Int32))) (nx : ∀ (T94 : State) (h94 : Heap) (locs94 : List Loc) (X94 : Stand p l e ({ frames := 2, cells := 0, slots := 0, locals := 35 } : Room) s m #[(.ref a1), (.int p2), (.int p3), (.int p4), (.int p5)] below meth c T94 locs94 0 0) (e94 : T94.heap = h94) (N0 : Fr n0 locs94) (K0 : Keep h0 h94 [a1]) (O0 : Old Z n0 h94) (V_a1 : Arv Z h94 a1 kc .char N (FLP p2 p3 p4 p5 19) (.int (0 : Int32))), Goes p e below Post T94 (mkF m 203 #[.val (.ref a1), .val (.int p2), .val (.int p3), .val (.int p4), .val (.int p5)] [])) :
    Goes p e below Post T93 (mkF m 192 #[.val (.ref a1), .val (.int p2), .val (.int p3), .val (.int p4), .val (.int p5)] []) := by
  refine Goes.step (T' := T93) (g' := (mkF m 193 #[.val (.ref a1), .val (.int p2), .val (.int p3), .val (.int p4), .val (.int p5)] [(.ref a1)])) (fun _ kz => XS.aloadN X93.here hx rfl (hb hby d_method_5_192) rfl rfl kz) ?_
  refine Goes.step (T' := T93) (g' := (mkF m 195 #[.val (.ref a1), .val (.int p2), .val (.int p3), .val (.int p4), .val (.int p5)] [(.int (18 : Int32)), (.ref a1)])) (fun _ kz => XS.bipush X93.here hx rfl (hb hby d_method_5_193) kz) ?_
  refine Goes.step (T' := T93) (g' := (mkF m 196 #[.val (.ref a1), .val (.int p2), .val (.int p3), .val (.int p4), .val (.int p5)] [(.int p2), (.int (18 : Int32)), (.ref a1)])) (fun _ kz => XS.iloadN X93.here hx rfl (hb hby d_method_5_195) rfl  kz) ?_
  refine Goes.step (T' := T93) (g' := (mkF m 197 #[.val (.ref a1), .val (.int p2), .val (.int p3), .val (.int p4), .val (.int p5)] [(.int p3), (.int p2), (.int (18 : Int32)), (.ref a1)])) (fun _ kz => XS.iloadN X93.here hx rfl (hb hby d_method_5_196) rfl  kz) ?_
  refine Goes.step (T' := T93) (g' := (mkF m 198 #[.val (.ref a1), .val (.int p2), .val (.int p3), .val (.int p4), .val (.int p5)] [(.int p4), (.int p3), (.int p2), (.int (18 : Int32)), (.ref a1)])) (fun _ kz => XS.iloadN X93.here hx rfl (hb hby d_method_5_197) rfl  kz) ?_
  refine Goes.step (T' := T93) (g' := (mkF m 200 #[.val (.ref a1), .val (.int p2), .val (.int p3), .val (.int p4), .val (.int p5)] [(.int p5), (.int p4), (.int p3), (.int p2), (.int (18 : Int32)), (.ref a1)])) (fun _ kz => XS.iload X93.here hx rfl (hb hby d_method_5_198) rfl  kz) ?_
  obtain ⟨_, _, ⟨T95, L95, k95, n95⟩, -, X95, ⟨Lc95, hQ95, l95, y95, z95⟩, st95⟩ := Jvm.LawKit.callS X93 hx (y := (⟨"com/example/tariff/tariff/core/decimal/PlainDecimalIsBoundedPinLaw", "put", "([CIIICI)V"⟩ : MethodName)) hown (mvT hZ (hw _ (List.mem_of_getElem? (i := 6) rfl))) (mvT hZ (hw _ (List.mem_of_getElem? (i := 7) rfl))) (mvT hZ (hw _ (List.mem_of_getElem? (i := 4) rfl))) (mvT hZ (hw _ (List.mem_of_getElem? (i := 8) rfl))) (by decide) (backOf (W := 0) (rm_put l Z a0 hw [] a1 (18 : Int32) p2 p3 p4 p5 (kc) (N) ((FLP p2 p3 p4 p5 18)) ((.int (0 : Int32))) h93 n0 O0  V_a1 g_a1 (by decide) (by rw [flp_len]; decide)) hZ (hw _ (List.mem_of_getElem? (i := 8) rfl)) (hw _ (List.mem_of_getElem? (i := 4) rfl)) (by decide) (by decide)) (g := (mkF m 200 #[.val (.ref a1), .val (.int p2), .val (.int p3), .val (.int p4), .val (.int p5)] [(.int p5), (.int p4), (.int p3), (.int p2), (.int (18 : Int32)), (.ref a1)])) rfl (by rw [hml]; rfl) (argsL := [(.ref a1), (.int (18 : Int32)), (.int p2), (.int p3), (.int p4), (.int p5)]) (rest := []) (lenOf pd_9 rfl) rfl (by show 2 * 0 + _ ≤ _; exact Nat.le_of_eq rfl) (hb hby d_method_5_200) (fun _ _ => ⟨rfl, e93, (by decide : 0 + 0 ≤ _), (by decide : 0 + 0 ≤ _)⟩)
  dsimp only [Pt.U, Pt.locs, Pt.cells, Pt.slots] at X95 l95 y95 z95 st95 hQ95
  subst l95 y95 z95
  obtain ⟨h95, e95⟩ : ∃ z, T95.heap = z := ⟨_, rfl⟩
  rw [e95] at hQ95
  obtain ⟨rfl, Nq95, Kq95, V_a1_q95⟩ := hQ95
  replace N0 := Fr.app N0 Nq95
  clear V_a1
  replace O0 := O0.keep Kq95 (allS g_a1 all0)
  replace K0 := K0.trans Kq95 (allS (Or.inl (List.mem_of_getElem? (i := 0) rfl)) all0)
  have V_a1 := V_a1_q95
  refine Goes.step (T' := T95) (g' := (mkF m 203 #[.val (.ref a1), .val (.int p2), .val (.int p3), .val (.int p4), .val (.int p5)] [])) st95 ?_
  rw [flp_step (i := 18) (c := (18 : Int32)) (by decide) rfl (by decide)] at V_a1
  exact nx _ _ _ (X95.mono (by decide) (by decide)) e95 N0 K0 O0 V_a1
set_option maxRecDepth 65536 in
set_option maxHeartbeats 40000000 in
theorem fill_19 (l : Launch) (Z : State) (a0 : Array Value) (hw : ∀ d ∈ tables_1, d.before a0 Z = true) (p : Program) (e : Env) (s : State) (m : MethodId) (below : List Frame) (meth : Method) (c : Code) (Post : Outcome → State → Prop) (hx : p.tables.exec = Jvm.exec) (hby : c.code = method_5_code) (hml : c.maxLocals = 5) (hown : s.vm.findClass "com/example/tariff/tariff/core/decimal/PlainDecimalIsBoundedPinLaw" = some m.cls) (hZ : Z.Warmed39 s.vm) (a1 : Addr) (p2 : Int32) (p3 : Int32) (p4 : Int32) (p5 : Int32) (kc : ClassId) (N : Int32) (h0 : Heap) (n0 : Nat) (g_a1 : n0 ≤ a1)  (T96 : State) (h96 : Heap) (locs96 : List Loc) (X96 : Stand p l e ({ frames := 2, cells := 0, slots := 0, locals := 35 } : Room) s m #[(.ref a1), (.int p2), (.int p3), (.int p4), (.int p5)] below meth c T96 locs96 0 0) (e96 : T96.heap = h96) (N0 : Fr n0 locs96) (K0 : Keep h0 h96 [a1]) (O0 : Old Z n0 h96) (V_a1 : Arv Z h96 a1 kc .char N (FLP p2 p3 p4 p5 19) (.int (0 : Int32))) (nx : ∀ (T97 : State) (h97 : Heap) (locs97 : List Loc) (X97 : Stand p l e ({ frames := 2, cells := 0, slots := 0, locals := 35 } : Room) s m #[(.ref a1), (.int p2), (.int p3), (.int p4), (.int p5)] below meth c T97 locs97 0 0) (e97 : T97.heap = h97) (N0 : Fr n0 locs97) (K0 : Keep h0 h97 [a1]) (O0 : Old Z n0 h97) (V_a1 : Arv Z h97 a1 kc .char N (FLP p2 p3 p4 p5 20) (.int (0 : Int32))), Goes p e below Post T97 (mkF m 214 #[.val (.ref a1), .val (.int p2), .val (.int p3), .val (.int p4), .val (.int p5)] [])) :
    Goes p e below Post T96 (mkF m 203 #[.val (.ref a1), .val (.int p2), .val (.int p3), .val (.int p4), .val (.int p5)] []) := by
  refine Goes.step (T' := T96) (g' := (mkF m 204 #[.val (.ref a1), .val (.int p2), .val (.int p3), .val (.int p4), .val (.int p5)] [(.ref a1)])) (fun _ kz => XS.aloadN X96.here hx rfl (hb hby d_method_5_203) rfl rfl kz) ?_
  refine Goes.step (T' := T96) (g' := (mkF m 206 #[.val (.ref a1), .val (.int p2), .val (.int p3), .val (.int p4), .val (.int p5)] [(.int (19 : Int32)), (.ref a1)])) (fun _ kz => XS.bipush X96.here hx rfl (hb hby d_method_5_204) kz) ?_
  refine Goes.step (T' := T96) (g' := (mkF m 207 #[.val (.ref a1), .val (.int p2), .val (.int p3), .val (.int p4), .val (.int p5)] [(.int p2), (.int (19 : Int32)), (.ref a1)])) (fun _ kz => XS.iloadN X96.here hx rfl (hb hby d_method_5_206) rfl  kz) ?_
  refine Goes.step (T' := T96) (g' := (mkF m 208 #[.val (.ref a1), .val (.int p2), .val (.int p3), .val (.int p4), .val (.int p5)] [(.int p3), (.int p2), (.int (19 : Int32)), (.ref a1)])) (fun _ kz => XS.iloadN X96.here hx rfl (hb hby d_method_5_207) rfl  kz) ?_
  refine Goes.step (T' := T96) (g' := (mkF m 209 #[.val (.ref a1), .val (.int p2), .val (.int p3), .val (.int p4), .val (.int p5)] [(.int p4), (.int p3), (.int p2), (.int (19 : Int32)), (.ref a1)])) (fun _ kz => XS.iloadN X96.here hx rfl (hb hby d_method_5_208) rfl  kz) ?_
  refine Goes.step (T' := T96) (g' := (mkF m 211 #[.val (.ref a1), .val (.int p2), .val (.int p3), .val (.int p4), .val (.int p5)] [(.int p5), (.int p4), (.int p3), (.int p2), (.int (19 : Int32)), (.ref a1)])) (fun _ kz => XS.iload X96.here hx rfl (hb hby d_method_5_209) rfl  kz) ?_
  obtain ⟨_, _, ⟨T98, L98, k98, n98⟩, -, X98, ⟨Lc98, hQ98, l98, y98, z98⟩, st98⟩ := Jvm.LawKit.callS X96 hx (y := (⟨"com/example/tariff/tariff/core/decimal/PlainDecimalIsBoundedPinLaw", "put", "([CIIICI)V"⟩ : MethodName)) hown (mvT hZ (hw _ (List.mem_of_getElem? (i := 6) rfl))) (mvT hZ (hw _ (List.mem_of_getElem? (i := 7) rfl))) (mvT hZ (hw _ (List.mem_of_getElem? (i := 4) rfl))) (mvT hZ (hw _ (List.mem_of_getElem? (i := 8) rfl))) (by decide) (backOf (W := 0) (rm_put l Z a0 hw [] a1 (19 : Int32) p2 p3 p4 p5 (kc) (N) ((FLP p2 p3 p4 p5 19)) ((.int (0 : Int32))) h96 n0 O0  V_a1 g_a1 (by decide) (by rw [flp_len]; decide)) hZ (hw _ (List.mem_of_getElem? (i := 8) rfl)) (hw _ (List.mem_of_getElem? (i := 4) rfl)) (by decide) (by decide)) (g := (mkF m 211 #[.val (.ref a1), .val (.int p2), .val (.int p3), .val (.int p4), .val (.int p5)] [(.int p5), (.int p4), (.int p3), (.int p2), (.int (19 : Int32)), (.ref a1)])) rfl (by rw [hml]; rfl) (argsL := [(.ref a1), (.int (19 : Int32)), (.int p2), (.int p3), (.int p4), (.int p5)]) (rest := []) (lenOf pd_9 rfl) rfl (by show 2 * 0 + _ ≤ _; exact Nat.le_of_eq rfl) (hb hby d_method_5_211) (fun _ _ => ⟨rfl, e96, (by decide : 0 + 0 ≤ _), (by decide : 0 + 0 ≤ _)⟩)
  dsimp only [Pt.U, Pt.locs, Pt.cells, Pt.slots] at X98 l98 y98 z98 st98 hQ98
  subst l98 y98 z98
  obtain ⟨h98, e98⟩ : ∃ z, T98.heap = z := ⟨_, rfl⟩
  rw [e98] at hQ98
  obtain ⟨rfl, Nq98, Kq98, V_a1_q98⟩ := hQ98
  replace N0 := Fr.app N0 Nq98
  clear V_a1
  replace O0 := O0.keep Kq98 (allS g_a1 all0)
  replace K0 := K0.trans Kq98 (allS (Or.inl (List.mem_of_getElem? (i := 0) rfl)) all0)
  have V_a1 := V_a1_q98
  refine Goes.step (T' := T98) (g' := (mkF m 214 #[.val (.ref a1), .val (.int p2), .val (.int p3), .val (.int p4), .val (.int p5)] [])) st98 ?_
  rw [flp_step (i := 19) (c := (19 : Int32)) (by decide) rfl (by decide)] at V_a1
  exact nx _ _ _ (X98.mono (by decide) (by decide)) e98 N0 K0 O0 V_a1
set_option maxRecDepth 65536 in
set_option maxHeartbeats 40000000 in
theorem fill_20 (l : Launch) (Z : State) (a0 : Array Value) (hw : ∀ d ∈ tables_1, d.before a0 Z = true) (p : Program) (e : Env) (s : State) (m : MethodId) (below : List Frame) (meth : Method) (c : Code) (Post : Outcome → State → Prop) (hx : p.tables.exec = Jvm.exec) (hby : c.code = method_5_code) (hml : c.maxLocals = 5) (hown : s.vm.findClass "com/example/tariff/tariff/core/decimal/PlainDecimalIsBoundedPinLaw" = some m.cls) (hZ : Z.Warmed39 s.vm) (a1 : Addr) (p2 : Int32) (p3 : Int32) (p4 : Int32) (p5 : Int32) (kc : ClassId) (N : Int32) (h0 : Heap) (n0 : Nat) (g_a1 : n0 ≤ a1)  (T99 : State) (h99 : Heap) (locs99 : List Loc) (X99 : Stand p l e ({ frames := 2, cells := 0, slots := 0, locals := 35 } : Room) s m #[(.ref a1), (.int p2), (.int p3), (.int p4), (.int p5)] below meth c T99 locs99 0 0) (e99 : T99.heap = h99) (N0 : Fr n0 locs99) (K0 : Keep h0 h99 [a1]) (O0 : Old Z n0 h99) (V_a1 : Arv Z h99 a1 kc .char N (FLP p2 p3 p4 p5 20) (.int (0 : Int32))) (nx : ∀ (T100 : State) (h100 : Heap) (locs100 : List Loc) (X100 : Stand p l e ({ frames := 2, cells := 0, slots := 0, locals := 35 } : Room) s m #[(.ref a1), (.int p2), (.int p3), (.int p4), (.int p5)] below meth c T100 locs100 0 0) (e100 : T100.heap = h100) (N0 : Fr n0 locs100) (K0 : Keep h0 h100 [a1]) (O0 : Old Z n0 h100) (V_a1 : Arv Z h100 a1 kc .char N (FLP p2 p3 p4 p5 21) (.int (0 : Int32))), Goes p e below Post T100 (mkF m 225 #[.val (.ref a1), .val (.int p2), .val (.int p3), .val (.int p4), .val (.int p5)] [])) :
    Goes p e below Post T99 (mkF m 214 #[.val (.ref a1), .val (.int p2), .val (.int p3), .val (.int p4), .val (.int p5)] []) := by
  refine Goes.step (T' := T99) (g' := (mkF m 215 #[.val (.ref a1), .val (.int p2), .val (.int p3), .val (.int p4), .val (.int p5)] [(.ref a1)])) (fun _ kz => XS.aloadN X99.here hx rfl (hb hby d_method_5_214) rfl rfl kz) ?_
  refine Goes.step (T' := T99) (g' := (mkF m 217 #[.val (.ref a1), .val (.int p2), .val (.int p3), .val (.int p4), .val (.int p5)] [(.int (20 : Int32)), (.ref a1)])) (fun _ kz => XS.bipush X99.here hx rfl (hb hby d_method_5_215) kz) ?_
  refine Goes.step (T' := T99) (g' := (mkF m 218 #[.val (.ref a1), .val (.int p2), .val (.int p3), .val (.int p4), .val (.int p5)] [(.int p2), (.int (20 : Int32)), (.ref a1)])) (fun _ kz => XS.iloadN X99.here hx rfl (hb hby d_method_5_217) rfl  kz) ?_
  refine Goes.step (T' := T99) (g' := (mkF m 219 #[.val (.ref a1), .val (.int p2), .val (.int p3), .val (.int p4), .val (.int p5)] [(.int p3), (.int p2), (.int (20 : Int32)), (.ref a1)])) (fun _ kz => XS.iloadN X99.here hx rfl (hb hby d_method_5_218) rfl  kz) ?_
  refine Goes.step (T' := T99) (g' := (mkF m 220 #[.val (.ref a1), .val (.int p2), .val (.int p3), .val (.int p4), .val (.int p5)] [(.int p4), (.int p3), (.int p2), (.int (20 : Int32)), (.ref a1)])) (fun _ kz => XS.iloadN X99.here hx rfl (hb hby d_method_5_219) rfl  kz) ?_
  refine Goes.step (T' := T99) (g' := (mkF m 222 #[.val (.ref a1), .val (.int p2), .val (.int p3), .val (.int p4), .val (.int p5)] [(.int p5), (.int p4), (.int p3), (.int p2), (.int (20 : Int32)), (.ref a1)])) (fun _ kz => XS.iload X99.here hx rfl (hb hby d_method_5_220) rfl  kz) ?_
  obtain ⟨_, _, ⟨T101, L101, k101, n101⟩, -, X101, ⟨Lc101, hQ101, l101, y101, z101⟩, st101⟩ := Jvm.LawKit.callS X99 hx (y := (⟨"com/example/tariff/tariff/core/decimal/PlainDecimalIsBoundedPinLaw", "put", "([CIIICI)V"⟩ : MethodName)) hown (mvT hZ (hw _ (List.mem_of_getElem? (i := 6) rfl))) (mvT hZ (hw _ (List.mem_of_getElem? (i := 7) rfl))) (mvT hZ (hw _ (List.mem_of_getElem? (i := 4) rfl))) (mvT hZ (hw _ (List.mem_of_getElem? (i := 8) rfl))) (by decide) (backOf (W := 0) (rm_put l Z a0 hw [] a1 (20 : Int32) p2 p3 p4 p5 (kc) (N) ((FLP p2 p3 p4 p5 20)) ((.int (0 : Int32))) h99 n0 O0  V_a1 g_a1 (by decide) (by rw [flp_len]; decide)) hZ (hw _ (List.mem_of_getElem? (i := 8) rfl)) (hw _ (List.mem_of_getElem? (i := 4) rfl)) (by decide) (by decide)) (g := (mkF m 222 #[.val (.ref a1), .val (.int p2), .val (.int p3), .val (.int p4), .val (.int p5)] [(.int p5), (.int p4), (.int p3), (.int p2), (.int (20 : Int32)), (.ref a1)])) rfl (by rw [hml]; rfl) (argsL := [(.ref a1), (.int (20 : Int32)), (.int p2), (.int p3), (.int p4), (.int p5)]) (rest := []) (lenOf pd_9 rfl) rfl (by show 2 * 0 + _ ≤ _; exact Nat.le_of_eq rfl) (hb hby d_method_5_222) (fun _ _ => ⟨rfl, e99, (by decide : 0 + 0 ≤ _), (by decide : 0 + 0 ≤ _)⟩)
  dsimp only [Pt.U, Pt.locs, Pt.cells, Pt.slots] at X101 l101 y101 z101 st101 hQ101
  subst l101 y101 z101
  obtain ⟨h101, e101⟩ : ∃ z, T101.heap = z := ⟨_, rfl⟩
  rw [e101] at hQ101
  obtain ⟨rfl, Nq101, Kq101, V_a1_q101⟩ := hQ101
  replace N0 := Fr.app N0 Nq101
  clear V_a1
  replace O0 := O0.keep Kq101 (allS g_a1 all0)
  replace K0 := K0.trans Kq101 (allS (Or.inl (List.mem_of_getElem? (i := 0) rfl)) all0)
  have V_a1 := V_a1_q101
  refine Goes.step (T' := T101) (g' := (mkF m 225 #[.val (.ref a1), .val (.int p2), .val (.int p3), .val (.int p4), .val (.int p5)] [])) st101 ?_
  rw [flp_step (i := 20) (c := (20 : Int32)) (by decide) rfl (by decide)] at V_a1
  exact nx _ _ _ (X101.mono (by decide) (by decide)) e101 N0 K0 O0 V_a1
set_option maxRecDepth 65536 in
set_option maxHeartbeats 40000000 in
theorem fill_21 (l : Launch) (Z : State) (a0 : Array Value) (hw : ∀ d ∈ tables_1, d.before a0 Z = true) (p : Program) (e : Env) (s : State) (m : MethodId) (below : List Frame) (meth : Method) (c : Code) (Post : Outcome → State → Prop) (hx : p.tables.exec = Jvm.exec) (hby : c.code = method_5_code) (hml : c.maxLocals = 5) (hown : s.vm.findClass "com/example/tariff/tariff/core/decimal/PlainDecimalIsBoundedPinLaw" = some m.cls) (hZ : Z.Warmed39 s.vm) (a1 : Addr) (p2 : Int32) (p3 : Int32) (p4 : Int32) (p5 : Int32) (kc : ClassId) (N : Int32) (h0 : Heap) (n0 : Nat) (g_a1 : n0 ≤ a1)  (T102 : State) (h102 : Heap) (locs102 : List Loc) (X102 : Stand p l e ({ frames := 2, cells := 0, slots := 0, locals := 35 } : Room) s m #[(.ref a1), (.int p2), (.int p3), (.int p4), (.int p5)] below meth c T102 locs102 0 0) (e102 : T102.heap = h102) (N0 : Fr n0 locs102) (K0 : Keep h0 h102 [a1]) (O0 : Old Z n0 h102) (V_a1 : Arv Z h102 a1 kc .char N (FLP p2 p3 p4 p5 21) (.int (0 : Int32))) (nx : ∀ (T103 : State) (h103 : Heap) (locs103 : List Loc) (X103 : Stand p l e ({ frames := 2, cells := 0, slots := 0, locals := 35 } : Room) s m #[(.ref a1), (.int p2), (.int p3), (.int p4), (.int p5)] below meth c T103 locs103 0 0) (e103 : T103.heap = h103) (N0 : Fr n0 locs103) (K0 : Keep h0 h103 [a1]) (O0 : Old Z n0 h103) (V_a1 : Arv Z h103 a1 kc .char N (FLP p2 p3 p4 p5 22) (.int (0 : Int32))), Goes p e below Post T103 (mkF m 236 #[.val (.ref a1), .val (.int p2), .val (.int p3), .val (.int p4), .val (.int p5)] [])) :
    Goes p e below Post T102 (mkF m 225 #[.val (.ref a1), .val (.int p2), .val (.int p3), .val (.int p4), .val (.int p5)] []) := by
  refine Goes.step (T' := T102) (g' := (mkF m 226 #[.val (.ref a1), .val (.int p2), .val (.int p3), .val (.int p4), .val (.int p5)] [(.ref a1)])) (fun _ kz => XS.aloadN X102.here hx rfl (hb hby d_method_5_225) rfl rfl kz) ?_
  refine Goes.step (T' := T102) (g' := (mkF m 228 #[.val (.ref a1), .val (.int p2), .val (.int p3), .val (.int p4), .val (.int p5)] [(.int (21 : Int32)), (.ref a1)])) (fun _ kz => XS.bipush X102.here hx rfl (hb hby d_method_5_226) kz) ?_
  refine Goes.step (T' := T102) (g' := (mkF m 229 #[.val (.ref a1), .val (.int p2), .val (.int p3), .val (.int p4), .val (.int p5)] [(.int p2), (.int (21 : Int32)), (.ref a1)])) (fun _ kz => XS.iloadN X102.here hx rfl (hb hby d_method_5_228) rfl  kz) ?_
  refine Goes.step (T' := T102) (g' := (mkF m 230 #[.val (.ref a1), .val (.int p2), .val (.int p3), .val (.int p4), .val (.int p5)] [(.int p3), (.int p2), (.int (21 : Int32)), (.ref a1)])) (fun _ kz => XS.iloadN X102.here hx rfl (hb hby d_method_5_229) rfl  kz) ?_
  refine Goes.step (T' := T102) (g' := (mkF m 231 #[.val (.ref a1), .val (.int p2), .val (.int p3), .val (.int p4), .val (.int p5)] [(.int p4), (.int p3), (.int p2), (.int (21 : Int32)), (.ref a1)])) (fun _ kz => XS.iloadN X102.here hx rfl (hb hby d_method_5_230) rfl  kz) ?_
  refine Goes.step (T' := T102) (g' := (mkF m 233 #[.val (.ref a1), .val (.int p2), .val (.int p3), .val (.int p4), .val (.int p5)] [(.int p5), (.int p4), (.int p3), (.int p2), (.int (21 : Int32)), (.ref a1)])) (fun _ kz => XS.iload X102.here hx rfl (hb hby d_method_5_231) rfl  kz) ?_
  obtain ⟨_, _, ⟨T104, L104, k104, n104⟩, -, X104, ⟨Lc104, hQ104, l104, y104, z104⟩, st104⟩ := Jvm.LawKit.callS X102 hx (y := (⟨"com/example/tariff/tariff/core/decimal/PlainDecimalIsBoundedPinLaw", "put", "([CIIICI)V"⟩ : MethodName)) hown (mvT hZ (hw _ (List.mem_of_getElem? (i := 6) rfl))) (mvT hZ (hw _ (List.mem_of_getElem? (i := 7) rfl))) (mvT hZ (hw _ (List.mem_of_getElem? (i := 4) rfl))) (mvT hZ (hw _ (List.mem_of_getElem? (i := 8) rfl))) (by decide) (backOf (W := 0) (rm_put l Z a0 hw [] a1 (21 : Int32) p2 p3 p4 p5 (kc) (N) ((FLP p2 p3 p4 p5 21)) ((.int (0 : Int32))) h102 n0 O0  V_a1 g_a1 (by decide) (by rw [flp_len]; decide)) hZ (hw _ (List.mem_of_getElem? (i := 8) rfl)) (hw _ (List.mem_of_getElem? (i := 4) rfl)) (by decide) (by decide)) (g := (mkF m 233 #[.val (.ref a1), .val (.int p2), .val (.int p3), .val (.int p4), .val (.int p5)] [(.int p5), (.int p4), (.int p3), (.int p2), (.int (21 : Int32)), (.ref a1)])) rfl (by rw [hml]; rfl) (argsL := [(.ref a1), (.int (21 : Int32)), (.int p2), (.int p3), (.int p4), (.int p5)]) (rest := []) (lenOf pd_9 rfl) rfl (by show 2 * 0 + _ ≤ _; exact Nat.le_of_eq rfl) (hb hby d_method_5_233) (fun _ _ => ⟨rfl, e102, (by decide : 0 + 0 ≤ _), (by decide : 0 + 0 ≤ _)⟩)
  dsimp only [Pt.U, Pt.locs, Pt.cells, Pt.slots] at X104 l104 y104 z104 st104 hQ104
  subst l104 y104 z104
  obtain ⟨h104, e104⟩ : ∃ z, T104.heap = z := ⟨_, rfl⟩
  rw [e104] at hQ104
  obtain ⟨rfl, Nq104, Kq104, V_a1_q104⟩ := hQ104
  replace N0 := Fr.app N0 Nq104
  clear V_a1
  replace O0 := O0.keep Kq104 (allS g_a1 all0)
  replace K0 := K0.trans Kq104 (allS (Or.inl (List.mem_of_getElem? (i := 0) rfl)) all0)
  have V_a1 := V_a1_q104
  refine Goes.step (T' := T104) (g' := (mkF m 236 #[.val (.ref a1), .val (.int p2), .val (.int p3), .val (.int p4), .val (.int p5)] [])) st104 ?_
  rw [flp_step (i := 21) (c := (21 : Int32)) (by decide) rfl (by decide)] at V_a1
  exact nx _ _ _ (X104.mono (by decide) (by decide)) e104 N0 K0 O0 V_a1
set_option maxRecDepth 65536 in
set_option maxHeartbeats 40000000 in
theorem fill_22 (l : Launch) (Z : State) (a0 : Array Value) (hw : ∀ d ∈ tables_1, d.before a0 Z = true) (p : Program) (e : Env) (s : State) (m : MethodId) (below : List Frame) (meth : Method) (c : Code) (Post : Outcome → State → Prop) (hx : p.tables.exec = Jvm.exec) (hby : c.code = method_5_code) (hml : c.maxLocals = 5) (hown : s.vm.findClass "com/example/tariff/tariff/core/decimal/PlainDecimalIsBoundedPinLaw" = some m.cls) (hZ : Z.Warmed39 s.vm) (a1 : Addr) (p2 : Int32) (p3 : Int32) (p4 : Int32) (p5 : Int32) (kc : ClassId) (N : Int32) (h0 : Heap) (n0 : Nat) (g_a1 : n0 ≤ a1)  (T105 : State) (h105 : Heap) (locs105 : List Loc) (X105 : Stand p l e ({ frames := 2, cells := 0, slots := 0, locals := 35 } : Room) s m #[(.ref a1), (.int p2), (.int p3), (.int p4), (.int p5)] below meth c T105 locs105 0 0) (e105 : T105.heap = h105) (N0 : Fr n0 locs105) (K0 : Keep h0 h105 [a1]) (O0 : Old Z n0 h105) (V_a1 : Arv Z h105 a1 kc .char N (FLP p2 p3 p4 p5 22) (.int (0 : Int32))) (nx : ∀ (T106 : State) (h106 : Heap) (locs106 : List Loc) (X106 : Stand p l e ({ frames := 2, cells := 0, slots := 0, locals := 35 } : Room) s m #[(.ref a1), (.int p2), (.int p3), (.int p4), (.int p5)] below meth c T106 locs106 0 0) (e106 : T106.heap = h106) (N0 : Fr n0 locs106) (K0 : Keep h0 h106 [a1]) (O0 : Old Z n0 h106) (V_a1 : Arv Z h106 a1 kc .char N (FLP p2 p3 p4 p5 23) (.int (0 : Int32))), Goes p e below Post T106 (mkF m 247 #[.val (.ref a1), .val (.int p2), .val (.int p3), .val (.int p4), .val (.int p5)] [])) :
    Goes p e below Post T105 (mkF m 236 #[.val (.ref a1), .val (.int p2), .val (.int p3), .val (.int p4), .val (.int p5)] []) := by
  refine Goes.step (T' := T105) (g' := (mkF m 237 #[.val (.ref a1), .val (.int p2), .val (.int p3), .val (.int p4), .val (.int p5)] [(.ref a1)])) (fun _ kz => XS.aloadN X105.here hx rfl (hb hby d_method_5_236) rfl rfl kz) ?_
  refine Goes.step (T' := T105) (g' := (mkF m 239 #[.val (.ref a1), .val (.int p2), .val (.int p3), .val (.int p4), .val (.int p5)] [(.int (22 : Int32)), (.ref a1)])) (fun _ kz => XS.bipush X105.here hx rfl (hb hby d_method_5_237) kz) ?_
  refine Goes.step (T' := T105) (g' := (mkF m 240 #[.val (.ref a1), .val (.int p2), .val (.int p3), .val (.int p4), .val (.int p5)] [(.int p2), (.int (22 : Int32)), (.ref a1)])) (fun _ kz => XS.iloadN X105.here hx rfl (hb hby d_method_5_239) rfl  kz) ?_
  refine Goes.step (T' := T105) (g' := (mkF m 241 #[.val (.ref a1), .val (.int p2), .val (.int p3), .val (.int p4), .val (.int p5)] [(.int p3), (.int p2), (.int (22 : Int32)), (.ref a1)])) (fun _ kz => XS.iloadN X105.here hx rfl (hb hby d_method_5_240) rfl  kz) ?_
  refine Goes.step (T' := T105) (g' := (mkF m 242 #[.val (.ref a1), .val (.int p2), .val (.int p3), .val (.int p4), .val (.int p5)] [(.int p4), (.int p3), (.int p2), (.int (22 : Int32)), (.ref a1)])) (fun _ kz => XS.iloadN X105.here hx rfl (hb hby d_method_5_241) rfl  kz) ?_
  refine Goes.step (T' := T105) (g' := (mkF m 244 #[.val (.ref a1), .val (.int p2), .val (.int p3), .val (.int p4), .val (.int p5)] [(.int p5), (.int p4), (.int p3), (.int p2), (.int (22 : Int32)), (.ref a1)])) (fun _ kz => XS.iload X105.here hx rfl (hb hby d_method_5_242) rfl  kz) ?_
  obtain ⟨_, _, ⟨T107, L107, k107, n107⟩, -, X107, ⟨Lc107, hQ107, l107, y107, z107⟩, st107⟩ := Jvm.LawKit.callS X105 hx (y := (⟨"com/example/tariff/tariff/core/decimal/PlainDecimalIsBoundedPinLaw", "put", "([CIIICI)V"⟩ : MethodName)) hown (mvT hZ (hw _ (List.mem_of_getElem? (i := 6) rfl))) (mvT hZ (hw _ (List.mem_of_getElem? (i := 7) rfl))) (mvT hZ (hw _ (List.mem_of_getElem? (i := 4) rfl))) (mvT hZ (hw _ (List.mem_of_getElem? (i := 8) rfl))) (by decide) (backOf (W := 0) (rm_put l Z a0 hw [] a1 (22 : Int32) p2 p3 p4 p5 (kc) (N) ((FLP p2 p3 p4 p5 22)) ((.int (0 : Int32))) h105 n0 O0  V_a1 g_a1 (by decide) (by rw [flp_len]; decide)) hZ (hw _ (List.mem_of_getElem? (i := 8) rfl)) (hw _ (List.mem_of_getElem? (i := 4) rfl)) (by decide) (by decide)) (g := (mkF m 244 #[.val (.ref a1), .val (.int p2), .val (.int p3), .val (.int p4), .val (.int p5)] [(.int p5), (.int p4), (.int p3), (.int p2), (.int (22 : Int32)), (.ref a1)])) rfl (by rw [hml]; rfl) (argsL := [(.ref a1), (.int (22 : Int32)), (.int p2), (.int p3), (.int p4), (.int p5)]) (rest := []) (lenOf pd_9 rfl) rfl (by show 2 * 0 + _ ≤ _; exact Nat.le_of_eq rfl) (hb hby d_method_5_244) (fun _ _ => ⟨rfl, e105, (by decide : 0 + 0 ≤ _), (by decide : 0 + 0 ≤ _)⟩)
  dsimp only [Pt.U, Pt.locs, Pt.cells, Pt.slots] at X107 l107 y107 z107 st107 hQ107
  subst l107 y107 z107
  obtain ⟨h107, e107⟩ : ∃ z, T107.heap = z := ⟨_, rfl⟩
  rw [e107] at hQ107
  obtain ⟨rfl, Nq107, Kq107, V_a1_q107⟩ := hQ107
  replace N0 := Fr.app N0 Nq107
  clear V_a1
  replace O0 := O0.keep Kq107 (allS g_a1 all0)
  replace K0 := K0.trans Kq107 (allS (Or.inl (List.mem_of_getElem? (i := 0) rfl)) all0)
  have V_a1 := V_a1_q107
  refine Goes.step (T' := T107) (g' := (mkF m 247 #[.val (.ref a1), .val (.int p2), .val (.int p3), .val (.int p4), .val (.int p5)] [])) st107 ?_
  rw [flp_step (i := 22) (c := (22 : Int32)) (by decide) rfl (by decide)] at V_a1
  exact nx _ _ _ (X107.mono (by decide) (by decide)) e107 N0 K0 O0 V_a1
set_option maxRecDepth 65536 in
set_option maxHeartbeats 40000000 in
theorem fill_23 (l : Launch) (Z : State) (a0 : Array Value) (hw : ∀ d ∈ tables_1, d.before a0 Z = true) (p : Program) (e : Env) (s : State) (m : MethodId) (below : List Frame) (meth : Method) (c : Code) (Post : Outcome → State → Prop) (hx : p.tables.exec = Jvm.exec) (hby : c.code = method_5_code) (hml : c.maxLocals = 5) (hown : s.vm.findClass "com/example/tariff/tariff/core/decimal/PlainDecimalIsBoundedPinLaw" = some m.cls) (hZ : Z.Warmed39 s.vm) (a1 : Addr) (p2 : Int32) (p3 : Int32) (p4 : Int32) (p5 : Int32) (kc : ClassId) (N : Int32) (h0 : Heap) (n0 : Nat) (g_a1 : n0 ≤ a1)  (T108 : State) (h108 : Heap) (locs108 : List Loc) (X108 : Stand p l e ({ frames := 2, cells := 0, slots := 0, locals := 35 } : Room) s m #[(.ref a1), (.int p2), (.int p3), (.int p4), (.int p5)] below meth c T108 locs108 0 0) (e108 : T108.heap = h108) (N0 : Fr n0 locs108) (K0 : Keep h0 h108 [a1]) (O0 : Old Z n0 h108) (V_a1 : Arv Z h108 a1 kc .char N (FLP p2 p3 p4 p5 23) (.int (0 : Int32))) (nx : ∀ (T109 : State) (h109 : Heap) (locs109 : List Loc) (X109 : Stand p l e ({ frames := 2, cells := 0, slots := 0, locals := 35 } : Room) s m #[(.ref a1), (.int p2), (.int p3), (.int p4), (.int p5)] below meth c T109 locs109 0 0) (e109 : T109.heap = h109) (N0 : Fr n0 locs109) (K0 : Keep h0 h109 [a1]) (O0 : Old Z n0 h109) (V_a1 : Arv Z h109 a1 kc .char N (FLP p2 p3 p4 p5 24) (.int (0 : Int32))), Goes p e below Post T109 (mkF m 258 #[.val (.ref a1), .val (.int p2), .val (.int p3), .val (.int p4), .val (.int p5)] [])) :
    Goes p e below Post T108 (mkF m 247 #[.val (.ref a1), .val (.int p2), .val (.int p3), .val (.int p4), .val (.int p5)] []) := by
  refine Goes.step (T' := T108) (g' := (mkF m 248 #[.val (.ref a1), .val (.int p2), .val (.int p3), .val (.int p4), .val (.int p5)] [(.ref a1)])) (fun _ kz => XS.aloadN X108.here hx rfl (hb hby d_method_5_247) rfl rfl kz) ?_
  refine Goes.step (T' := T108) (g' := (mkF m 250 #[.val (.ref a1), .val (.int p2), .val (.int p3), .val (.int p4), .val (.int p5)] [(.int (23 : Int32)), (.ref a1)])) (fun _ kz => XS.bipush X108.here hx rfl (hb hby d_method_5_248) kz) ?_
  refine Goes.step (T' := T108) (g' := (mkF m 251 #[.val (.ref a1), .val (.int p2), .val (.int p3), .val (.int p4), .val (.int p5)] [(.int p2), (.int (23 : Int32)), (.ref a1)])) (fun _ kz => XS.iloadN X108.here hx rfl (hb hby d_method_5_250) rfl  kz) ?_
  refine Goes.step (T' := T108) (g' := (mkF m 252 #[.val (.ref a1), .val (.int p2), .val (.int p3), .val (.int p4), .val (.int p5)] [(.int p3), (.int p2), (.int (23 : Int32)), (.ref a1)])) (fun _ kz => XS.iloadN X108.here hx rfl (hb hby d_method_5_251) rfl  kz) ?_
  refine Goes.step (T' := T108) (g' := (mkF m 253 #[.val (.ref a1), .val (.int p2), .val (.int p3), .val (.int p4), .val (.int p5)] [(.int p4), (.int p3), (.int p2), (.int (23 : Int32)), (.ref a1)])) (fun _ kz => XS.iloadN X108.here hx rfl (hb hby d_method_5_252) rfl  kz) ?_
  refine Goes.step (T' := T108) (g' := (mkF m 255 #[.val (.ref a1), .val (.int p2), .val (.int p3), .val (.int p4), .val (.int p5)] [(.int p5), (.int p4), (.int p3), (.int p2), (.int (23 : Int32)), (.ref a1)])) (fun _ kz => XS.iload X108.here hx rfl (hb hby d_method_5_253) rfl  kz) ?_
  obtain ⟨_, _, ⟨T110, L110, k110, n110⟩, -, X110, ⟨Lc110, hQ110, l110, y110, z110⟩, st110⟩ := Jvm.LawKit.callS X108 hx (y := (⟨"com/example/tariff/tariff/core/decimal/PlainDecimalIsBoundedPinLaw", "put", "([CIIICI)V"⟩ : MethodName)) hown (mvT hZ (hw _ (List.mem_of_getElem? (i := 6) rfl))) (mvT hZ (hw _ (List.mem_of_getElem? (i := 7) rfl))) (mvT hZ (hw _ (List.mem_of_getElem? (i := 4) rfl))) (mvT hZ (hw _ (List.mem_of_getElem? (i := 8) rfl))) (by decide) (backOf (W := 0) (rm_put l Z a0 hw [] a1 (23 : Int32) p2 p3 p4 p5 (kc) (N) ((FLP p2 p3 p4 p5 23)) ((.int (0 : Int32))) h108 n0 O0  V_a1 g_a1 (by decide) (by rw [flp_len]; decide)) hZ (hw _ (List.mem_of_getElem? (i := 8) rfl)) (hw _ (List.mem_of_getElem? (i := 4) rfl)) (by decide) (by decide)) (g := (mkF m 255 #[.val (.ref a1), .val (.int p2), .val (.int p3), .val (.int p4), .val (.int p5)] [(.int p5), (.int p4), (.int p3), (.int p2), (.int (23 : Int32)), (.ref a1)])) rfl (by rw [hml]; rfl) (argsL := [(.ref a1), (.int (23 : Int32)), (.int p2), (.int p3), (.int p4), (.int p5)]) (rest := []) (lenOf pd_9 rfl) rfl (by show 2 * 0 + _ ≤ _; exact Nat.le_of_eq rfl) (hb hby d_method_5_255) (fun _ _ => ⟨rfl, e108, (by decide : 0 + 0 ≤ _), (by decide : 0 + 0 ≤ _)⟩)
  dsimp only [Pt.U, Pt.locs, Pt.cells, Pt.slots] at X110 l110 y110 z110 st110 hQ110
  subst l110 y110 z110
  obtain ⟨h110, e110⟩ : ∃ z, T110.heap = z := ⟨_, rfl⟩
  rw [e110] at hQ110
  obtain ⟨rfl, Nq110, Kq110, V_a1_q110⟩ := hQ110
  replace N0 := Fr.app N0 Nq110
  clear V_a1
  replace O0 := O0.keep Kq110 (allS g_a1 all0)
  replace K0 := K0.trans Kq110 (allS (Or.inl (List.mem_of_getElem? (i := 0) rfl)) all0)
  have V_a1 := V_a1_q110
  refine Goes.step (T' := T110) (g' := (mkF m 258 #[.val (.ref a1), .val (.int p2), .val (.int p3), .val (.int p4), .val (.int p5)] [])) st110 ?_
  rw [flp_step (i := 23) (c := (23 : Int32)) (by decide) rfl (by decide)] at V_a1
  exact nx _ _ _ (X110.mono (by decide) (by decide)) e110 N0 K0 O0 V_a1
set_option maxRecDepth 65536 in
set_option maxHeartbeats 40000000 in
theorem fill_24 (l : Launch) (Z : State) (a0 : Array Value) (hw : ∀ d ∈ tables_1, d.before a0 Z = true) (p : Program) (e : Env) (s : State) (m : MethodId) (below : List Frame) (meth : Method) (c : Code) (Post : Outcome → State → Prop) (hx : p.tables.exec = Jvm.exec) (hby : c.code = method_5_code) (hml : c.maxLocals = 5) (hown : s.vm.findClass "com/example/tariff/tariff/core/decimal/PlainDecimalIsBoundedPinLaw" = some m.cls) (hZ : Z.Warmed39 s.vm) (a1 : Addr) (p2 : Int32) (p3 : Int32) (p4 : Int32) (p5 : Int32) (kc : ClassId) (N : Int32) (h0 : Heap) (n0 : Nat) (g_a1 : n0 ≤ a1)  (T111 : State) (h111 : Heap) (locs111 : List Loc) (X111 : Stand p l e ({ frames := 2, cells := 0, slots := 0, locals := 35 } : Room) s m #[(.ref a1), (.int p2), (.int p3), (.int p4), (.int p5)] below meth c T111 locs111 0 0) (e111 : T111.heap = h111) (N0 : Fr n0 locs111) (K0 : Keep h0 h111 [a1]) (O0 : Old Z n0 h111) (V_a1 : Arv Z h111 a1 kc .char N (FLP p2 p3 p4 p5 24) (.int (0 : Int32))) (nx : ∀ (T112 : State) (h112 : Heap) (locs112 : List Loc) (X112 : Stand p l e ({ frames := 2, cells := 0, slots := 0, locals := 35 } : Room) s m #[(.ref a1), (.int p2), (.int p3), (.int p4), (.int p5)] below meth c T112 locs112 0 0) (e112 : T112.heap = h112) (N0 : Fr n0 locs112) (K0 : Keep h0 h112 [a1]) (O0 : Old Z n0 h112) (V_a1 : Arv Z h112 a1 kc .char N (FLP p2 p3 p4 p5 25) (.int (0 : Int32))), Goes p e below Post T112 (mkF m 269 #[.val (.ref a1), .val (.int p2), .val (.int p3), .val (.int p4), .val (.int p5)] [])) :
    Goes p e below Post T111 (mkF m 258 #[.val (.ref a1), .val (.int p2), .val (.int p3), .val (.int p4), .val (.int p5)] []) := by
  refine Goes.step (T' := T111) (g' := (mkF m 259 #[.val (.ref a1), .val (.int p2), .val (.int p3), .val (.int p4), .val (.int p5)] [(.ref a1)])) (fun _ kz => XS.aloadN X111.here hx rfl (hb hby d_method_5_258) rfl rfl kz) ?_
  refine Goes.step (T' := T111) (g' := (mkF m 261 #[.val (.ref a1), .val (.int p2), .val (.int p3), .val (.int p4), .val (.int p5)] [(.int (24 : Int32)), (.ref a1)])) (fun _ kz => XS.bipush X111.here hx rfl (hb hby d_method_5_259) kz) ?_
  refine Goes.step (T' := T111) (g' := (mkF m 262 #[.val (.ref a1), .val (.int p2), .val (.int p3), .val (.int p4), .val (.int p5)] [(.int p2), (.int (24 : Int32)), (.ref a1)])) (fun _ kz => XS.iloadN X111.here hx rfl (hb hby d_method_5_261) rfl  kz) ?_
  refine Goes.step (T' := T111) (g' := (mkF m 263 #[.val (.ref a1), .val (.int p2), .val (.int p3), .val (.int p4), .val (.int p5)] [(.int p3), (.int p2), (.int (24 : Int32)), (.ref a1)])) (fun _ kz => XS.iloadN X111.here hx rfl (hb hby d_method_5_262) rfl  kz) ?_
  refine Goes.step (T' := T111) (g' := (mkF m 264 #[.val (.ref a1), .val (.int p2), .val (.int p3), .val (.int p4), .val (.int p5)] [(.int p4), (.int p3), (.int p2), (.int (24 : Int32)), (.ref a1)])) (fun _ kz => XS.iloadN X111.here hx rfl (hb hby d_method_5_263) rfl  kz) ?_
  refine Goes.step (T' := T111) (g' := (mkF m 266 #[.val (.ref a1), .val (.int p2), .val (.int p3), .val (.int p4), .val (.int p5)] [(.int p5), (.int p4), (.int p3), (.int p2), (.int (24 : Int32)), (.ref a1)])) (fun _ kz => XS.iload X111.here hx rfl (hb hby d_method_5_264) rfl  kz) ?_
  obtain ⟨_, _, ⟨T113, L113, k113, n113⟩, -, X113, ⟨Lc113, hQ113, l113, y113, z113⟩, st113⟩ := Jvm.LawKit.callS X111 hx (y := (⟨"com/example/tariff/tariff/core/decimal/PlainDecimalIsBoundedPinLaw", "put", "([CIIICI)V"⟩ : MethodName)) hown (mvT hZ (hw _ (List.mem_of_getElem? (i := 6) rfl))) (mvT hZ (hw _ (List.mem_of_getElem? (i := 7) rfl))) (mvT hZ (hw _ (List.mem_of_getElem? (i := 4) rfl))) (mvT hZ (hw _ (List.mem_of_getElem? (i := 8) rfl))) (by decide) (backOf (W := 0) (rm_put l Z a0 hw [] a1 (24 : Int32) p2 p3 p4 p5 (kc) (N) ((FLP p2 p3 p4 p5 24)) ((.int (0 : Int32))) h111 n0 O0  V_a1 g_a1 (by decide) (by rw [flp_len]; decide)) hZ (hw _ (List.mem_of_getElem? (i := 8) rfl)) (hw _ (List.mem_of_getElem? (i := 4) rfl)) (by decide) (by decide)) (g := (mkF m 266 #[.val (.ref a1), .val (.int p2), .val (.int p3), .val (.int p4), .val (.int p5)] [(.int p5), (.int p4), (.int p3), (.int p2), (.int (24 : Int32)), (.ref a1)])) rfl (by rw [hml]; rfl) (argsL := [(.ref a1), (.int (24 : Int32)), (.int p2), (.int p3), (.int p4), (.int p5)]) (rest := []) (lenOf pd_9 rfl) rfl (by show 2 * 0 + _ ≤ _; exact Nat.le_of_eq rfl) (hb hby d_method_5_266) (fun _ _ => ⟨rfl, e111, (by decide : 0 + 0 ≤ _), (by decide : 0 + 0 ≤ _)⟩)
  dsimp only [Pt.U, Pt.locs, Pt.cells, Pt.slots] at X113 l113 y113 z113 st113 hQ113
  subst l113 y113 z113
  obtain ⟨h113, e113⟩ : ∃ z, T113.heap = z := ⟨_, rfl⟩
  rw [e113] at hQ113
  obtain ⟨rfl, Nq113, Kq113, V_a1_q113⟩ := hQ113
  replace N0 := Fr.app N0 Nq113
  clear V_a1
  replace O0 := O0.keep Kq113 (allS g_a1 all0)
  replace K0 := K0.trans Kq113 (allS (Or.inl (List.mem_of_getElem? (i := 0) rfl)) all0)
  have V_a1 := V_a1_q113
  refine Goes.step (T' := T113) (g' := (mkF m 269 #[.val (.ref a1), .val (.int p2), .val (.int p3), .val (.int p4), .val (.int p5)] [])) st113 ?_
  rw [flp_step (i := 24) (c := (24 : Int32)) (by decide) rfl (by decide)] at V_a1
  exact nx _ _ _ (X113.mono (by decide) (by decide)) e113 N0 K0 O0 V_a1
set_option maxRecDepth 65536 in
set_option maxHeartbeats 40000000 in
theorem fill_25 (l : Launch) (Z : State) (a0 : Array Value) (hw : ∀ d ∈ tables_1, d.before a0 Z = true) (p : Program) (e : Env) (s : State) (m : MethodId) (below : List Frame) (meth : Method) (c : Code) (Post : Outcome → State → Prop) (hx : p.tables.exec = Jvm.exec) (hby : c.code = method_5_code) (hml : c.maxLocals = 5) (hown : s.vm.findClass "com/example/tariff/tariff/core/decimal/PlainDecimalIsBoundedPinLaw" = some m.cls) (hZ : Z.Warmed39 s.vm) (a1 : Addr) (p2 : Int32) (p3 : Int32) (p4 : Int32) (p5 : Int32) (kc : ClassId) (N : Int32) (h0 : Heap) (n0 : Nat) (g_a1 : n0 ≤ a1)  (T114 : State) (h114 : Heap) (locs114 : List Loc) (X114 : Stand p l e ({ frames := 2, cells := 0, slots := 0, locals := 35 } : Room) s m #[(.ref a1), (.int p2), (.int p3), (.int p4), (.int p5)] below meth c T114 locs114 0 0) (e114 : T114.heap = h114) (N0 : Fr n0 locs114) (K0 : Keep h0 h114 [a1]) (O0 : Old Z n0 h114) (V_a1 : Arv Z h114 a1 kc .char N (FLP p2 p3 p4 p5 25) (.int (0 : Int32))) (nx : ∀ (T115 : State) (h115 : Heap) (locs115 : List Loc) (X115 : Stand p l e ({ frames := 2, cells := 0, slots := 0, locals := 35 } : Room) s m #[(.ref a1), (.int p2), (.int p3), (.int p4), (.int p5)] below meth c T115 locs115 0 0) (e115 : T115.heap = h115) (N0 : Fr n0 locs115) (K0 : Keep h0 h115 [a1]) (O0 : Old Z n0 h115) (V_a1 : Arv Z h115 a1 kc .char N (FLP p2 p3 p4 p5 26) (.int (0 : Int32))), Goes p e below Post T115 (mkF m 280 #[.val (.ref a1), .val (.int p2), .val (.int p3), .val (.int p4), .val (.int p5)] [])) :
    Goes p e below Post T114 (mkF m 269 #[.val (.ref a1), .val (.int p2), .val (.int p3), .val (.int p4), .val (.int p5)] []) := by
  refine Goes.step (T' := T114) (g' := (mkF m 270 #[.val (.ref a1), .val (.int p2), .val (.int p3), .val (.int p4), .val (.int p5)] [(.ref a1)])) (fun _ kz => XS.aloadN X114.here hx rfl (hb hby d_method_5_269) rfl rfl kz) ?_
  refine Goes.step (T' := T114) (g' := (mkF m 272 #[.val (.ref a1), .val (.int p2), .val (.int p3), .val (.int p4), .val (.int p5)] [(.int (25 : Int32)), (.ref a1)])) (fun _ kz => XS.bipush X114.here hx rfl (hb hby d_method_5_270) kz) ?_
  refine Goes.step (T' := T114) (g' := (mkF m 273 #[.val (.ref a1), .val (.int p2), .val (.int p3), .val (.int p4), .val (.int p5)] [(.int p2), (.int (25 : Int32)), (.ref a1)])) (fun _ kz => XS.iloadN X114.here hx rfl (hb hby d_method_5_272) rfl  kz) ?_
  refine Goes.step (T' := T114) (g' := (mkF m 274 #[.val (.ref a1), .val (.int p2), .val (.int p3), .val (.int p4), .val (.int p5)] [(.int p3), (.int p2), (.int (25 : Int32)), (.ref a1)])) (fun _ kz => XS.iloadN X114.here hx rfl (hb hby d_method_5_273) rfl  kz) ?_
  refine Goes.step (T' := T114) (g' := (mkF m 275 #[.val (.ref a1), .val (.int p2), .val (.int p3), .val (.int p4), .val (.int p5)] [(.int p4), (.int p3), (.int p2), (.int (25 : Int32)), (.ref a1)])) (fun _ kz => XS.iloadN X114.here hx rfl (hb hby d_method_5_274) rfl  kz) ?_
  refine Goes.step (T' := T114) (g' := (mkF m 277 #[.val (.ref a1), .val (.int p2), .val (.int p3), .val (.int p4), .val (.int p5)] [(.int p5), (.int p4), (.int p3), (.int p2), (.int (25 : Int32)), (.ref a1)])) (fun _ kz => XS.iload X114.here hx rfl (hb hby d_method_5_275) rfl  kz) ?_
  obtain ⟨_, _, ⟨T116, L116, k116, n116⟩, -, X116, ⟨Lc116, hQ116, l116, y116, z116⟩, st116⟩ := Jvm.LawKit.callS X114 hx (y := (⟨"com/example/tariff/tariff/core/decimal/PlainDecimalIsBoundedPinLaw", "put", "([CIIICI)V"⟩ : MethodName)) hown (mvT hZ (hw _ (List.mem_of_getElem? (i := 6) rfl))) (mvT hZ (hw _ (List.mem_of_getElem? (i := 7) rfl))) (mvT hZ (hw _ (List.mem_of_getElem? (i := 4) rfl))) (mvT hZ (hw _ (List.mem_of_getElem? (i := 8) rfl))) (by decide) (backOf (W := 0) (rm_put l Z a0 hw [] a1 (25 : Int32) p2 p3 p4 p5 (kc) (N) ((FLP p2 p3 p4 p5 25)) ((.int (0 : Int32))) h114 n0 O0  V_a1 g_a1 (by decide) (by rw [flp_len]; decide)) hZ (hw _ (List.mem_of_getElem? (i := 8) rfl)) (hw _ (List.mem_of_getElem? (i := 4) rfl)) (by decide) (by decide)) (g := (mkF m 277 #[.val (.ref a1), .val (.int p2), .val (.int p3), .val (.int p4), .val (.int p5)] [(.int p5), (.int p4), (.int p3), (.int p2), (.int (25 : Int32)), (.ref a1)])) rfl (by rw [hml]; rfl) (argsL := [(.ref a1), (.int (25 : Int32)), (.int p2), (.int p3), (.int p4), (.int p5)]) (rest := []) (lenOf pd_9 rfl) rfl (by show 2 * 0 + _ ≤ _; exact Nat.le_of_eq rfl) (hb hby d_method_5_277) (fun _ _ => ⟨rfl, e114, (by decide : 0 + 0 ≤ _), (by decide : 0 + 0 ≤ _)⟩)
  dsimp only [Pt.U, Pt.locs, Pt.cells, Pt.slots] at X116 l116 y116 z116 st116 hQ116
  subst l116 y116 z116
  obtain ⟨h116, e116⟩ : ∃ z, T116.heap = z := ⟨_, rfl⟩
  rw [e116] at hQ116
  obtain ⟨rfl, Nq116, Kq116, V_a1_q116⟩ := hQ116
  replace N0 := Fr.app N0 Nq116
  clear V_a1
  replace O0 := O0.keep Kq116 (allS g_a1 all0)
  replace K0 := K0.trans Kq116 (allS (Or.inl (List.mem_of_getElem? (i := 0) rfl)) all0)
  have V_a1 := V_a1_q116
  refine Goes.step (T' := T116) (g' := (mkF m 280 #[.val (.ref a1), .val (.int p2), .val (.int p3), .val (.int p4), .val (.int p5)] [])) st116 ?_
  rw [flp_step (i := 25) (c := (25 : Int32)) (by decide) rfl (by decide)] at V_a1
  exact nx _ _ _ (X116.mono (by decide) (by decide)) e116 N0 K0 O0 V_a1
set_option maxRecDepth 65536 in
set_option maxHeartbeats 40000000 in
theorem fill_26 (l : Launch) (Z : State) (a0 : Array Value) (hw : ∀ d ∈ tables_1, d.before a0 Z = true) (p : Program) (e : Env) (s : State) (m : MethodId) (below : List Frame) (meth : Method) (c : Code) (Post : Outcome → State → Prop) (hx : p.tables.exec = Jvm.exec) (hby : c.code = method_5_code) (hml : c.maxLocals = 5) (hown : s.vm.findClass "com/example/tariff/tariff/core/decimal/PlainDecimalIsBoundedPinLaw" = some m.cls) (hZ : Z.Warmed39 s.vm) (a1 : Addr) (p2 : Int32) (p3 : Int32) (p4 : Int32) (p5 : Int32) (kc : ClassId) (N : Int32) (h0 : Heap) (n0 : Nat) (g_a1 : n0 ≤ a1)  (T117 : State) (h117 : Heap) (locs117 : List Loc) (X117 : Stand p l e ({ frames := 2, cells := 0, slots := 0, locals := 35 } : Room) s m #[(.ref a1), (.int p2), (.int p3), (.int p4), (.int p5)] below meth c T117 locs117 0 0) (e117 : T117.heap = h117) (N0 : Fr n0 locs117) (K0 : Keep h0 h117 [a1]) (O0 : Old Z n0 h117) (V_a1 : Arv Z h117 a1 kc .char N (FLP p2 p3 p4 p5 26) (.int (0 : Int32))) (nx : ∀ (T118 : State) (h118 : Heap) (locs118 : List Loc) (X118 : Stand p l e ({ frames := 2, cells := 0, slots := 0, locals := 35 } : Room) s m #[(.ref a1), (.int p2), (.int p3), (.int p4), (.int p5)] below meth c T118 locs118 0 0) (e118 : T118.heap = h118) (N0 : Fr n0 locs118) (K0 : Keep h0 h118 [a1]) (O0 : Old Z n0 h118) (V_a1 : Arv Z h118 a1 kc .char N (FLP p2 p3 p4 p5 27) (.int (0 : Int32))), Goes p e below Post T118 (mkF m 291 #[.val (.ref a1), .val (.int p2), .val (.int p3), .val (.int p4), .val (.int p5)] [])) :
    Goes p e below Post T117 (mkF m 280 #[.val (.ref a1), .val (.int p2), .val (.int p3), .val (.int p4), .val (.int p5)] []) := by
  refine Goes.step (T' := T117) (g' := (mkF m 281 #[.val (.ref a1), .val (.int p2), .val (.int p3), .val (.int p4), .val (.int p5)] [(.ref a1)])) (fun _ kz => XS.aloadN X117.here hx rfl (hb hby d_method_5_280) rfl rfl kz) ?_
  refine Goes.step (T' := T117) (g' := (mkF m 283 #[.val (.ref a1), .val (.int p2), .val (.int p3), .val (.int p4), .val (.int p5)] [(.int (26 : Int32)), (.ref a1)])) (fun _ kz => XS.bipush X117.here hx rfl (hb hby d_method_5_281) kz) ?_
  refine Goes.step (T' := T117) (g' := (mkF m 284 #[.val (.ref a1), .val (.int p2), .val (.int p3), .val (.int p4), .val (.int p5)] [(.int p2), (.int (26 : Int32)), (.ref a1)])) (fun _ kz => XS.iloadN X117.here hx rfl (hb hby d_method_5_283) rfl  kz) ?_
  refine Goes.step (T' := T117) (g' := (mkF m 285 #[.val (.ref a1), .val (.int p2), .val (.int p3), .val (.int p4), .val (.int p5)] [(.int p3), (.int p2), (.int (26 : Int32)), (.ref a1)])) (fun _ kz => XS.iloadN X117.here hx rfl (hb hby d_method_5_284) rfl  kz) ?_
  refine Goes.step (T' := T117) (g' := (mkF m 286 #[.val (.ref a1), .val (.int p2), .val (.int p3), .val (.int p4), .val (.int p5)] [(.int p4), (.int p3), (.int p2), (.int (26 : Int32)), (.ref a1)])) (fun _ kz => XS.iloadN X117.here hx rfl (hb hby d_method_5_285) rfl  kz) ?_
  refine Goes.step (T' := T117) (g' := (mkF m 288 #[.val (.ref a1), .val (.int p2), .val (.int p3), .val (.int p4), .val (.int p5)] [(.int p5), (.int p4), (.int p3), (.int p2), (.int (26 : Int32)), (.ref a1)])) (fun _ kz => XS.iload X117.here hx rfl (hb hby d_method_5_286) rfl  kz) ?_
  obtain ⟨_, _, ⟨T119, L119, k119, n119⟩, -, X119, ⟨Lc119, hQ119, l119, y119, z119⟩, st119⟩ := Jvm.LawKit.callS X117 hx (y := (⟨"com/example/tariff/tariff/core/decimal/PlainDecimalIsBoundedPinLaw", "put", "([CIIICI)V"⟩ : MethodName)) hown (mvT hZ (hw _ (List.mem_of_getElem? (i := 6) rfl))) (mvT hZ (hw _ (List.mem_of_getElem? (i := 7) rfl))) (mvT hZ (hw _ (List.mem_of_getElem? (i := 4) rfl))) (mvT hZ (hw _ (List.mem_of_getElem? (i := 8) rfl))) (by decide) (backOf (W := 0) (rm_put l Z a0 hw [] a1 (26 : Int32) p2 p3 p4 p5 (kc) (N) ((FLP p2 p3 p4 p5 26)) ((.int (0 : Int32))) h117 n0 O0  V_a1 g_a1 (by decide) (by rw [flp_len]; decide)) hZ (hw _ (List.mem_of_getElem? (i := 8) rfl)) (hw _ (List.mem_of_getElem? (i := 4) rfl)) (by decide) (by decide)) (g := (mkF m 288 #[.val (.ref a1), .val (.int p2), .val (.int p3), .val (.int p4), .val (.int p5)] [(.int p5), (.int p4), (.int p3), (.int p2), (.int (26 : Int32)), (.ref a1)])) rfl (by rw [hml]; rfl) (argsL := [(.ref a1), (.int (26 : Int32)), (.int p2), (.int p3), (.int p4), (.int p5)]) (rest := []) (lenOf pd_9 rfl) rfl (by show 2 * 0 + _ ≤ _; exact Nat.le_of_eq rfl) (hb hby d_method_5_288) (fun _ _ => ⟨rfl, e117, (by decide : 0 + 0 ≤ _), (by decide : 0 + 0 ≤ _)⟩)
  dsimp only [Pt.U, Pt.locs, Pt.cells, Pt.slots] at X119 l119 y119 z119 st119 hQ119
  subst l119 y119 z119
  obtain ⟨h119, e119⟩ : ∃ z, T119.heap = z := ⟨_, rfl⟩
  rw [e119] at hQ119
  obtain ⟨rfl, Nq119, Kq119, V_a1_q119⟩ := hQ119
  replace N0 := Fr.app N0 Nq119
  clear V_a1
  replace O0 := O0.keep Kq119 (allS g_a1 all0)
  replace K0 := K0.trans Kq119 (allS (Or.inl (List.mem_of_getElem? (i := 0) rfl)) all0)
  have V_a1 := V_a1_q119
  refine Goes.step (T' := T119) (g' := (mkF m 291 #[.val (.ref a1), .val (.int p2), .val (.int p3), .val (.int p4), .val (.int p5)] [])) st119 ?_
  rw [flp_step (i := 26) (c := (26 : Int32)) (by decide) rfl (by decide)] at V_a1
  exact nx _ _ _ (X119.mono (by decide) (by decide)) e119 N0 K0 O0 V_a1
set_option maxRecDepth 65536 in
set_option maxHeartbeats 40000000 in
theorem fill_27 (l : Launch) (Z : State) (a0 : Array Value) (hw : ∀ d ∈ tables_1, d.before a0 Z = true) (p : Program) (e : Env) (s : State) (m : MethodId) (below : List Frame) (meth : Method) (c : Code) (Post : Outcome → State → Prop) (hx : p.tables.exec = Jvm.exec) (hby : c.code = method_5_code) (hml : c.maxLocals = 5) (hown : s.vm.findClass "com/example/tariff/tariff/core/decimal/PlainDecimalIsBoundedPinLaw" = some m.cls) (hZ : Z.Warmed39 s.vm) (a1 : Addr) (p2 : Int32) (p3 : Int32) (p4 : Int32) (p5 : Int32) (kc : ClassId) (N : Int32) (h0 : Heap) (n0 : Nat) (g_a1 : n0 ≤ a1)  (T120 : State) (h120 : Heap) (locs120 : List Loc) (X120 : Stand p l e ({ frames := 2, cells := 0, slots := 0, locals := 35 } : Room) s m #[(.ref a1), (.int p2), (.int p3), (.int p4), (.int p5)] below meth c T120 locs120 0 0) (e120 : T120.heap = h120) (N0 : Fr n0 locs120) (K0 : Keep h0 h120 [a1]) (O0 : Old Z n0 h120) (V_a1 : Arv Z h120 a1 kc .char N (FLP p2 p3 p4 p5 27) (.int (0 : Int32))) (nx : ∀ (T121 : State) (h121 : Heap) (locs121 : List Loc) (X121 : Stand p l e ({ frames := 2, cells := 0, slots := 0, locals := 35 } : Room) s m #[(.ref a1), (.int p2), (.int p3), (.int p4), (.int p5)] below meth c T121 locs121 0 0) (e121 : T121.heap = h121) (N0 : Fr n0 locs121) (K0 : Keep h0 h121 [a1]) (O0 : Old Z n0 h121) (V_a1 : Arv Z h121 a1 kc .char N (FLP p2 p3 p4 p5 28) (.int (0 : Int32))), Goes p e below Post T121 (mkF m 302 #[.val (.ref a1), .val (.int p2), .val (.int p3), .val (.int p4), .val (.int p5)] [])) :
    Goes p e below Post T120 (mkF m 291 #[.val (.ref a1), .val (.int p2), .val (.int p3), .val (.int p4), .val (.int p5)] []) := by
  refine Goes.step (T' := T120) (g' := (mkF m 292 #[.val (.ref a1), .val (.int p2), .val (.int p3), .val (.int p4), .val (.int p5)] [(.ref a1)])) (fun _ kz => XS.aloadN X120.here hx rfl (hb hby d_method_5_291) rfl rfl kz) ?_
  refine Goes.step (T' := T120) (g' := (mkF m 294 #[.val (.ref a1), .val (.int p2), .val (.int p3), .val (.int p4), .val (.int p5)] [(.int (27 : Int32)), (.ref a1)])) (fun _ kz => XS.bipush X120.here hx rfl (hb hby d_method_5_292) kz) ?_
  refine Goes.step (T' := T120) (g' := (mkF m 295 #[.val (.ref a1), .val (.int p2), .val (.int p3), .val (.int p4), .val (.int p5)] [(.int p2), (.int (27 : Int32)), (.ref a1)])) (fun _ kz => XS.iloadN X120.here hx rfl (hb hby d_method_5_294) rfl  kz) ?_
  refine Goes.step (T' := T120) (g' := (mkF m 296 #[.val (.ref a1), .val (.int p2), .val (.int p3), .val (.int p4), .val (.int p5)] [(.int p3), (.int p2), (.int (27 : Int32)), (.ref a1)])) (fun _ kz => XS.iloadN X120.here hx rfl (hb hby d_method_5_295) rfl  kz) ?_
  refine Goes.step (T' := T120) (g' := (mkF m 297 #[.val (.ref a1), .val (.int p2), .val (.int p3), .val (.int p4), .val (.int p5)] [(.int p4), (.int p3), (.int p2), (.int (27 : Int32)), (.ref a1)])) (fun _ kz => XS.iloadN X120.here hx rfl (hb hby d_method_5_296) rfl  kz) ?_
  refine Goes.step (T' := T120) (g' := (mkF m 299 #[.val (.ref a1), .val (.int p2), .val (.int p3), .val (.int p4), .val (.int p5)] [(.int p5), (.int p4), (.int p3), (.int p2), (.int (27 : Int32)), (.ref a1)])) (fun _ kz => XS.iload X120.here hx rfl (hb hby d_method_5_297) rfl  kz) ?_
  obtain ⟨_, _, ⟨T122, L122, k122, n122⟩, -, X122, ⟨Lc122, hQ122, l122, y122, z122⟩, st122⟩ := Jvm.LawKit.callS X120 hx (y := (⟨"com/example/tariff/tariff/core/decimal/PlainDecimalIsBoundedPinLaw", "put", "([CIIICI)V"⟩ : MethodName)) hown (mvT hZ (hw _ (List.mem_of_getElem? (i := 6) rfl))) (mvT hZ (hw _ (List.mem_of_getElem? (i := 7) rfl))) (mvT hZ (hw _ (List.mem_of_getElem? (i := 4) rfl))) (mvT hZ (hw _ (List.mem_of_getElem? (i := 8) rfl))) (by decide) (backOf (W := 0) (rm_put l Z a0 hw [] a1 (27 : Int32) p2 p3 p4 p5 (kc) (N) ((FLP p2 p3 p4 p5 27)) ((.int (0 : Int32))) h120 n0 O0  V_a1 g_a1 (by decide) (by rw [flp_len]; decide)) hZ (hw _ (List.mem_of_getElem? (i := 8) rfl)) (hw _ (List.mem_of_getElem? (i := 4) rfl)) (by decide) (by decide)) (g := (mkF m 299 #[.val (.ref a1), .val (.int p2), .val (.int p3), .val (.int p4), .val (.int p5)] [(.int p5), (.int p4), (.int p3), (.int p2), (.int (27 : Int32)), (.ref a1)])) rfl (by rw [hml]; rfl) (argsL := [(.ref a1), (.int (27 : Int32)), (.int p2), (.int p3), (.int p4), (.int p5)]) (rest := []) (lenOf pd_9 rfl) rfl (by show 2 * 0 + _ ≤ _; exact Nat.le_of_eq rfl) (hb hby d_method_5_299) (fun _ _ => ⟨rfl, e120, (by decide : 0 + 0 ≤ _), (by decide : 0 + 0 ≤ _)⟩)
  dsimp only [Pt.U, Pt.locs, Pt.cells, Pt.slots] at X122 l122 y122 z122 st122 hQ122
  subst l122 y122 z122
  obtain ⟨h122, e122⟩ : ∃ z, T122.heap = z := ⟨_, rfl⟩
  rw [e122] at hQ122
  obtain ⟨rfl, Nq122, Kq122, V_a1_q122⟩ := hQ122
  replace N0 := Fr.app N0 Nq122
  clear V_a1
  replace O0 := O0.keep Kq122 (allS g_a1 all0)
  replace K0 := K0.trans Kq122 (allS (Or.inl (List.mem_of_getElem? (i := 0) rfl)) all0)
  have V_a1 := V_a1_q122
  refine Goes.step (T' := T122) (g' := (mkF m 302 #[.val (.ref a1), .val (.int p2), .val (.int p3), .val (.int p4), .val (.int p5)] [])) st122 ?_
  rw [flp_step (i := 27) (c := (27 : Int32)) (by decide) rfl (by decide)] at V_a1
  exact nx _ _ _ (X122.mono (by decide) (by decide)) e122 N0 K0 O0 V_a1
set_option maxRecDepth 65536 in
set_option maxHeartbeats 40000000 in
theorem fill_28 (l : Launch) (Z : State) (a0 : Array Value) (hw : ∀ d ∈ tables_1, d.before a0 Z = true) (p : Program) (e : Env) (s : State) (m : MethodId) (below : List Frame) (meth : Method) (c : Code) (Post : Outcome → State → Prop) (hx : p.tables.exec = Jvm.exec) (hby : c.code = method_5_code) (hml : c.maxLocals = 5) (hown : s.vm.findClass "com/example/tariff/tariff/core/decimal/PlainDecimalIsBoundedPinLaw" = some m.cls) (hZ : Z.Warmed39 s.vm) (a1 : Addr) (p2 : Int32) (p3 : Int32) (p4 : Int32) (p5 : Int32) (kc : ClassId) (N : Int32) (h0 : Heap) (n0 : Nat) (g_a1 : n0 ≤ a1)  (T123 : State) (h123 : Heap) (locs123 : List Loc) (X123 : Stand p l e ({ frames := 2, cells := 0, slots := 0, locals := 35 } : Room) s m #[(.ref a1), (.int p2), (.int p3), (.int p4), (.int p5)] below meth c T123 locs123 0 0) (e123 : T123.heap = h123) (N0 : Fr n0 locs123) (K0 : Keep h0 h123 [a1]) (O0 : Old Z n0 h123) (V_a1 : Arv Z h123 a1 kc .char N (FLP p2 p3 p4 p5 28) (.int (0 : Int32))) (nx : ∀ (T124 : State) (h124 : Heap) (locs124 : List Loc) (X124 : Stand p l e ({ frames := 2, cells := 0, slots := 0, locals := 35 } : Room) s m #[(.ref a1), (.int p2), (.int p3), (.int p4), (.int p5)] below meth c T124 locs124 0 0) (e124 : T124.heap = h124) (N0 : Fr n0 locs124) (K0 : Keep h0 h124 [a1]) (O0 : Old Z n0 h124) (V_a1 : Arv Z h124 a1 kc .char N (FLP p2 p3 p4 p5 29) (.int (0 : Int32))), Goes p e below Post T124 (mkF m 313 #[.val (.ref a1), .val (.int p2), .val (.int p3), .val (.int p4), .val (.int p5)] [])) :
    Goes p e below Post T123 (mkF m 302 #[.val (.ref a1), .val (.int p2), .val (.int p3), .val (.int p4), .val (.int p5)] []) := by
  refine Goes.step (T' := T123) (g' := (mkF m 303 #[.val (.ref a1), .val (.int p2), .val (.int p3), .val (.int p4), .val (.int p5)] [(.ref a1)])) (fun _ kz => XS.aloadN X123.here hx rfl (hb hby d_method_5_302) rfl rfl kz) ?_
  refine Goes.step (T' := T123) (g' := (mkF m 305 #[.val (.ref a1), .val (.int p2), .val (.int p3), .val (.int p4), .val (.int p5)] [(.int (28 : Int32)), (.ref a1)])) (fun _ kz => XS.bipush X123.here hx rfl (hb hby d_method_5_303) kz) ?_
  refine Goes.step (T' := T123) (g' := (mkF m 306 #[.val (.ref a1), .val (.int p2), .val (.int p3), .val (.int p4), .val (.int p5)] [(.int p2), (.int (28 : Int32)), (.ref a1)])) (fun _ kz => XS.iloadN X123.here hx rfl (hb hby d_method_5_305) rfl  kz) ?_
  refine Goes.step (T' := T123) (g' := (mkF m 307 #[.val (.ref a1), .val (.int p2), .val (.int p3), .val (.int p4), .val (.int p5)] [(.int p3), (.int p2), (.int (28 : Int32)), (.ref a1)])) (fun _ kz => XS.iloadN X123.here hx rfl (hb hby d_method_5_306) rfl  kz) ?_
  refine Goes.step (T' := T123) (g' := (mkF m 308 #[.val (.ref a1), .val (.int p2), .val (.int p3), .val (.int p4), .val (.int p5)] [(.int p4), (.int p3), (.int p2), (.int (28 : Int32)), (.ref a1)])) (fun _ kz => XS.iloadN X123.here hx rfl (hb hby d_method_5_307) rfl  kz) ?_
  refine Goes.step (T' := T123) (g' := (mkF m 310 #[.val (.ref a1), .val (.int p2), .val (.int p3), .val (.int p4), .val (.int p5)] [(.int p5), (.int p4), (.int p3), (.int p2), (.int (28 : Int32)), (.ref a1)])) (fun _ kz => XS.iload X123.here hx rfl (hb hby d_method_5_308) rfl  kz) ?_
  obtain ⟨_, _, ⟨T125, L125, k125, n125⟩, -, X125, ⟨Lc125, hQ125, l125, y125, z125⟩, st125⟩ := Jvm.LawKit.callS X123 hx (y := (⟨"com/example/tariff/tariff/core/decimal/PlainDecimalIsBoundedPinLaw", "put", "([CIIICI)V"⟩ : MethodName)) hown (mvT hZ (hw _ (List.mem_of_getElem? (i := 6) rfl))) (mvT hZ (hw _ (List.mem_of_getElem? (i := 7) rfl))) (mvT hZ (hw _ (List.mem_of_getElem? (i := 4) rfl))) (mvT hZ (hw _ (List.mem_of_getElem? (i := 8) rfl))) (by decide) (backOf (W := 0) (rm_put l Z a0 hw [] a1 (28 : Int32) p2 p3 p4 p5 (kc) (N) ((FLP p2 p3 p4 p5 28)) ((.int (0 : Int32))) h123 n0 O0  V_a1 g_a1 (by decide) (by rw [flp_len]; decide)) hZ (hw _ (List.mem_of_getElem? (i := 8) rfl)) (hw _ (List.mem_of_getElem? (i := 4) rfl)) (by decide) (by decide)) (g := (mkF m 310 #[.val (.ref a1), .val (.int p2), .val (.int p3), .val (.int p4), .val (.int p5)] [(.int p5), (.int p4), (.int p3), (.int p2), (.int (28 : Int32)), (.ref a1)])) rfl (by rw [hml]; rfl) (argsL := [(.ref a1), (.int (28 : Int32)), (.int p2), (.int p3), (.int p4), (.int p5)]) (rest := []) (lenOf pd_9 rfl) rfl (by show 2 * 0 + _ ≤ _; exact Nat.le_of_eq rfl) (hb hby d_method_5_310) (fun _ _ => ⟨rfl, e123, (by decide : 0 + 0 ≤ _), (by decide : 0 + 0 ≤ _)⟩)
  dsimp only [Pt.U, Pt.locs, Pt.cells, Pt.slots] at X125 l125 y125 z125 st125 hQ125
  subst l125 y125 z125
  obtain ⟨h125, e125⟩ : ∃ z, T125.heap = z := ⟨_, rfl⟩
  rw [e125] at hQ125
  obtain ⟨rfl, Nq125, Kq125, V_a1_q125⟩ := hQ125
  replace N0 := Fr.app N0 Nq125
  clear V_a1
  replace O0 := O0.keep Kq125 (allS g_a1 all0)
  replace K0 := K0.trans Kq125 (allS (Or.inl (List.mem_of_getElem? (i := 0) rfl)) all0)
  have V_a1 := V_a1_q125
  refine Goes.step (T' := T125) (g' := (mkF m 313 #[.val (.ref a1), .val (.int p2), .val (.int p3), .val (.int p4), .val (.int p5)] [])) st125 ?_
  rw [flp_step (i := 28) (c := (28 : Int32)) (by decide) rfl (by decide)] at V_a1
  exact nx _ _ _ (X125.mono (by decide) (by decide)) e125 N0 K0 O0 V_a1
set_option maxRecDepth 65536 in
set_option maxHeartbeats 40000000 in
theorem fill_29 (l : Launch) (Z : State) (a0 : Array Value) (hw : ∀ d ∈ tables_1, d.before a0 Z = true) (p : Program) (e : Env) (s : State) (m : MethodId) (below : List Frame) (meth : Method) (c : Code) (Post : Outcome → State → Prop) (hx : p.tables.exec = Jvm.exec) (hby : c.code = method_5_code) (hml : c.maxLocals = 5) (hown : s.vm.findClass "com/example/tariff/tariff/core/decimal/PlainDecimalIsBoundedPinLaw" = some m.cls) (hZ : Z.Warmed39 s.vm) (a1 : Addr) (p2 : Int32) (p3 : Int32) (p4 : Int32) (p5 : Int32) (kc : ClassId) (N : Int32) (h0 : Heap) (n0 : Nat) (g_a1 : n0 ≤ a1)  (T126 : State) (h126 : Heap) (locs126 : List Loc) (X126 : Stand p l e ({ frames := 2, cells := 0, slots := 0, locals := 35 } : Room) s m #[(.ref a1), (.int p2), (.int p3), (.int p4), (.int p5)] below meth c T126 locs126 0 0) (e126 : T126.heap = h126) (N0 : Fr n0 locs126) (K0 : Keep h0 h126 [a1]) (O0 : Old Z n0 h126) (V_a1 : Arv Z h126 a1 kc .char N (FLP p2 p3 p4 p5 29) (.int (0 : Int32))) (nx : ∀ (T127 : State) (h127 : Heap) (locs127 : List Loc) (X127 : Stand p l e ({ frames := 2, cells := 0, slots := 0, locals := 35 } : Room) s m #[(.ref a1), (.int p2), (.int p3), (.int p4), (.int p5)] below meth c T127 locs127 0 0) (e127 : T127.heap = h127) (N0 : Fr n0 locs127) (K0 : Keep h0 h127 [a1]) (O0 : Old Z n0 h127) (V_a1 : Arv Z h127 a1 kc .char N (FLP p2 p3 p4 p5 30) (.int (0 : Int32))), Goes p e below Post T127 (mkF m 324 #[.val (.ref a1), .val (.int p2), .val (.int p3), .val (.int p4), .val (.int p5)] [])) :
    Goes p e below Post T126 (mkF m 313 #[.val (.ref a1), .val (.int p2), .val (.int p3), .val (.int p4), .val (.int p5)] []) := by
  refine Goes.step (T' := T126) (g' := (mkF m 314 #[.val (.ref a1), .val (.int p2), .val (.int p3), .val (.int p4), .val (.int p5)] [(.ref a1)])) (fun _ kz => XS.aloadN X126.here hx rfl (hb hby d_method_5_313) rfl rfl kz) ?_
  refine Goes.step (T' := T126) (g' := (mkF m 316 #[.val (.ref a1), .val (.int p2), .val (.int p3), .val (.int p4), .val (.int p5)] [(.int (29 : Int32)), (.ref a1)])) (fun _ kz => XS.bipush X126.here hx rfl (hb hby d_method_5_314) kz) ?_
  refine Goes.step (T' := T126) (g' := (mkF m 317 #[.val (.ref a1), .val (.int p2), .val (.int p3), .val (.int p4), .val (.int p5)] [(.int p2), (.int (29 : Int32)), (.ref a1)])) (fun _ kz => XS.iloadN X126.here hx rfl (hb hby d_method_5_316) rfl  kz) ?_
  refine Goes.step (T' := T126) (g' := (mkF m 318 #[.val (.ref a1), .val (.int p2), .val (.int p3), .val (.int p4), .val (.int p5)] [(.int p3), (.int p2), (.int (29 : Int32)), (.ref a1)])) (fun _ kz => XS.iloadN X126.here hx rfl (hb hby d_method_5_317) rfl  kz) ?_
  refine Goes.step (T' := T126) (g' := (mkF m 319 #[.val (.ref a1), .val (.int p2), .val (.int p3), .val (.int p4), .val (.int p5)] [(.int p4), (.int p3), (.int p2), (.int (29 : Int32)), (.ref a1)])) (fun _ kz => XS.iloadN X126.here hx rfl (hb hby d_method_5_318) rfl  kz) ?_
  refine Goes.step (T' := T126) (g' := (mkF m 321 #[.val (.ref a1), .val (.int p2), .val (.int p3), .val (.int p4), .val (.int p5)] [(.int p5), (.int p4), (.int p3), (.int p2), (.int (29 : Int32)), (.ref a1)])) (fun _ kz => XS.iload X126.here hx rfl (hb hby d_method_5_319) rfl  kz) ?_
  obtain ⟨_, _, ⟨T128, L128, k128, n128⟩, -, X128, ⟨Lc128, hQ128, l128, y128, z128⟩, st128⟩ := Jvm.LawKit.callS X126 hx (y := (⟨"com/example/tariff/tariff/core/decimal/PlainDecimalIsBoundedPinLaw", "put", "([CIIICI)V"⟩ : MethodName)) hown (mvT hZ (hw _ (List.mem_of_getElem? (i := 6) rfl))) (mvT hZ (hw _ (List.mem_of_getElem? (i := 7) rfl))) (mvT hZ (hw _ (List.mem_of_getElem? (i := 4) rfl))) (mvT hZ (hw _ (List.mem_of_getElem? (i := 8) rfl))) (by decide) (backOf (W := 0) (rm_put l Z a0 hw [] a1 (29 : Int32) p2 p3 p4 p5 (kc) (N) ((FLP p2 p3 p4 p5 29)) ((.int (0 : Int32))) h126 n0 O0  V_a1 g_a1 (by decide) (by rw [flp_len]; decide)) hZ (hw _ (List.mem_of_getElem? (i := 8) rfl)) (hw _ (List.mem_of_getElem? (i := 4) rfl)) (by decide) (by decide)) (g := (mkF m 321 #[.val (.ref a1), .val (.int p2), .val (.int p3), .val (.int p4), .val (.int p5)] [(.int p5), (.int p4), (.int p3), (.int p2), (.int (29 : Int32)), (.ref a1)])) rfl (by rw [hml]; rfl) (argsL := [(.ref a1), (.int (29 : Int32)), (.int p2), (.int p3), (.int p4), (.int p5)]) (rest := []) (lenOf pd_9 rfl) rfl (by show 2 * 0 + _ ≤ _; exact Nat.le_of_eq rfl) (hb hby d_method_5_321) (fun _ _ => ⟨rfl, e126, (by decide : 0 + 0 ≤ _), (by decide : 0 + 0 ≤ _)⟩)
  dsimp only [Pt.U, Pt.locs, Pt.cells, Pt.slots] at X128 l128 y128 z128 st128 hQ128
  subst l128 y128 z128
  obtain ⟨h128, e128⟩ : ∃ z, T128.heap = z := ⟨_, rfl⟩
  rw [e128] at hQ128
  obtain ⟨rfl, Nq128, Kq128, V_a1_q128⟩ := hQ128
  replace N0 := Fr.app N0 Nq128
  clear V_a1
  replace O0 := O0.keep Kq128 (allS g_a1 all0)
  replace K0 := K0.trans Kq128 (allS (Or.inl (List.mem_of_getElem? (i := 0) rfl)) all0)
  have V_a1 := V_a1_q128
  refine Goes.step (T' := T128) (g' := (mkF m 324 #[.val (.ref a1), .val (.int p2), .val (.int p3), .val (.int p4), .val (.int p5)] [])) st128 ?_
  rw [flp_step (i := 29) (c := (29 : Int32)) (by decide) rfl (by decide)] at V_a1
  exact nx _ _ _ (X128.mono (by decide) (by decide)) e128 N0 K0 O0 V_a1
set_option maxRecDepth 65536 in
set_option maxHeartbeats 40000000 in
theorem fill_30 (l : Launch) (Z : State) (a0 : Array Value) (hw : ∀ d ∈ tables_1, d.before a0 Z = true) (p : Program) (e : Env) (s : State) (m : MethodId) (below : List Frame) (meth : Method) (c : Code) (Post : Outcome → State → Prop) (hx : p.tables.exec = Jvm.exec) (hby : c.code = method_5_code) (hml : c.maxLocals = 5) (hown : s.vm.findClass "com/example/tariff/tariff/core/decimal/PlainDecimalIsBoundedPinLaw" = some m.cls) (hZ : Z.Warmed39 s.vm) (a1 : Addr) (p2 : Int32) (p3 : Int32) (p4 : Int32) (p5 : Int32) (kc : ClassId) (N : Int32) (h0 : Heap) (n0 : Nat) (g_a1 : n0 ≤ a1)  (T129 : State) (h129 : Heap) (locs129 : List Loc) (X129 : Stand p l e ({ frames := 2, cells := 0, slots := 0, locals := 35 } : Room) s m #[(.ref a1), (.int p2), (.int p3), (.int p4), (.int p5)] below meth c T129 locs129 0 0) (e129 : T129.heap = h129) (N0 : Fr n0 locs129) (K0 : Keep h0 h129 [a1]) (O0 : Old Z n0 h129) (V_a1 : Arv Z h129 a1 kc .char N (FLP p2 p3 p4 p5 30) (.int (0 : Int32))) (nx : ∀ (T130 : State) (h130 : Heap) (locs130 : List Loc) (X130 : Stand p l e ({ frames := 2, cells := 0, slots := 0, locals := 35 } : Room) s m #[(.ref a1), (.int p2), (.int p3), (.int p4), (.int p5)] below meth c T130 locs130 0 0) (e130 : T130.heap = h130) (N0 : Fr n0 locs130) (K0 : Keep h0 h130 [a1]) (O0 : Old Z n0 h130) (V_a1 : Arv Z h130 a1 kc .char N (FLP p2 p3 p4 p5 31) (.int (0 : Int32))), Goes p e below Post T130 (mkF m 335 #[.val (.ref a1), .val (.int p2), .val (.int p3), .val (.int p4), .val (.int p5)] [])) :
    Goes p e below Post T129 (mkF m 324 #[.val (.ref a1), .val (.int p2), .val (.int p3), .val (.int p4), .val (.int p5)] []) := by
  refine Goes.step (T' := T129) (g' := (mkF m 325 #[.val (.ref a1), .val (.int p2), .val (.int p3), .val (.int p4), .val (.int p5)] [(.ref a1)])) (fun _ kz => XS.aloadN X129.here hx rfl (hb hby d_method_5_324) rfl rfl kz) ?_
  refine Goes.step (T' := T129) (g' := (mkF m 327 #[.val (.ref a1), .val (.int p2), .val (.int p3), .val (.int p4), .val (.int p5)] [(.int (30 : Int32)), (.ref a1)])) (fun _ kz => XS.bipush X129.here hx rfl (hb hby d_method_5_325) kz) ?_
  refine Goes.step (T' := T129) (g' := (mkF m 328 #[.val (.ref a1), .val (.int p2), .val (.int p3), .val (.int p4), .val (.int p5)] [(.int p2), (.int (30 : Int32)), (.ref a1)])) (fun _ kz => XS.iloadN X129.here hx rfl (hb hby d_method_5_327) rfl  kz) ?_
  refine Goes.step (T' := T129) (g' := (mkF m 329 #[.val (.ref a1), .val (.int p2), .val (.int p3), .val (.int p4), .val (.int p5)] [(.int p3), (.int p2), (.int (30 : Int32)), (.ref a1)])) (fun _ kz => XS.iloadN X129.here hx rfl (hb hby d_method_5_328) rfl  kz) ?_
  refine Goes.step (T' := T129) (g' := (mkF m 330 #[.val (.ref a1), .val (.int p2), .val (.int p3), .val (.int p4), .val (.int p5)] [(.int p4), (.int p3), (.int p2), (.int (30 : Int32)), (.ref a1)])) (fun _ kz => XS.iloadN X129.here hx rfl (hb hby d_method_5_329) rfl  kz) ?_
  refine Goes.step (T' := T129) (g' := (mkF m 332 #[.val (.ref a1), .val (.int p2), .val (.int p3), .val (.int p4), .val (.int p5)] [(.int p5), (.int p4), (.int p3), (.int p2), (.int (30 : Int32)), (.ref a1)])) (fun _ kz => XS.iload X129.here hx rfl (hb hby d_method_5_330) rfl  kz) ?_
  obtain ⟨_, _, ⟨T131, L131, k131, n131⟩, -, X131, ⟨Lc131, hQ131, l131, y131, z131⟩, st131⟩ := Jvm.LawKit.callS X129 hx (y := (⟨"com/example/tariff/tariff/core/decimal/PlainDecimalIsBoundedPinLaw", "put", "([CIIICI)V"⟩ : MethodName)) hown (mvT hZ (hw _ (List.mem_of_getElem? (i := 6) rfl))) (mvT hZ (hw _ (List.mem_of_getElem? (i := 7) rfl))) (mvT hZ (hw _ (List.mem_of_getElem? (i := 4) rfl))) (mvT hZ (hw _ (List.mem_of_getElem? (i := 8) rfl))) (by decide) (backOf (W := 0) (rm_put l Z a0 hw [] a1 (30 : Int32) p2 p3 p4 p5 (kc) (N) ((FLP p2 p3 p4 p5 30)) ((.int (0 : Int32))) h129 n0 O0  V_a1 g_a1 (by decide) (by rw [flp_len]; decide)) hZ (hw _ (List.mem_of_getElem? (i := 8) rfl)) (hw _ (List.mem_of_getElem? (i := 4) rfl)) (by decide) (by decide)) (g := (mkF m 332 #[.val (.ref a1), .val (.int p2), .val (.int p3), .val (.int p4), .val (.int p5)] [(.int p5), (.int p4), (.int p3), (.int p2), (.int (30 : Int32)), (.ref a1)])) rfl (by rw [hml]; rfl) (argsL := [(.ref a1), (.int (30 : Int32)), (.int p2), (.int p3), (.int p4), (.int p5)]) (rest := []) (lenOf pd_9 rfl) rfl (by show 2 * 0 + _ ≤ _; exact Nat.le_of_eq rfl) (hb hby d_method_5_332) (fun _ _ => ⟨rfl, e129, (by decide : 0 + 0 ≤ _), (by decide : 0 + 0 ≤ _)⟩)
  dsimp only [Pt.U, Pt.locs, Pt.cells, Pt.slots] at X131 l131 y131 z131 st131 hQ131
  subst l131 y131 z131
  obtain ⟨h131, e131⟩ : ∃ z, T131.heap = z := ⟨_, rfl⟩
  rw [e131] at hQ131
  obtain ⟨rfl, Nq131, Kq131, V_a1_q131⟩ := hQ131
  replace N0 := Fr.app N0 Nq131
  clear V_a1
  replace O0 := O0.keep Kq131 (allS g_a1 all0)
  replace K0 := K0.trans Kq131 (allS (Or.inl (List.mem_of_getElem? (i := 0) rfl)) all0)
  have V_a1 := V_a1_q131
  refine Goes.step (T' := T131) (g' := (mkF m 335 #[.val (.ref a1), .val (.int p2), .val (.int p3), .val (.int p4), .val (.int p5)] [])) st131 ?_
  rw [flp_step (i := 30) (c := (30 : Int32)) (by decide) rfl (by decide)] at V_a1
  exact nx _ _ _ (X131.mono (by decide) (by decide)) e131 N0 K0 O0 V_a1
set_option maxRecDepth 65536 in
set_option maxHeartbeats 40000000 in
theorem fill_31 (l : Launch) (Z : State) (a0 : Array Value) (hw : ∀ d ∈ tables_1, d.before a0 Z = true) (p : Program) (e : Env) (s : State) (m : MethodId) (below : List Frame) (meth : Method) (c : Code) (Post : Outcome → State → Prop) (hx : p.tables.exec = Jvm.exec) (hby : c.code = method_5_code) (hml : c.maxLocals = 5) (hown : s.vm.findClass "com/example/tariff/tariff/core/decimal/PlainDecimalIsBoundedPinLaw" = some m.cls) (hZ : Z.Warmed39 s.vm) (a1 : Addr) (p2 : Int32) (p3 : Int32) (p4 : Int32) (p5 : Int32) (kc : ClassId) (N : Int32) (h0 : Heap) (n0 : Nat) (g_a1 : n0 ≤ a1)  (T132 : State) (h132 : Heap) (locs132 : List Loc) (X132 : Stand p l e ({ frames := 2, cells := 0, slots := 0, locals := 35 } : Room) s m #[(.ref a1), (.int p2), (.int p3), (.int p4), (.int p5)] below meth c T132 locs132 0 0) (e132 : T132.heap = h132) (N0 : Fr n0 locs132) (K0 : Keep h0 h132 [a1]) (O0 : Old Z n0 h132) (V_a1 : Arv Z h132 a1 kc .char N (FLP p2 p3 p4 p5 31) (.int (0 : Int32))) (nx : ∀ (T133 : State) (h133 : Heap) (locs133 : List Loc) (X133 : Stand p l e ({ frames := 2, cells := 0, slots := 0, locals := 35 } : Room) s m #[(.ref a1), (.int p2), (.int p3), (.int p4), (.int p5)] below meth c T133 locs133 0 0) (e133 : T133.heap = h133) (N0 : Fr n0 locs133) (K0 : Keep h0 h133 [a1]) (O0 : Old Z n0 h133) (V_a1 : Arv Z h133 a1 kc .char N (FLP p2 p3 p4 p5 32) (.int (0 : Int32))), Goes p e below Post T133 (mkF m 346 #[.val (.ref a1), .val (.int p2), .val (.int p3), .val (.int p4), .val (.int p5)] [])) :
    Goes p e below Post T132 (mkF m 335 #[.val (.ref a1), .val (.int p2), .val (.int p3), .val (.int p4), .val (.int p5)] []) := by
  refine Goes.step (T' := T132) (g' := (mkF m 336 #[.val (.ref a1), .val (.int p2), .val (.int p3), .val (.int p4), .val (.int p5)] [(.ref a1)])) (fun _ kz => XS.aloadN X132.here hx rfl (hb hby d_method_5_335) rfl rfl kz) ?_
  refine Goes.step (T' := T132) (g' := (mkF m 338 #[.val (.ref a1), .val (.int p2), .val (.int p3), .val (.int p4), .val (.int p5)] [(.int (31 : Int32)), (.ref a1)])) (fun _ kz => XS.bipush X132.here hx rfl (hb hby d_method_5_336) kz) ?_
  refine Goes.step (T' := T132) (g' := (mkF m 339 #[.val (.ref a1), .val (.int p2), .val (.int p3), .val (.int p4), .val (.int p5)] [(.int p2), (.int (31 : Int32)), (.ref a1)])) (fun _ kz => XS.iloadN X132.here hx rfl (hb hby d_method_5_338) rfl  kz) ?_
  refine Goes.step (T' := T132) (g' := (mkF m 340 #[.val (.ref a1), .val (.int p2), .val (.int p3), .val (.int p4), .val (.int p5)] [(.int p3), (.int p2), (.int (31 : Int32)), (.ref a1)])) (fun _ kz => XS.iloadN X132.here hx rfl (hb hby d_method_5_339) rfl  kz) ?_
  refine Goes.step (T' := T132) (g' := (mkF m 341 #[.val (.ref a1), .val (.int p2), .val (.int p3), .val (.int p4), .val (.int p5)] [(.int p4), (.int p3), (.int p2), (.int (31 : Int32)), (.ref a1)])) (fun _ kz => XS.iloadN X132.here hx rfl (hb hby d_method_5_340) rfl  kz) ?_
  refine Goes.step (T' := T132) (g' := (mkF m 343 #[.val (.ref a1), .val (.int p2), .val (.int p3), .val (.int p4), .val (.int p5)] [(.int p5), (.int p4), (.int p3), (.int p2), (.int (31 : Int32)), (.ref a1)])) (fun _ kz => XS.iload X132.here hx rfl (hb hby d_method_5_341) rfl  kz) ?_
  obtain ⟨_, _, ⟨T134, L134, k134, n134⟩, -, X134, ⟨Lc134, hQ134, l134, y134, z134⟩, st134⟩ := Jvm.LawKit.callS X132 hx (y := (⟨"com/example/tariff/tariff/core/decimal/PlainDecimalIsBoundedPinLaw", "put", "([CIIICI)V"⟩ : MethodName)) hown (mvT hZ (hw _ (List.mem_of_getElem? (i := 6) rfl))) (mvT hZ (hw _ (List.mem_of_getElem? (i := 7) rfl))) (mvT hZ (hw _ (List.mem_of_getElem? (i := 4) rfl))) (mvT hZ (hw _ (List.mem_of_getElem? (i := 8) rfl))) (by decide) (backOf (W := 0) (rm_put l Z a0 hw [] a1 (31 : Int32) p2 p3 p4 p5 (kc) (N) ((FLP p2 p3 p4 p5 31)) ((.int (0 : Int32))) h132 n0 O0  V_a1 g_a1 (by decide) (by rw [flp_len]; decide)) hZ (hw _ (List.mem_of_getElem? (i := 8) rfl)) (hw _ (List.mem_of_getElem? (i := 4) rfl)) (by decide) (by decide)) (g := (mkF m 343 #[.val (.ref a1), .val (.int p2), .val (.int p3), .val (.int p4), .val (.int p5)] [(.int p5), (.int p4), (.int p3), (.int p2), (.int (31 : Int32)), (.ref a1)])) rfl (by rw [hml]; rfl) (argsL := [(.ref a1), (.int (31 : Int32)), (.int p2), (.int p3), (.int p4), (.int p5)]) (rest := []) (lenOf pd_9 rfl) rfl (by show 2 * 0 + _ ≤ _; exact Nat.le_of_eq rfl) (hb hby d_method_5_343) (fun _ _ => ⟨rfl, e132, (by decide : 0 + 0 ≤ _), (by decide : 0 + 0 ≤ _)⟩)
  dsimp only [Pt.U, Pt.locs, Pt.cells, Pt.slots] at X134 l134 y134 z134 st134 hQ134
  subst l134 y134 z134
  obtain ⟨h134, e134⟩ : ∃ z, T134.heap = z := ⟨_, rfl⟩
  rw [e134] at hQ134
  obtain ⟨rfl, Nq134, Kq134, V_a1_q134⟩ := hQ134
  replace N0 := Fr.app N0 Nq134
  clear V_a1
  replace O0 := O0.keep Kq134 (allS g_a1 all0)
  replace K0 := K0.trans Kq134 (allS (Or.inl (List.mem_of_getElem? (i := 0) rfl)) all0)
  have V_a1 := V_a1_q134
  refine Goes.step (T' := T134) (g' := (mkF m 346 #[.val (.ref a1), .val (.int p2), .val (.int p3), .val (.int p4), .val (.int p5)] [])) st134 ?_
  rw [flp_step (i := 31) (c := (31 : Int32)) (by decide) rfl (by decide)] at V_a1
  exact nx _ _ _ (X134.mono (by decide) (by decide)) e134 N0 K0 O0 V_a1
set_option maxRecDepth 65536 in
set_option maxHeartbeats 40000000 in
theorem fill_32 (l : Launch) (Z : State) (a0 : Array Value) (hw : ∀ d ∈ tables_1, d.before a0 Z = true) (p : Program) (e : Env) (s : State) (m : MethodId) (below : List Frame) (meth : Method) (c : Code) (Post : Outcome → State → Prop) (hx : p.tables.exec = Jvm.exec) (hby : c.code = method_5_code) (hml : c.maxLocals = 5) (hown : s.vm.findClass "com/example/tariff/tariff/core/decimal/PlainDecimalIsBoundedPinLaw" = some m.cls) (hZ : Z.Warmed39 s.vm) (a1 : Addr) (p2 : Int32) (p3 : Int32) (p4 : Int32) (p5 : Int32) (kc : ClassId) (N : Int32) (h0 : Heap) (n0 : Nat) (g_a1 : n0 ≤ a1)  (T135 : State) (h135 : Heap) (locs135 : List Loc) (X135 : Stand p l e ({ frames := 2, cells := 0, slots := 0, locals := 35 } : Room) s m #[(.ref a1), (.int p2), (.int p3), (.int p4), (.int p5)] below meth c T135 locs135 0 0) (e135 : T135.heap = h135) (N0 : Fr n0 locs135) (K0 : Keep h0 h135 [a1]) (O0 : Old Z n0 h135) (V_a1 : Arv Z h135 a1 kc .char N (FLP p2 p3 p4 p5 32) (.int (0 : Int32))) (nx : ∀ (T136 : State) (h136 : Heap) (locs136 : List Loc) (X136 : Stand p l e ({ frames := 2, cells := 0, slots := 0, locals := 35 } : Room) s m #[(.ref a1), (.int p2), (.int p3), (.int p4), (.int p5)] below meth c T136 locs136 0 0) (e136 : T136.heap = h136) (N0 : Fr n0 locs136) (K0 : Keep h0 h136 [a1]) (O0 : Old Z n0 h136) (V_a1 : Arv Z h136 a1 kc .char N (FLP p2 p3 p4 p5 33) (.int (0 : Int32))), Goes p e below Post T136 (mkF m 357 #[.val (.ref a1), .val (.int p2), .val (.int p3), .val (.int p4), .val (.int p5)] [])) :
    Goes p e below Post T135 (mkF m 346 #[.val (.ref a1), .val (.int p2), .val (.int p3), .val (.int p4), .val (.int p5)] []) := by
  refine Goes.step (T' := T135) (g' := (mkF m 347 #[.val (.ref a1), .val (.int p2), .val (.int p3), .val (.int p4), .val (.int p5)] [(.ref a1)])) (fun _ kz => XS.aloadN X135.here hx rfl (hb hby d_method_5_346) rfl rfl kz) ?_
  refine Goes.step (T' := T135) (g' := (mkF m 349 #[.val (.ref a1), .val (.int p2), .val (.int p3), .val (.int p4), .val (.int p5)] [(.int (32 : Int32)), (.ref a1)])) (fun _ kz => XS.bipush X135.here hx rfl (hb hby d_method_5_347) kz) ?_
  refine Goes.step (T' := T135) (g' := (mkF m 350 #[.val (.ref a1), .val (.int p2), .val (.int p3), .val (.int p4), .val (.int p5)] [(.int p2), (.int (32 : Int32)), (.ref a1)])) (fun _ kz => XS.iloadN X135.here hx rfl (hb hby d_method_5_349) rfl  kz) ?_
  refine Goes.step (T' := T135) (g' := (mkF m 351 #[.val (.ref a1), .val (.int p2), .val (.int p3), .val (.int p4), .val (.int p5)] [(.int p3), (.int p2), (.int (32 : Int32)), (.ref a1)])) (fun _ kz => XS.iloadN X135.here hx rfl (hb hby d_method_5_350) rfl  kz) ?_
  refine Goes.step (T' := T135) (g' := (mkF m 352 #[.val (.ref a1), .val (.int p2), .val (.int p3), .val (.int p4), .val (.int p5)] [(.int p4), (.int p3), (.int p2), (.int (32 : Int32)), (.ref a1)])) (fun _ kz => XS.iloadN X135.here hx rfl (hb hby d_method_5_351) rfl  kz) ?_
  refine Goes.step (T' := T135) (g' := (mkF m 354 #[.val (.ref a1), .val (.int p2), .val (.int p3), .val (.int p4), .val (.int p5)] [(.int p5), (.int p4), (.int p3), (.int p2), (.int (32 : Int32)), (.ref a1)])) (fun _ kz => XS.iload X135.here hx rfl (hb hby d_method_5_352) rfl  kz) ?_
  obtain ⟨_, _, ⟨T137, L137, k137, n137⟩, -, X137, ⟨Lc137, hQ137, l137, y137, z137⟩, st137⟩ := Jvm.LawKit.callS X135 hx (y := (⟨"com/example/tariff/tariff/core/decimal/PlainDecimalIsBoundedPinLaw", "put", "([CIIICI)V"⟩ : MethodName)) hown (mvT hZ (hw _ (List.mem_of_getElem? (i := 6) rfl))) (mvT hZ (hw _ (List.mem_of_getElem? (i := 7) rfl))) (mvT hZ (hw _ (List.mem_of_getElem? (i := 4) rfl))) (mvT hZ (hw _ (List.mem_of_getElem? (i := 8) rfl))) (by decide) (backOf (W := 0) (rm_put l Z a0 hw [] a1 (32 : Int32) p2 p3 p4 p5 (kc) (N) ((FLP p2 p3 p4 p5 32)) ((.int (0 : Int32))) h135 n0 O0  V_a1 g_a1 (by decide) (by rw [flp_len]; decide)) hZ (hw _ (List.mem_of_getElem? (i := 8) rfl)) (hw _ (List.mem_of_getElem? (i := 4) rfl)) (by decide) (by decide)) (g := (mkF m 354 #[.val (.ref a1), .val (.int p2), .val (.int p3), .val (.int p4), .val (.int p5)] [(.int p5), (.int p4), (.int p3), (.int p2), (.int (32 : Int32)), (.ref a1)])) rfl (by rw [hml]; rfl) (argsL := [(.ref a1), (.int (32 : Int32)), (.int p2), (.int p3), (.int p4), (.int p5)]) (rest := []) (lenOf pd_9 rfl) rfl (by show 2 * 0 + _ ≤ _; exact Nat.le_of_eq rfl) (hb hby d_method_5_354) (fun _ _ => ⟨rfl, e135, (by decide : 0 + 0 ≤ _), (by decide : 0 + 0 ≤ _)⟩)
  dsimp only [Pt.U, Pt.locs, Pt.cells, Pt.slots] at X137 l137 y137 z137 st137 hQ137
  subst l137 y137 z137
  obtain ⟨h137, e137⟩ : ∃ z, T137.heap = z := ⟨_, rfl⟩
  rw [e137] at hQ137
  obtain ⟨rfl, Nq137, Kq137, V_a1_q137⟩ := hQ137
  replace N0 := Fr.app N0 Nq137
  clear V_a1
  replace O0 := O0.keep Kq137 (allS g_a1 all0)
  replace K0 := K0.trans Kq137 (allS (Or.inl (List.mem_of_getElem? (i := 0) rfl)) all0)
  have V_a1 := V_a1_q137
  refine Goes.step (T' := T137) (g' := (mkF m 357 #[.val (.ref a1), .val (.int p2), .val (.int p3), .val (.int p4), .val (.int p5)] [])) st137 ?_
  rw [flp_step (i := 32) (c := (32 : Int32)) (by decide) rfl (by decide)] at V_a1
  exact nx _ _ _ (X137.mono (by decide) (by decide)) e137 N0 K0 O0 V_a1
set_option maxRecDepth 65536 in
set_option maxHeartbeats 40000000 in
theorem fill_33 (l : Launch) (Z : State) (a0 : Array Value) (hw : ∀ d ∈ tables_1, d.before a0 Z = true) (p : Program) (e : Env) (s : State) (m : MethodId) (below : List Frame) (meth : Method) (c : Code) (Post : Outcome → State → Prop) (hx : p.tables.exec = Jvm.exec) (hby : c.code = method_5_code) (hml : c.maxLocals = 5) (hown : s.vm.findClass "com/example/tariff/tariff/core/decimal/PlainDecimalIsBoundedPinLaw" = some m.cls) (hZ : Z.Warmed39 s.vm) (a1 : Addr) (p2 : Int32) (p3 : Int32) (p4 : Int32) (p5 : Int32) (kc : ClassId) (N : Int32) (h0 : Heap) (n0 : Nat) (g_a1 : n0 ≤ a1)  (T138 : State) (h138 : Heap) (locs138 : List Loc) (X138 : Stand p l e ({ frames := 2, cells := 0, slots := 0, locals := 35 } : Room) s m #[(.ref a1), (.int p2), (.int p3), (.int p4), (.int p5)] below meth c T138 locs138 0 0) (e138 : T138.heap = h138) (N0 : Fr n0 locs138) (K0 : Keep h0 h138 [a1]) (O0 : Old Z n0 h138) (V_a1 : Arv Z h138 a1 kc .char N (FLP p2 p3 p4 p5 33) (.int (0 : Int32))) (nx : ∀ (T139 : State) (h139 : Heap) (locs139 : List Loc) (X139 : Stand p l e ({ frames := 2, cells := 0, slots := 0, locals := 35 } : Room) s m #[(.ref a1), (.int p2), (.int p3), (.int p4), (.int p5)] below meth c T139 locs139 0 0) (e139 : T139.heap = h139) (N0 : Fr n0 locs139) (K0 : Keep h0 h139 [a1]) (O0 : Old Z n0 h139) (V_a1 : Arv Z h139 a1 kc .char N (FLP p2 p3 p4 p5 34) (.int (0 : Int32))), Goes p e below Post T139 (mkF m 368 #[.val (.ref a1), .val (.int p2), .val (.int p3), .val (.int p4), .val (.int p5)] [])) :
    Goes p e below Post T138 (mkF m 357 #[.val (.ref a1), .val (.int p2), .val (.int p3), .val (.int p4), .val (.int p5)] []) := by
  refine Goes.step (T' := T138) (g' := (mkF m 358 #[.val (.ref a1), .val (.int p2), .val (.int p3), .val (.int p4), .val (.int p5)] [(.ref a1)])) (fun _ kz => XS.aloadN X138.here hx rfl (hb hby d_method_5_357) rfl rfl kz) ?_
  refine Goes.step (T' := T138) (g' := (mkF m 360 #[.val (.ref a1), .val (.int p2), .val (.int p3), .val (.int p4), .val (.int p5)] [(.int (33 : Int32)), (.ref a1)])) (fun _ kz => XS.bipush X138.here hx rfl (hb hby d_method_5_358) kz) ?_
  refine Goes.step (T' := T138) (g' := (mkF m 361 #[.val (.ref a1), .val (.int p2), .val (.int p3), .val (.int p4), .val (.int p5)] [(.int p2), (.int (33 : Int32)), (.ref a1)])) (fun _ kz => XS.iloadN X138.here hx rfl (hb hby d_method_5_360) rfl  kz) ?_
  refine Goes.step (T' := T138) (g' := (mkF m 362 #[.val (.ref a1), .val (.int p2), .val (.int p3), .val (.int p4), .val (.int p5)] [(.int p3), (.int p2), (.int (33 : Int32)), (.ref a1)])) (fun _ kz => XS.iloadN X138.here hx rfl (hb hby d_method_5_361) rfl  kz) ?_
  refine Goes.step (T' := T138) (g' := (mkF m 363 #[.val (.ref a1), .val (.int p2), .val (.int p3), .val (.int p4), .val (.int p5)] [(.int p4), (.int p3), (.int p2), (.int (33 : Int32)), (.ref a1)])) (fun _ kz => XS.iloadN X138.here hx rfl (hb hby d_method_5_362) rfl  kz) ?_
  refine Goes.step (T' := T138) (g' := (mkF m 365 #[.val (.ref a1), .val (.int p2), .val (.int p3), .val (.int p4), .val (.int p5)] [(.int p5), (.int p4), (.int p3), (.int p2), (.int (33 : Int32)), (.ref a1)])) (fun _ kz => XS.iload X138.here hx rfl (hb hby d_method_5_363) rfl  kz) ?_
  obtain ⟨_, _, ⟨T140, L140, k140, n140⟩, -, X140, ⟨Lc140, hQ140, l140, y140, z140⟩, st140⟩ := Jvm.LawKit.callS X138 hx (y := (⟨"com/example/tariff/tariff/core/decimal/PlainDecimalIsBoundedPinLaw", "put", "([CIIICI)V"⟩ : MethodName)) hown (mvT hZ (hw _ (List.mem_of_getElem? (i := 6) rfl))) (mvT hZ (hw _ (List.mem_of_getElem? (i := 7) rfl))) (mvT hZ (hw _ (List.mem_of_getElem? (i := 4) rfl))) (mvT hZ (hw _ (List.mem_of_getElem? (i := 8) rfl))) (by decide) (backOf (W := 0) (rm_put l Z a0 hw [] a1 (33 : Int32) p2 p3 p4 p5 (kc) (N) ((FLP p2 p3 p4 p5 33)) ((.int (0 : Int32))) h138 n0 O0  V_a1 g_a1 (by decide) (by rw [flp_len]; decide)) hZ (hw _ (List.mem_of_getElem? (i := 8) rfl)) (hw _ (List.mem_of_getElem? (i := 4) rfl)) (by decide) (by decide)) (g := (mkF m 365 #[.val (.ref a1), .val (.int p2), .val (.int p3), .val (.int p4), .val (.int p5)] [(.int p5), (.int p4), (.int p3), (.int p2), (.int (33 : Int32)), (.ref a1)])) rfl (by rw [hml]; rfl) (argsL := [(.ref a1), (.int (33 : Int32)), (.int p2), (.int p3), (.int p4), (.int p5)]) (rest := []) (lenOf pd_9 rfl) rfl (by show 2 * 0 + _ ≤ _; exact Nat.le_of_eq rfl) (hb hby d_method_5_365) (fun _ _ => ⟨rfl, e138, (by decide : 0 + 0 ≤ _), (by decide : 0 + 0 ≤ _)⟩)
  dsimp only [Pt.U, Pt.locs, Pt.cells, Pt.slots] at X140 l140 y140 z140 st140 hQ140
  subst l140 y140 z140
  obtain ⟨h140, e140⟩ : ∃ z, T140.heap = z := ⟨_, rfl⟩
  rw [e140] at hQ140
  obtain ⟨rfl, Nq140, Kq140, V_a1_q140⟩ := hQ140
  replace N0 := Fr.app N0 Nq140
  clear V_a1
  replace O0 := O0.keep Kq140 (allS g_a1 all0)
  replace K0 := K0.trans Kq140 (allS (Or.inl (List.mem_of_getElem? (i := 0) rfl)) all0)
  have V_a1 := V_a1_q140
  refine Goes.step (T' := T140) (g' := (mkF m 368 #[.val (.ref a1), .val (.int p2), .val (.int p3), .val (.int p4), .val (.int p5)] [])) st140 ?_
  rw [flp_step (i := 33) (c := (33 : Int32)) (by decide) rfl (by decide)] at V_a1
  exact nx _ _ _ (X140.mono (by decide) (by decide)) e140 N0 K0 O0 V_a1
set_option maxRecDepth 65536 in
set_option maxHeartbeats 40000000 in
theorem fill_34 (l : Launch) (Z : State) (a0 : Array Value) (hw : ∀ d ∈ tables_1, d.before a0 Z = true) (p : Program) (e : Env) (s : State) (m : MethodId) (below : List Frame) (meth : Method) (c : Code) (Post : Outcome → State → Prop) (hx : p.tables.exec = Jvm.exec) (hby : c.code = method_5_code) (hml : c.maxLocals = 5) (hown : s.vm.findClass "com/example/tariff/tariff/core/decimal/PlainDecimalIsBoundedPinLaw" = some m.cls) (hZ : Z.Warmed39 s.vm) (a1 : Addr) (p2 : Int32) (p3 : Int32) (p4 : Int32) (p5 : Int32) (kc : ClassId) (N : Int32) (h0 : Heap) (n0 : Nat) (g_a1 : n0 ≤ a1)  (T141 : State) (h141 : Heap) (locs141 : List Loc) (X141 : Stand p l e ({ frames := 2, cells := 0, slots := 0, locals := 35 } : Room) s m #[(.ref a1), (.int p2), (.int p3), (.int p4), (.int p5)] below meth c T141 locs141 0 0) (e141 : T141.heap = h141) (N0 : Fr n0 locs141) (K0 : Keep h0 h141 [a1]) (O0 : Old Z n0 h141) (V_a1 : Arv Z h141 a1 kc .char N (FLP p2 p3 p4 p5 34) (.int (0 : Int32))) (nx : ∀ (T142 : State) (h142 : Heap) (locs142 : List Loc) (X142 : Stand p l e ({ frames := 2, cells := 0, slots := 0, locals := 35 } : Room) s m #[(.ref a1), (.int p2), (.int p3), (.int p4), (.int p5)] below meth c T142 locs142 0 0) (e142 : T142.heap = h142) (N0 : Fr n0 locs142) (K0 : Keep h0 h142 [a1]) (O0 : Old Z n0 h142) (V_a1 : Arv Z h142 a1 kc .char N (FLP p2 p3 p4 p5 35) (.int (0 : Int32))), Goes p e below Post T142 (mkF m 379 #[.val (.ref a1), .val (.int p2), .val (.int p3), .val (.int p4), .val (.int p5)] [])) :
    Goes p e below Post T141 (mkF m 368 #[.val (.ref a1), .val (.int p2), .val (.int p3), .val (.int p4), .val (.int p5)] []) := by
  refine Goes.step (T' := T141) (g' := (mkF m 369 #[.val (.ref a1), .val (.int p2), .val (.int p3), .val (.int p4), .val (.int p5)] [(.ref a1)])) (fun _ kz => XS.aloadN X141.here hx rfl (hb hby d_method_5_368) rfl rfl kz) ?_
  refine Goes.step (T' := T141) (g' := (mkF m 371 #[.val (.ref a1), .val (.int p2), .val (.int p3), .val (.int p4), .val (.int p5)] [(.int (34 : Int32)), (.ref a1)])) (fun _ kz => XS.bipush X141.here hx rfl (hb hby d_method_5_369) kz) ?_
  refine Goes.step (T' := T141) (g' := (mkF m 372 #[.val (.ref a1), .val (.int p2), .val (.int p3), .val (.int p4), .val (.int p5)] [(.int p2), (.int (34 : Int32)), (.ref a1)])) (fun _ kz => XS.iloadN X141.here hx rfl (hb hby d_method_5_371) rfl  kz) ?_
  refine Goes.step (T' := T141) (g' := (mkF m 373 #[.val (.ref a1), .val (.int p2), .val (.int p3), .val (.int p4), .val (.int p5)] [(.int p3), (.int p2), (.int (34 : Int32)), (.ref a1)])) (fun _ kz => XS.iloadN X141.here hx rfl (hb hby d_method_5_372) rfl  kz) ?_
  refine Goes.step (T' := T141) (g' := (mkF m 374 #[.val (.ref a1), .val (.int p2), .val (.int p3), .val (.int p4), .val (.int p5)] [(.int p4), (.int p3), (.int p2), (.int (34 : Int32)), (.ref a1)])) (fun _ kz => XS.iloadN X141.here hx rfl (hb hby d_method_5_373) rfl  kz) ?_
  refine Goes.step (T' := T141) (g' := (mkF m 376 #[.val (.ref a1), .val (.int p2), .val (.int p3), .val (.int p4), .val (.int p5)] [(.int p5), (.int p4), (.int p3), (.int p2), (.int (34 : Int32)), (.ref a1)])) (fun _ kz => XS.iload X141.here hx rfl (hb hby d_method_5_374) rfl  kz) ?_
  obtain ⟨_, _, ⟨T143, L143, k143, n143⟩, -, X143, ⟨Lc143, hQ143, l143, y143, z143⟩, st143⟩ := Jvm.LawKit.callS X141 hx (y := (⟨"com/example/tariff/tariff/core/decimal/PlainDecimalIsBoundedPinLaw", "put", "([CIIICI)V"⟩ : MethodName)) hown (mvT hZ (hw _ (List.mem_of_getElem? (i := 6) rfl))) (mvT hZ (hw _ (List.mem_of_getElem? (i := 7) rfl))) (mvT hZ (hw _ (List.mem_of_getElem? (i := 4) rfl))) (mvT hZ (hw _ (List.mem_of_getElem? (i := 8) rfl))) (by decide) (backOf (W := 0) (rm_put l Z a0 hw [] a1 (34 : Int32) p2 p3 p4 p5 (kc) (N) ((FLP p2 p3 p4 p5 34)) ((.int (0 : Int32))) h141 n0 O0  V_a1 g_a1 (by decide) (by rw [flp_len]; decide)) hZ (hw _ (List.mem_of_getElem? (i := 8) rfl)) (hw _ (List.mem_of_getElem? (i := 4) rfl)) (by decide) (by decide)) (g := (mkF m 376 #[.val (.ref a1), .val (.int p2), .val (.int p3), .val (.int p4), .val (.int p5)] [(.int p5), (.int p4), (.int p3), (.int p2), (.int (34 : Int32)), (.ref a1)])) rfl (by rw [hml]; rfl) (argsL := [(.ref a1), (.int (34 : Int32)), (.int p2), (.int p3), (.int p4), (.int p5)]) (rest := []) (lenOf pd_9 rfl) rfl (by show 2 * 0 + _ ≤ _; exact Nat.le_of_eq rfl) (hb hby d_method_5_376) (fun _ _ => ⟨rfl, e141, (by decide : 0 + 0 ≤ _), (by decide : 0 + 0 ≤ _)⟩)
  dsimp only [Pt.U, Pt.locs, Pt.cells, Pt.slots] at X143 l143 y143 z143 st143 hQ143
  subst l143 y143 z143
  obtain ⟨h143, e143⟩ : ∃ z, T143.heap = z := ⟨_, rfl⟩
  rw [e143] at hQ143
  obtain ⟨rfl, Nq143, Kq143, V_a1_q143⟩ := hQ143
  replace N0 := Fr.app N0 Nq143
  clear V_a1
  replace O0 := O0.keep Kq143 (allS g_a1 all0)
  replace K0 := K0.trans Kq143 (allS (Or.inl (List.mem_of_getElem? (i := 0) rfl)) all0)
  have V_a1 := V_a1_q143
  refine Goes.step (T' := T143) (g' := (mkF m 379 #[.val (.ref a1), .val (.int p2), .val (.int p3), .val (.int p4), .val (.int p5)] [])) st143 ?_
  rw [flp_step (i := 34) (c := (34 : Int32)) (by decide) rfl (by decide)] at V_a1
  exact nx _ _ _ (X143.mono (by decide) (by decide)) e143 N0 K0 O0 V_a1
set_option maxRecDepth 65536 in
set_option maxHeartbeats 40000000 in
theorem fill_35 (l : Launch) (Z : State) (a0 : Array Value) (hw : ∀ d ∈ tables_1, d.before a0 Z = true) (p : Program) (e : Env) (s : State) (m : MethodId) (below : List Frame) (meth : Method) (c : Code) (Post : Outcome → State → Prop) (hx : p.tables.exec = Jvm.exec) (hby : c.code = method_5_code) (hml : c.maxLocals = 5) (hown : s.vm.findClass "com/example/tariff/tariff/core/decimal/PlainDecimalIsBoundedPinLaw" = some m.cls) (hZ : Z.Warmed39 s.vm) (a1 : Addr) (p2 : Int32) (p3 : Int32) (p4 : Int32) (p5 : Int32) (kc : ClassId) (N : Int32) (h0 : Heap) (n0 : Nat) (g_a1 : n0 ≤ a1)  (T144 : State) (h144 : Heap) (locs144 : List Loc) (X144 : Stand p l e ({ frames := 2, cells := 0, slots := 0, locals := 35 } : Room) s m #[(.ref a1), (.int p2), (.int p3), (.int p4), (.int p5)] below meth c T144 locs144 0 0) (e144 : T144.heap = h144) (N0 : Fr n0 locs144) (K0 : Keep h0 h144 [a1]) (O0 : Old Z n0 h144) (V_a1 : Arv Z h144 a1 kc .char N (FLP p2 p3 p4 p5 35) (.int (0 : Int32))) (nx : ∀ (T145 : State) (h145 : Heap) (locs145 : List Loc) (X145 : Stand p l e ({ frames := 2, cells := 0, slots := 0, locals := 35 } : Room) s m #[(.ref a1), (.int p2), (.int p3), (.int p4), (.int p5)] below meth c T145 locs145 0 0) (e145 : T145.heap = h145) (N0 : Fr n0 locs145) (K0 : Keep h0 h145 [a1]) (O0 : Old Z n0 h145) (V_a1 : Arv Z h145 a1 kc .char N (FLP p2 p3 p4 p5 36) (.int (0 : Int32))), Goes p e below Post T145 (mkF m 390 #[.val (.ref a1), .val (.int p2), .val (.int p3), .val (.int p4), .val (.int p5)] [])) :
    Goes p e below Post T144 (mkF m 379 #[.val (.ref a1), .val (.int p2), .val (.int p3), .val (.int p4), .val (.int p5)] []) := by
  refine Goes.step (T' := T144) (g' := (mkF m 380 #[.val (.ref a1), .val (.int p2), .val (.int p3), .val (.int p4), .val (.int p5)] [(.ref a1)])) (fun _ kz => XS.aloadN X144.here hx rfl (hb hby d_method_5_379) rfl rfl kz) ?_
  refine Goes.step (T' := T144) (g' := (mkF m 382 #[.val (.ref a1), .val (.int p2), .val (.int p3), .val (.int p4), .val (.int p5)] [(.int (35 : Int32)), (.ref a1)])) (fun _ kz => XS.bipush X144.here hx rfl (hb hby d_method_5_380) kz) ?_
  refine Goes.step (T' := T144) (g' := (mkF m 383 #[.val (.ref a1), .val (.int p2), .val (.int p3), .val (.int p4), .val (.int p5)] [(.int p2), (.int (35 : Int32)), (.ref a1)])) (fun _ kz => XS.iloadN X144.here hx rfl (hb hby d_method_5_382) rfl  kz) ?_
  refine Goes.step (T' := T144) (g' := (mkF m 384 #[.val (.ref a1), .val (.int p2), .val (.int p3), .val (.int p4), .val (.int p5)] [(.int p3), (.int p2), (.int (35 : Int32)), (.ref a1)])) (fun _ kz => XS.iloadN X144.here hx rfl (hb hby d_method_5_383) rfl  kz) ?_
  refine Goes.step (T' := T144) (g' := (mkF m 385 #[.val (.ref a1), .val (.int p2), .val (.int p3), .val (.int p4), .val (.int p5)] [(.int p4), (.int p3), (.int p2), (.int (35 : Int32)), (.ref a1)])) (fun _ kz => XS.iloadN X144.here hx rfl (hb hby d_method_5_384) rfl  kz) ?_
  refine Goes.step (T' := T144) (g' := (mkF m 387 #[.val (.ref a1), .val (.int p2), .val (.int p3), .val (.int p4), .val (.int p5)] [(.int p5), (.int p4), (.int p3), (.int p2), (.int (35 : Int32)), (.ref a1)])) (fun _ kz => XS.iload X144.here hx rfl (hb hby d_method_5_385) rfl  kz) ?_
  obtain ⟨_, _, ⟨T146, L146, k146, n146⟩, -, X146, ⟨Lc146, hQ146, l146, y146, z146⟩, st146⟩ := Jvm.LawKit.callS X144 hx (y := (⟨"com/example/tariff/tariff/core/decimal/PlainDecimalIsBoundedPinLaw", "put", "([CIIICI)V"⟩ : MethodName)) hown (mvT hZ (hw _ (List.mem_of_getElem? (i := 6) rfl))) (mvT hZ (hw _ (List.mem_of_getElem? (i := 7) rfl))) (mvT hZ (hw _ (List.mem_of_getElem? (i := 4) rfl))) (mvT hZ (hw _ (List.mem_of_getElem? (i := 8) rfl))) (by decide) (backOf (W := 0) (rm_put l Z a0 hw [] a1 (35 : Int32) p2 p3 p4 p5 (kc) (N) ((FLP p2 p3 p4 p5 35)) ((.int (0 : Int32))) h144 n0 O0  V_a1 g_a1 (by decide) (by rw [flp_len]; decide)) hZ (hw _ (List.mem_of_getElem? (i := 8) rfl)) (hw _ (List.mem_of_getElem? (i := 4) rfl)) (by decide) (by decide)) (g := (mkF m 387 #[.val (.ref a1), .val (.int p2), .val (.int p3), .val (.int p4), .val (.int p5)] [(.int p5), (.int p4), (.int p3), (.int p2), (.int (35 : Int32)), (.ref a1)])) rfl (by rw [hml]; rfl) (argsL := [(.ref a1), (.int (35 : Int32)), (.int p2), (.int p3), (.int p4), (.int p5)]) (rest := []) (lenOf pd_9 rfl) rfl (by show 2 * 0 + _ ≤ _; exact Nat.le_of_eq rfl) (hb hby d_method_5_387) (fun _ _ => ⟨rfl, e144, (by decide : 0 + 0 ≤ _), (by decide : 0 + 0 ≤ _)⟩)
  dsimp only [Pt.U, Pt.locs, Pt.cells, Pt.slots] at X146 l146 y146 z146 st146 hQ146
  subst l146 y146 z146
  obtain ⟨h146, e146⟩ : ∃ z, T146.heap = z := ⟨_, rfl⟩
  rw [e146] at hQ146
  obtain ⟨rfl, Nq146, Kq146, V_a1_q146⟩ := hQ146
  replace N0 := Fr.app N0 Nq146
  clear V_a1
  replace O0 := O0.keep Kq146 (allS g_a1 all0)
  replace K0 := K0.trans Kq146 (allS (Or.inl (List.mem_of_getElem? (i := 0) rfl)) all0)
  have V_a1 := V_a1_q146
  refine Goes.step (T' := T146) (g' := (mkF m 390 #[.val (.ref a1), .val (.int p2), .val (.int p3), .val (.int p4), .val (.int p5)] [])) st146 ?_
  rw [flp_step (i := 35) (c := (35 : Int32)) (by decide) rfl (by decide)] at V_a1
  exact nx _ _ _ (X146.mono (by decide) (by decide)) e146 N0 K0 O0 V_a1
set_option maxRecDepth 65536 in
set_option maxHeartbeats 40000000 in
theorem fill_36 (l : Launch) (Z : State) (a0 : Array Value) (hw : ∀ d ∈ tables_1, d.before a0 Z = true) (p : Program) (e : Env) (s : State) (m : MethodId) (below : List Frame) (meth : Method) (c : Code) (Post : Outcome → State → Prop) (hx : p.tables.exec = Jvm.exec) (hby : c.code = method_5_code) (hml : c.maxLocals = 5) (hown : s.vm.findClass "com/example/tariff/tariff/core/decimal/PlainDecimalIsBoundedPinLaw" = some m.cls) (hZ : Z.Warmed39 s.vm) (a1 : Addr) (p2 : Int32) (p3 : Int32) (p4 : Int32) (p5 : Int32) (kc : ClassId) (N : Int32) (h0 : Heap) (n0 : Nat) (g_a1 : n0 ≤ a1)  (T147 : State) (h147 : Heap) (locs147 : List Loc) (X147 : Stand p l e ({ frames := 2, cells := 0, slots := 0, locals := 35 } : Room) s m #[(.ref a1), (.int p2), (.int p3), (.int p4), (.int p5)] below meth c T147 locs147 0 0) (e147 : T147.heap = h147) (N0 : Fr n0 locs147) (K0 : Keep h0 h147 [a1]) (O0 : Old Z n0 h147) (V_a1 : Arv Z h147 a1 kc .char N (FLP p2 p3 p4 p5 36) (.int (0 : Int32))) (nx : ∀ (T148 : State) (h148 : Heap) (locs148 : List Loc) (X148 : Stand p l e ({ frames := 2, cells := 0, slots := 0, locals := 35 } : Room) s m #[(.ref a1), (.int p2), (.int p3), (.int p4), (.int p5)] below meth c T148 locs148 0 0) (e148 : T148.heap = h148) (N0 : Fr n0 locs148) (K0 : Keep h0 h148 [a1]) (O0 : Old Z n0 h148) (V_a1 : Arv Z h148 a1 kc .char N (FLP p2 p3 p4 p5 37) (.int (0 : Int32))), Goes p e below Post T148 (mkF m 401 #[.val (.ref a1), .val (.int p2), .val (.int p3), .val (.int p4), .val (.int p5)] [])) :
    Goes p e below Post T147 (mkF m 390 #[.val (.ref a1), .val (.int p2), .val (.int p3), .val (.int p4), .val (.int p5)] []) := by
  refine Goes.step (T' := T147) (g' := (mkF m 391 #[.val (.ref a1), .val (.int p2), .val (.int p3), .val (.int p4), .val (.int p5)] [(.ref a1)])) (fun _ kz => XS.aloadN X147.here hx rfl (hb hby d_method_5_390) rfl rfl kz) ?_
  refine Goes.step (T' := T147) (g' := (mkF m 393 #[.val (.ref a1), .val (.int p2), .val (.int p3), .val (.int p4), .val (.int p5)] [(.int (36 : Int32)), (.ref a1)])) (fun _ kz => XS.bipush X147.here hx rfl (hb hby d_method_5_391) kz) ?_
  refine Goes.step (T' := T147) (g' := (mkF m 394 #[.val (.ref a1), .val (.int p2), .val (.int p3), .val (.int p4), .val (.int p5)] [(.int p2), (.int (36 : Int32)), (.ref a1)])) (fun _ kz => XS.iloadN X147.here hx rfl (hb hby d_method_5_393) rfl  kz) ?_
  refine Goes.step (T' := T147) (g' := (mkF m 395 #[.val (.ref a1), .val (.int p2), .val (.int p3), .val (.int p4), .val (.int p5)] [(.int p3), (.int p2), (.int (36 : Int32)), (.ref a1)])) (fun _ kz => XS.iloadN X147.here hx rfl (hb hby d_method_5_394) rfl  kz) ?_
  refine Goes.step (T' := T147) (g' := (mkF m 396 #[.val (.ref a1), .val (.int p2), .val (.int p3), .val (.int p4), .val (.int p5)] [(.int p4), (.int p3), (.int p2), (.int (36 : Int32)), (.ref a1)])) (fun _ kz => XS.iloadN X147.here hx rfl (hb hby d_method_5_395) rfl  kz) ?_
  refine Goes.step (T' := T147) (g' := (mkF m 398 #[.val (.ref a1), .val (.int p2), .val (.int p3), .val (.int p4), .val (.int p5)] [(.int p5), (.int p4), (.int p3), (.int p2), (.int (36 : Int32)), (.ref a1)])) (fun _ kz => XS.iload X147.here hx rfl (hb hby d_method_5_396) rfl  kz) ?_
  obtain ⟨_, _, ⟨T149, L149, k149, n149⟩, -, X149, ⟨Lc149, hQ149, l149, y149, z149⟩, st149⟩ := Jvm.LawKit.callS X147 hx (y := (⟨"com/example/tariff/tariff/core/decimal/PlainDecimalIsBoundedPinLaw", "put", "([CIIICI)V"⟩ : MethodName)) hown (mvT hZ (hw _ (List.mem_of_getElem? (i := 6) rfl))) (mvT hZ (hw _ (List.mem_of_getElem? (i := 7) rfl))) (mvT hZ (hw _ (List.mem_of_getElem? (i := 4) rfl))) (mvT hZ (hw _ (List.mem_of_getElem? (i := 8) rfl))) (by decide) (backOf (W := 0) (rm_put l Z a0 hw [] a1 (36 : Int32) p2 p3 p4 p5 (kc) (N) ((FLP p2 p3 p4 p5 36)) ((.int (0 : Int32))) h147 n0 O0  V_a1 g_a1 (by decide) (by rw [flp_len]; decide)) hZ (hw _ (List.mem_of_getElem? (i := 8) rfl)) (hw _ (List.mem_of_getElem? (i := 4) rfl)) (by decide) (by decide)) (g := (mkF m 398 #[.val (.ref a1), .val (.int p2), .val (.int p3), .val (.int p4), .val (.int p5)] [(.int p5), (.int p4), (.int p3), (.int p2), (.int (36 : Int32)), (.ref a1)])) rfl (by rw [hml]; rfl) (argsL := [(.ref a1), (.int (36 : Int32)), (.int p2), (.int p3), (.int p4), (.int p5)]) (rest := []) (lenOf pd_9 rfl) rfl (by show 2 * 0 + _ ≤ _; exact Nat.le_of_eq rfl) (hb hby d_method_5_398) (fun _ _ => ⟨rfl, e147, (by decide : 0 + 0 ≤ _), (by decide : 0 + 0 ≤ _)⟩)
  dsimp only [Pt.U, Pt.locs, Pt.cells, Pt.slots] at X149 l149 y149 z149 st149 hQ149
  subst l149 y149 z149
  obtain ⟨h149, e149⟩ : ∃ z, T149.heap = z := ⟨_, rfl⟩
  rw [e149] at hQ149
  obtain ⟨rfl, Nq149, Kq149, V_a1_q149⟩ := hQ149
  replace N0 := Fr.app N0 Nq149
  clear V_a1
  replace O0 := O0.keep Kq149 (allS g_a1 all0)
  replace K0 := K0.trans Kq149 (allS (Or.inl (List.mem_of_getElem? (i := 0) rfl)) all0)
  have V_a1 := V_a1_q149
  refine Goes.step (T' := T149) (g' := (mkF m 401 #[.val (.ref a1), .val (.int p2), .val (.int p3), .val (.int p4), .val (.int p5)] [])) st149 ?_
  rw [flp_step (i := 36) (c := (36 : Int32)) (by decide) rfl (by decide)] at V_a1
  exact nx _ _ _ (X149.mono (by decide) (by decide)) e149 N0 K0 O0 V_a1
set_option maxRecDepth 65536 in
set_option maxHeartbeats 40000000 in
theorem fill_37 (l : Launch) (Z : State) (a0 : Array Value) (hw : ∀ d ∈ tables_1, d.before a0 Z = true) (p : Program) (e : Env) (s : State) (m : MethodId) (below : List Frame) (meth : Method) (c : Code) (Post : Outcome → State → Prop) (hx : p.tables.exec = Jvm.exec) (hby : c.code = method_5_code) (hml : c.maxLocals = 5) (hown : s.vm.findClass "com/example/tariff/tariff/core/decimal/PlainDecimalIsBoundedPinLaw" = some m.cls) (hZ : Z.Warmed39 s.vm) (a1 : Addr) (p2 : Int32) (p3 : Int32) (p4 : Int32) (p5 : Int32) (kc : ClassId) (N : Int32) (h0 : Heap) (n0 : Nat) (g_a1 : n0 ≤ a1)  (T150 : State) (h150 : Heap) (locs150 : List Loc) (X150 : Stand p l e ({ frames := 2, cells := 0, slots := 0, locals := 35 } : Room) s m #[(.ref a1), (.int p2), (.int p3), (.int p4), (.int p5)] below meth c T150 locs150 0 0) (e150 : T150.heap = h150) (N0 : Fr n0 locs150) (K0 : Keep h0 h150 [a1]) (O0 : Old Z n0 h150) (V_a1 : Arv Z h150 a1 kc .char N (FLP p2 p3 p4 p5 37) (.int (0 : Int32))) (nx : ∀ (T151 : State) (h151 : Heap) (locs151 : List Loc) (X151 : Stand p l e ({ frames := 2, cells := 0, slots := 0, locals := 35 } : Room) s m #[(.ref a1), (.int p2), (.int p3), (.int p4), (.int p5)] below meth c T151 locs151 0 0) (e151 : T151.heap = h151) (N0 : Fr n0 locs151) (K0 : Keep h0 h151 [a1]) (O0 : Old Z n0 h151) (V_a1 : Arv Z h151 a1 kc .char N (FLP p2 p3 p4 p5 38) (.int (0 : Int32))), Goes p e below Post T151 (mkF m 412 #[.val (.ref a1), .val (.int p2), .val (.int p3), .val (.int p4), .val (.int p5)] [])) :
    Goes p e below Post T150 (mkF m 401 #[.val (.ref a1), .val (.int p2), .val (.int p3), .val (.int p4), .val (.int p5)] []) := by
  refine Goes.step (T' := T150) (g' := (mkF m 402 #[.val (.ref a1), .val (.int p2), .val (.int p3), .val (.int p4), .val (.int p5)] [(.ref a1)])) (fun _ kz => XS.aloadN X150.here hx rfl (hb hby d_method_5_401) rfl rfl kz) ?_
  refine Goes.step (T' := T150) (g' := (mkF m 404 #[.val (.ref a1), .val (.int p2), .val (.int p3), .val (.int p4), .val (.int p5)] [(.int (37 : Int32)), (.ref a1)])) (fun _ kz => XS.bipush X150.here hx rfl (hb hby d_method_5_402) kz) ?_
  refine Goes.step (T' := T150) (g' := (mkF m 405 #[.val (.ref a1), .val (.int p2), .val (.int p3), .val (.int p4), .val (.int p5)] [(.int p2), (.int (37 : Int32)), (.ref a1)])) (fun _ kz => XS.iloadN X150.here hx rfl (hb hby d_method_5_404) rfl  kz) ?_
  refine Goes.step (T' := T150) (g' := (mkF m 406 #[.val (.ref a1), .val (.int p2), .val (.int p3), .val (.int p4), .val (.int p5)] [(.int p3), (.int p2), (.int (37 : Int32)), (.ref a1)])) (fun _ kz => XS.iloadN X150.here hx rfl (hb hby d_method_5_405) rfl  kz) ?_
  refine Goes.step (T' := T150) (g' := (mkF m 407 #[.val (.ref a1), .val (.int p2), .val (.int p3), .val (.int p4), .val (.int p5)] [(.int p4), (.int p3), (.int p2), (.int (37 : Int32)), (.ref a1)])) (fun _ kz => XS.iloadN X150.here hx rfl (hb hby d_method_5_406) rfl  kz) ?_
  refine Goes.step (T' := T150) (g' := (mkF m 409 #[.val (.ref a1), .val (.int p2), .val (.int p3), .val (.int p4), .val (.int p5)] [(.int p5), (.int p4), (.int p3), (.int p2), (.int (37 : Int32)), (.ref a1)])) (fun _ kz => XS.iload X150.here hx rfl (hb hby d_method_5_407) rfl  kz) ?_
  obtain ⟨_, _, ⟨T152, L152, k152, n152⟩, -, X152, ⟨Lc152, hQ152, l152, y152, z152⟩, st152⟩ := Jvm.LawKit.callS X150 hx (y := (⟨"com/example/tariff/tariff/core/decimal/PlainDecimalIsBoundedPinLaw", "put", "([CIIICI)V"⟩ : MethodName)) hown (mvT hZ (hw _ (List.mem_of_getElem? (i := 6) rfl))) (mvT hZ (hw _ (List.mem_of_getElem? (i := 7) rfl))) (mvT hZ (hw _ (List.mem_of_getElem? (i := 4) rfl))) (mvT hZ (hw _ (List.mem_of_getElem? (i := 8) rfl))) (by decide) (backOf (W := 0) (rm_put l Z a0 hw [] a1 (37 : Int32) p2 p3 p4 p5 (kc) (N) ((FLP p2 p3 p4 p5 37)) ((.int (0 : Int32))) h150 n0 O0  V_a1 g_a1 (by decide) (by rw [flp_len]; decide)) hZ (hw _ (List.mem_of_getElem? (i := 8) rfl)) (hw _ (List.mem_of_getElem? (i := 4) rfl)) (by decide) (by decide)) (g := (mkF m 409 #[.val (.ref a1), .val (.int p2), .val (.int p3), .val (.int p4), .val (.int p5)] [(.int p5), (.int p4), (.int p3), (.int p2), (.int (37 : Int32)), (.ref a1)])) rfl (by rw [hml]; rfl) (argsL := [(.ref a1), (.int (37 : Int32)), (.int p2), (.int p3), (.int p4), (.int p5)]) (rest := []) (lenOf pd_9 rfl) rfl (by show 2 * 0 + _ ≤ _; exact Nat.le_of_eq rfl) (hb hby d_method_5_409) (fun _ _ => ⟨rfl, e150, (by decide : 0 + 0 ≤ _), (by decide : 0 + 0 ≤ _)⟩)
  dsimp only [Pt.U, Pt.locs, Pt.cells, Pt.slots] at X152 l152 y152 z152 st152 hQ152
  subst l152 y152 z152
  obtain ⟨h152, e152⟩ : ∃ z, T152.heap = z := ⟨_, rfl⟩
  rw [e152] at hQ152
  obtain ⟨rfl, Nq152, Kq152, V_a1_q152⟩ := hQ152
  replace N0 := Fr.app N0 Nq152
  clear V_a1
  replace O0 := O0.keep Kq152 (allS g_a1 all0)
  replace K0 := K0.trans Kq152 (allS (Or.inl (List.mem_of_getElem? (i := 0) rfl)) all0)
  have V_a1 := V_a1_q152
  refine Goes.step (T' := T152) (g' := (mkF m 412 #[.val (.ref a1), .val (.int p2), .val (.int p3), .val (.int p4), .val (.int p5)] [])) st152 ?_
  rw [flp_step (i := 37) (c := (37 : Int32)) (by decide) rfl (by decide)] at V_a1
  exact nx _ _ _ (X152.mono (by decide) (by decide)) e152 N0 K0 O0 V_a1
set_option maxRecDepth 65536 in
set_option maxHeartbeats 40000000 in
theorem fill_38 (l : Launch) (Z : State) (a0 : Array Value) (hw : ∀ d ∈ tables_1, d.before a0 Z = true) (p : Program) (e : Env) (s : State) (m : MethodId) (below : List Frame) (meth : Method) (c : Code) (Post : Outcome → State → Prop) (hx : p.tables.exec = Jvm.exec) (hby : c.code = method_5_code) (hml : c.maxLocals = 5) (hown : s.vm.findClass "com/example/tariff/tariff/core/decimal/PlainDecimalIsBoundedPinLaw" = some m.cls) (hZ : Z.Warmed39 s.vm) (a1 : Addr) (p2 : Int32) (p3 : Int32) (p4 : Int32) (p5 : Int32) (kc : ClassId) (N : Int32) (h0 : Heap) (n0 : Nat) (g_a1 : n0 ≤ a1)  (T153 : State) (h153 : Heap) (locs153 : List Loc) (X153 : Stand p l e ({ frames := 2, cells := 0, slots := 0, locals := 35 } : Room) s m #[(.ref a1), (.int p2), (.int p3), (.int p4), (.int p5)] below meth c T153 locs153 0 0) (e153 : T153.heap = h153) (N0 : Fr n0 locs153) (K0 : Keep h0 h153 [a1]) (O0 : Old Z n0 h153) (V_a1 : Arv Z h153 a1 kc .char N (FLP p2 p3 p4 p5 38) (.int (0 : Int32))) (nx : ∀ (T154 : State) (h154 : Heap) (locs154 : List Loc) (X154 : Stand p l e ({ frames := 2, cells := 0, slots := 0, locals := 35 } : Room) s m #[(.ref a1), (.int p2), (.int p3), (.int p4), (.int p5)] below meth c T154 locs154 0 0) (e154 : T154.heap = h154) (N0 : Fr n0 locs154) (K0 : Keep h0 h154 [a1]) (O0 : Old Z n0 h154) (V_a1 : Arv Z h154 a1 kc .char N (FLP p2 p3 p4 p5 39) (.int (0 : Int32))), Goes p e below Post T154 (mkF m 423 #[.val (.ref a1), .val (.int p2), .val (.int p3), .val (.int p4), .val (.int p5)] [])) :
    Goes p e below Post T153 (mkF m 412 #[.val (.ref a1), .val (.int p2), .val (.int p3), .val (.int p4), .val (.int p5)] []) := by
  refine Goes.step (T' := T153) (g' := (mkF m 413 #[.val (.ref a1), .val (.int p2), .val (.int p3), .val (.int p4), .val (.int p5)] [(.ref a1)])) (fun _ kz => XS.aloadN X153.here hx rfl (hb hby d_method_5_412) rfl rfl kz) ?_
  refine Goes.step (T' := T153) (g' := (mkF m 415 #[.val (.ref a1), .val (.int p2), .val (.int p3), .val (.int p4), .val (.int p5)] [(.int (38 : Int32)), (.ref a1)])) (fun _ kz => XS.bipush X153.here hx rfl (hb hby d_method_5_413) kz) ?_
  refine Goes.step (T' := T153) (g' := (mkF m 416 #[.val (.ref a1), .val (.int p2), .val (.int p3), .val (.int p4), .val (.int p5)] [(.int p2), (.int (38 : Int32)), (.ref a1)])) (fun _ kz => XS.iloadN X153.here hx rfl (hb hby d_method_5_415) rfl  kz) ?_
  refine Goes.step (T' := T153) (g' := (mkF m 417 #[.val (.ref a1), .val (.int p2), .val (.int p3), .val (.int p4), .val (.int p5)] [(.int p3), (.int p2), (.int (38 : Int32)), (.ref a1)])) (fun _ kz => XS.iloadN X153.here hx rfl (hb hby d_method_5_416) rfl  kz) ?_
  refine Goes.step (T' := T153) (g' := (mkF m 418 #[.val (.ref a1), .val (.int p2), .val (.int p3), .val (.int p4), .val (.int p5)] [(.int p4), (.int p3), (.int p2), (.int (38 : Int32)), (.ref a1)])) (fun _ kz => XS.iloadN X153.here hx rfl (hb hby d_method_5_417) rfl  kz) ?_
  refine Goes.step (T' := T153) (g' := (mkF m 420 #[.val (.ref a1), .val (.int p2), .val (.int p3), .val (.int p4), .val (.int p5)] [(.int p5), (.int p4), (.int p3), (.int p2), (.int (38 : Int32)), (.ref a1)])) (fun _ kz => XS.iload X153.here hx rfl (hb hby d_method_5_418) rfl  kz) ?_
  obtain ⟨_, _, ⟨T155, L155, k155, n155⟩, -, X155, ⟨Lc155, hQ155, l155, y155, z155⟩, st155⟩ := Jvm.LawKit.callS X153 hx (y := (⟨"com/example/tariff/tariff/core/decimal/PlainDecimalIsBoundedPinLaw", "put", "([CIIICI)V"⟩ : MethodName)) hown (mvT hZ (hw _ (List.mem_of_getElem? (i := 6) rfl))) (mvT hZ (hw _ (List.mem_of_getElem? (i := 7) rfl))) (mvT hZ (hw _ (List.mem_of_getElem? (i := 4) rfl))) (mvT hZ (hw _ (List.mem_of_getElem? (i := 8) rfl))) (by decide) (backOf (W := 0) (rm_put l Z a0 hw [] a1 (38 : Int32) p2 p3 p4 p5 (kc) (N) ((FLP p2 p3 p4 p5 38)) ((.int (0 : Int32))) h153 n0 O0  V_a1 g_a1 (by decide) (by rw [flp_len]; decide)) hZ (hw _ (List.mem_of_getElem? (i := 8) rfl)) (hw _ (List.mem_of_getElem? (i := 4) rfl)) (by decide) (by decide)) (g := (mkF m 420 #[.val (.ref a1), .val (.int p2), .val (.int p3), .val (.int p4), .val (.int p5)] [(.int p5), (.int p4), (.int p3), (.int p2), (.int (38 : Int32)), (.ref a1)])) rfl (by rw [hml]; rfl) (argsL := [(.ref a1), (.int (38 : Int32)), (.int p2), (.int p3), (.int p4), (.int p5)]) (rest := []) (lenOf pd_9 rfl) rfl (by show 2 * 0 + _ ≤ _; exact Nat.le_of_eq rfl) (hb hby d_method_5_420) (fun _ _ => ⟨rfl, e153, (by decide : 0 + 0 ≤ _), (by decide : 0 + 0 ≤ _)⟩)
  dsimp only [Pt.U, Pt.locs, Pt.cells, Pt.slots] at X155 l155 y155 z155 st155 hQ155
  subst l155 y155 z155
  obtain ⟨h155, e155⟩ : ∃ z, T155.heap = z := ⟨_, rfl⟩
  rw [e155] at hQ155
  obtain ⟨rfl, Nq155, Kq155, V_a1_q155⟩ := hQ155
  replace N0 := Fr.app N0 Nq155
  clear V_a1
  replace O0 := O0.keep Kq155 (allS g_a1 all0)
  replace K0 := K0.trans Kq155 (allS (Or.inl (List.mem_of_getElem? (i := 0) rfl)) all0)
  have V_a1 := V_a1_q155
  refine Goes.step (T' := T155) (g' := (mkF m 423 #[.val (.ref a1), .val (.int p2), .val (.int p3), .val (.int p4), .val (.int p5)] [])) st155 ?_
  rw [flp_step (i := 38) (c := (38 : Int32)) (by decide) rfl (by decide)] at V_a1
  exact nx _ _ _ (X155.mono (by decide) (by decide)) e155 N0 K0 O0 V_a1
set_option maxRecDepth 65536 in
set_option maxHeartbeats 40000000 in
theorem fill_39 (l : Launch) (Z : State) (a0 : Array Value) (hw : ∀ d ∈ tables_1, d.before a0 Z = true) (p : Program) (e : Env) (s : State) (m : MethodId) (below : List Frame) (meth : Method) (c : Code) (Post : Outcome → State → Prop) (hx : p.tables.exec = Jvm.exec) (hby : c.code = method_5_code) (hml : c.maxLocals = 5) (hown : s.vm.findClass "com/example/tariff/tariff/core/decimal/PlainDecimalIsBoundedPinLaw" = some m.cls) (hZ : Z.Warmed39 s.vm) (a1 : Addr) (p2 : Int32) (p3 : Int32) (p4 : Int32) (p5 : Int32) (kc : ClassId) (N : Int32) (h0 : Heap) (n0 : Nat) (g_a1 : n0 ≤ a1)  (T156 : State) (h156 : Heap) (locs156 : List Loc) (X156 : Stand p l e ({ frames := 2, cells := 0, slots := 0, locals := 35 } : Room) s m #[(.ref a1), (.int p2), (.int p3), (.int p4), (.int p5)] below meth c T156 locs156 0 0) (e156 : T156.heap = h156) (N0 : Fr n0 locs156) (K0 : Keep h0 h156 [a1]) (O0 : Old Z n0 h156) (V_a1 : Arv Z h156 a1 kc .char N (FLP p2 p3 p4 p5 39) (.int (0 : Int32))) (nx : ∀ (T157 : State) (h157 : Heap) (locs157 : List Loc) (X157 : Stand p l e ({ frames := 2, cells := 0, slots := 0, locals := 35 } : Room) s m #[(.ref a1), (.int p2), (.int p3), (.int p4), (.int p5)] below meth c T157 locs157 0 0) (e157 : T157.heap = h157) (N0 : Fr n0 locs157) (K0 : Keep h0 h157 [a1]) (O0 : Old Z n0 h157) (V_a1 : Arv Z h157 a1 kc .char N (FLP p2 p3 p4 p5 40) (.int (0 : Int32))), Goes p e below Post T157 (mkF m 434 #[.val (.ref a1), .val (.int p2), .val (.int p3), .val (.int p4), .val (.int p5)] [])) :
    Goes p e below Post T156 (mkF m 423 #[.val (.ref a1), .val (.int p2), .val (.int p3), .val (.int p4), .val (.int p5)] []) := by
  refine Goes.step (T' := T156) (g' := (mkF m 424 #[.val (.ref a1), .val (.int p2), .val (.int p3), .val (.int p4), .val (.int p5)] [(.ref a1)])) (fun _ kz => XS.aloadN X156.here hx rfl (hb hby d_method_5_423) rfl rfl kz) ?_
  refine Goes.step (T' := T156) (g' := (mkF m 426 #[.val (.ref a1), .val (.int p2), .val (.int p3), .val (.int p4), .val (.int p5)] [(.int (39 : Int32)), (.ref a1)])) (fun _ kz => XS.bipush X156.here hx rfl (hb hby d_method_5_424) kz) ?_
  refine Goes.step (T' := T156) (g' := (mkF m 427 #[.val (.ref a1), .val (.int p2), .val (.int p3), .val (.int p4), .val (.int p5)] [(.int p2), (.int (39 : Int32)), (.ref a1)])) (fun _ kz => XS.iloadN X156.here hx rfl (hb hby d_method_5_426) rfl  kz) ?_
  refine Goes.step (T' := T156) (g' := (mkF m 428 #[.val (.ref a1), .val (.int p2), .val (.int p3), .val (.int p4), .val (.int p5)] [(.int p3), (.int p2), (.int (39 : Int32)), (.ref a1)])) (fun _ kz => XS.iloadN X156.here hx rfl (hb hby d_method_5_427) rfl  kz) ?_
  refine Goes.step (T' := T156) (g' := (mkF m 429 #[.val (.ref a1), .val (.int p2), .val (.int p3), .val (.int p4), .val (.int p5)] [(.int p4), (.int p3), (.int p2), (.int (39 : Int32)), (.ref a1)])) (fun _ kz => XS.iloadN X156.here hx rfl (hb hby d_method_5_428) rfl  kz) ?_
  refine Goes.step (T' := T156) (g' := (mkF m 431 #[.val (.ref a1), .val (.int p2), .val (.int p3), .val (.int p4), .val (.int p5)] [(.int p5), (.int p4), (.int p3), (.int p2), (.int (39 : Int32)), (.ref a1)])) (fun _ kz => XS.iload X156.here hx rfl (hb hby d_method_5_429) rfl  kz) ?_
  obtain ⟨_, _, ⟨T158, L158, k158, n158⟩, -, X158, ⟨Lc158, hQ158, l158, y158, z158⟩, st158⟩ := Jvm.LawKit.callS X156 hx (y := (⟨"com/example/tariff/tariff/core/decimal/PlainDecimalIsBoundedPinLaw", "put", "([CIIICI)V"⟩ : MethodName)) hown (mvT hZ (hw _ (List.mem_of_getElem? (i := 6) rfl))) (mvT hZ (hw _ (List.mem_of_getElem? (i := 7) rfl))) (mvT hZ (hw _ (List.mem_of_getElem? (i := 4) rfl))) (mvT hZ (hw _ (List.mem_of_getElem? (i := 8) rfl))) (by decide) (backOf (W := 0) (rm_put l Z a0 hw [] a1 (39 : Int32) p2 p3 p4 p5 (kc) (N) ((FLP p2 p3 p4 p5 39)) ((.int (0 : Int32))) h156 n0 O0  V_a1 g_a1 (by decide) (by rw [flp_len]; decide)) hZ (hw _ (List.mem_of_getElem? (i := 8) rfl)) (hw _ (List.mem_of_getElem? (i := 4) rfl)) (by decide) (by decide)) (g := (mkF m 431 #[.val (.ref a1), .val (.int p2), .val (.int p3), .val (.int p4), .val (.int p5)] [(.int p5), (.int p4), (.int p3), (.int p2), (.int (39 : Int32)), (.ref a1)])) rfl (by rw [hml]; rfl) (argsL := [(.ref a1), (.int (39 : Int32)), (.int p2), (.int p3), (.int p4), (.int p5)]) (rest := []) (lenOf pd_9 rfl) rfl (by show 2 * 0 + _ ≤ _; exact Nat.le_of_eq rfl) (hb hby d_method_5_431) (fun _ _ => ⟨rfl, e156, (by decide : 0 + 0 ≤ _), (by decide : 0 + 0 ≤ _)⟩)
  dsimp only [Pt.U, Pt.locs, Pt.cells, Pt.slots] at X158 l158 y158 z158 st158 hQ158
  subst l158 y158 z158
  obtain ⟨h158, e158⟩ : ∃ z, T158.heap = z := ⟨_, rfl⟩
  rw [e158] at hQ158
  obtain ⟨rfl, Nq158, Kq158, V_a1_q158⟩ := hQ158
  replace N0 := Fr.app N0 Nq158
  clear V_a1
  replace O0 := O0.keep Kq158 (allS g_a1 all0)
  replace K0 := K0.trans Kq158 (allS (Or.inl (List.mem_of_getElem? (i := 0) rfl)) all0)
  have V_a1 := V_a1_q158
  refine Goes.step (T' := T158) (g' := (mkF m 434 #[.val (.ref a1), .val (.int p2), .val (.int p3), .val (.int p4), .val (.int p5)] [])) st158 ?_
  rw [flp_step (i := 39) (c := (39 : Int32)) (by decide) rfl (by decide)] at V_a1
  exact nx _ _ _ (X158.mono (by decide) (by decide)) e158 N0 K0 O0 V_a1
set_option maxRecDepth 65536 in
set_option maxHeartbeats 40000000 in
theorem fill_40 (l : Launch) (Z : State) (a0 : Array Value) (hw : ∀ d ∈ tables_1, d.before a0 Z = true) (p : Program) (e : Env) (s : State) (m : MethodId) (below : List Frame) (meth : Method) (c : Code) (Post : Outcome → State → Prop) (hx : p.tables.exec = Jvm.exec) (hby : c.code = method_5_code) (hml : c.maxLocals = 5) (hown : s.vm.findClass "com/example/tariff/tariff/core/decimal/PlainDecimalIsBoundedPinLaw" = some m.cls) (hZ : Z.Warmed39 s.vm) (a1 : Addr) (p2 : Int32) (p3 : Int32) (p4 : Int32) (p5 : Int32) (kc : ClassId) (N : Int32) (h0 : Heap) (n0 : Nat) (g_a1 : n0 ≤ a1)  (T159 : State) (h159 : Heap) (locs159 : List Loc) (X159 : Stand p l e ({ frames := 2, cells := 0, slots := 0, locals := 35 } : Room) s m #[(.ref a1), (.int p2), (.int p3), (.int p4), (.int p5)] below meth c T159 locs159 0 0) (e159 : T159.heap = h159) (N0 : Fr n0 locs159) (K0 : Keep h0 h159 [a1]) (O0 : Old Z n0 h159) (V_a1 : Arv Z h159 a1 kc .char N (FLP p2 p3 p4 p5 40) (.int (0 : Int32))) (nx : ∀ (T160 : State) (h160 : Heap) (locs160 : List Loc) (X160 : Stand p l e ({ frames := 2, cells := 0, slots := 0, locals := 35 } : Room) s m #[(.ref a1), (.int p2), (.int p3), (.int p4), (.int p5)] below meth c T160 locs160 0 0) (e160 : T160.heap = h160) (N0 : Fr n0 locs160) (K0 : Keep h0 h160 [a1]) (O0 : Old Z n0 h160) (V_a1 : Arv Z h160 a1 kc .char N (FLP p2 p3 p4 p5 41) (.int (0 : Int32))), Goes p e below Post T160 (mkF m 445 #[.val (.ref a1), .val (.int p2), .val (.int p3), .val (.int p4), .val (.int p5)] [])) :
    Goes p e below Post T159 (mkF m 434 #[.val (.ref a1), .val (.int p2), .val (.int p3), .val (.int p4), .val (.int p5)] []) := by
  refine Goes.step (T' := T159) (g' := (mkF m 435 #[.val (.ref a1), .val (.int p2), .val (.int p3), .val (.int p4), .val (.int p5)] [(.ref a1)])) (fun _ kz => XS.aloadN X159.here hx rfl (hb hby d_method_5_434) rfl rfl kz) ?_
  refine Goes.step (T' := T159) (g' := (mkF m 437 #[.val (.ref a1), .val (.int p2), .val (.int p3), .val (.int p4), .val (.int p5)] [(.int (40 : Int32)), (.ref a1)])) (fun _ kz => XS.bipush X159.here hx rfl (hb hby d_method_5_435) kz) ?_
  refine Goes.step (T' := T159) (g' := (mkF m 438 #[.val (.ref a1), .val (.int p2), .val (.int p3), .val (.int p4), .val (.int p5)] [(.int p2), (.int (40 : Int32)), (.ref a1)])) (fun _ kz => XS.iloadN X159.here hx rfl (hb hby d_method_5_437) rfl  kz) ?_
  refine Goes.step (T' := T159) (g' := (mkF m 439 #[.val (.ref a1), .val (.int p2), .val (.int p3), .val (.int p4), .val (.int p5)] [(.int p3), (.int p2), (.int (40 : Int32)), (.ref a1)])) (fun _ kz => XS.iloadN X159.here hx rfl (hb hby d_method_5_438) rfl  kz) ?_
  refine Goes.step (T' := T159) (g' := (mkF m 440 #[.val (.ref a1), .val (.int p2), .val (.int p3), .val (.int p4), .val (.int p5)] [(.int p4), (.int p3), (.int p2), (.int (40 : Int32)), (.ref a1)])) (fun _ kz => XS.iloadN X159.here hx rfl (hb hby d_method_5_439) rfl  kz) ?_
  refine Goes.step (T' := T159) (g' := (mkF m 442 #[.val (.ref a1), .val (.int p2), .val (.int p3), .val (.int p4), .val (.int p5)] [(.int p5), (.int p4), (.int p3), (.int p2), (.int (40 : Int32)), (.ref a1)])) (fun _ kz => XS.iload X159.here hx rfl (hb hby d_method_5_440) rfl  kz) ?_
  obtain ⟨_, _, ⟨T161, L161, k161, n161⟩, -, X161, ⟨Lc161, hQ161, l161, y161, z161⟩, st161⟩ := Jvm.LawKit.callS X159 hx (y := (⟨"com/example/tariff/tariff/core/decimal/PlainDecimalIsBoundedPinLaw", "put", "([CIIICI)V"⟩ : MethodName)) hown (mvT hZ (hw _ (List.mem_of_getElem? (i := 6) rfl))) (mvT hZ (hw _ (List.mem_of_getElem? (i := 7) rfl))) (mvT hZ (hw _ (List.mem_of_getElem? (i := 4) rfl))) (mvT hZ (hw _ (List.mem_of_getElem? (i := 8) rfl))) (by decide) (backOf (W := 0) (rm_put l Z a0 hw [] a1 (40 : Int32) p2 p3 p4 p5 (kc) (N) ((FLP p2 p3 p4 p5 40)) ((.int (0 : Int32))) h159 n0 O0  V_a1 g_a1 (by decide) (by rw [flp_len]; decide)) hZ (hw _ (List.mem_of_getElem? (i := 8) rfl)) (hw _ (List.mem_of_getElem? (i := 4) rfl)) (by decide) (by decide)) (g := (mkF m 442 #[.val (.ref a1), .val (.int p2), .val (.int p3), .val (.int p4), .val (.int p5)] [(.int p5), (.int p4), (.int p3), (.int p2), (.int (40 : Int32)), (.ref a1)])) rfl (by rw [hml]; rfl) (argsL := [(.ref a1), (.int (40 : Int32)), (.int p2), (.int p3), (.int p4), (.int p5)]) (rest := []) (lenOf pd_9 rfl) rfl (by show 2 * 0 + _ ≤ _; exact Nat.le_of_eq rfl) (hb hby d_method_5_442) (fun _ _ => ⟨rfl, e159, (by decide : 0 + 0 ≤ _), (by decide : 0 + 0 ≤ _)⟩)
  dsimp only [Pt.U, Pt.locs, Pt.cells, Pt.slots] at X161 l161 y161 z161 st161 hQ161
  subst l161 y161 z161
  obtain ⟨h161, e161⟩ : ∃ z, T161.heap = z := ⟨_, rfl⟩
  rw [e161] at hQ161
  obtain ⟨rfl, Nq161, Kq161, V_a1_q161⟩ := hQ161
  replace N0 := Fr.app N0 Nq161
  clear V_a1
  replace O0 := O0.keep Kq161 (allS g_a1 all0)
  replace K0 := K0.trans Kq161 (allS (Or.inl (List.mem_of_getElem? (i := 0) rfl)) all0)
  have V_a1 := V_a1_q161
  refine Goes.step (T' := T161) (g' := (mkF m 445 #[.val (.ref a1), .val (.int p2), .val (.int p3), .val (.int p4), .val (.int p5)] [])) st161 ?_
  rw [flp_step (i := 40) (c := (40 : Int32)) (by decide) rfl (by decide)] at V_a1
  exact nx _ _ _ (X161.mono (by decide) (by decide)) e161 N0 K0 O0 V_a1
set_option maxRecDepth 65536 in
set_option maxHeartbeats 40000000 in
theorem fill_41 (l : Launch) (Z : State) (a0 : Array Value) (hw : ∀ d ∈ tables_1, d.before a0 Z = true) (p : Program) (e : Env) (s : State) (m : MethodId) (below : List Frame) (meth : Method) (c : Code) (Post : Outcome → State → Prop) (hx : p.tables.exec = Jvm.exec) (hby : c.code = method_5_code) (hml : c.maxLocals = 5) (hown : s.vm.findClass "com/example/tariff/tariff/core/decimal/PlainDecimalIsBoundedPinLaw" = some m.cls) (hZ : Z.Warmed39 s.vm) (a1 : Addr) (p2 : Int32) (p3 : Int32) (p4 : Int32) (p5 : Int32) (kc : ClassId) (N : Int32) (h0 : Heap) (n0 : Nat) (g_a1 : n0 ≤ a1)  (T162 : State) (h162 : Heap) (locs162 : List Loc) (X162 : Stand p l e ({ frames := 2, cells := 0, slots := 0, locals := 35 } : Room) s m #[(.ref a1), (.int p2), (.int p3), (.int p4), (.int p5)] below meth c T162 locs162 0 0) (e162 : T162.heap = h162) (N0 : Fr n0 locs162) (K0 : Keep h0 h162 [a1]) (O0 : Old Z n0 h162) (V_a1 : Arv Z h162 a1 kc .char N (FLP p2 p3 p4 p5 41) (.int (0 : Int32))) (nx : ∀ (T163 : State) (h163 : Heap) (locs163 : List Loc) (X163 : Stand p l e ({ frames := 2, cells := 0, slots := 0, locals := 35 } : Room) s m #[(.ref a1), (.int p2), (.int p3), (.int p4), (.int p5)] below meth c T163 locs163 0 0) (e163 : T163.heap = h163) (N0 : Fr n0 locs163) (K0 : Keep h0 h163 [a1]) (O0 : Old Z n0 h163) (V_a1 : Arv Z h163 a1 kc .char N (FLP p2 p3 p4 p5 42) (.int (0 : Int32))), Goes p e below Post T163 (mkF m 456 #[.val (.ref a1), .val (.int p2), .val (.int p3), .val (.int p4), .val (.int p5)] [])) :
    Goes p e below Post T162 (mkF m 445 #[.val (.ref a1), .val (.int p2), .val (.int p3), .val (.int p4), .val (.int p5)] []) := by
  refine Goes.step (T' := T162) (g' := (mkF m 446 #[.val (.ref a1), .val (.int p2), .val (.int p3), .val (.int p4), .val (.int p5)] [(.ref a1)])) (fun _ kz => XS.aloadN X162.here hx rfl (hb hby d_method_5_445) rfl rfl kz) ?_
  refine Goes.step (T' := T162) (g' := (mkF m 448 #[.val (.ref a1), .val (.int p2), .val (.int p3), .val (.int p4), .val (.int p5)] [(.int (41 : Int32)), (.ref a1)])) (fun _ kz => XS.bipush X162.here hx rfl (hb hby d_method_5_446) kz) ?_
  refine Goes.step (T' := T162) (g' := (mkF m 449 #[.val (.ref a1), .val (.int p2), .val (.int p3), .val (.int p4), .val (.int p5)] [(.int p2), (.int (41 : Int32)), (.ref a1)])) (fun _ kz => XS.iloadN X162.here hx rfl (hb hby d_method_5_448) rfl  kz) ?_
  refine Goes.step (T' := T162) (g' := (mkF m 450 #[.val (.ref a1), .val (.int p2), .val (.int p3), .val (.int p4), .val (.int p5)] [(.int p3), (.int p2), (.int (41 : Int32)), (.ref a1)])) (fun _ kz => XS.iloadN X162.here hx rfl (hb hby d_method_5_449) rfl  kz) ?_
  refine Goes.step (T' := T162) (g' := (mkF m 451 #[.val (.ref a1), .val (.int p2), .val (.int p3), .val (.int p4), .val (.int p5)] [(.int p4), (.int p3), (.int p2), (.int (41 : Int32)), (.ref a1)])) (fun _ kz => XS.iloadN X162.here hx rfl (hb hby d_method_5_450) rfl  kz) ?_
  refine Goes.step (T' := T162) (g' := (mkF m 453 #[.val (.ref a1), .val (.int p2), .val (.int p3), .val (.int p4), .val (.int p5)] [(.int p5), (.int p4), (.int p3), (.int p2), (.int (41 : Int32)), (.ref a1)])) (fun _ kz => XS.iload X162.here hx rfl (hb hby d_method_5_451) rfl  kz) ?_
  obtain ⟨_, _, ⟨T164, L164, k164, n164⟩, -, X164, ⟨Lc164, hQ164, l164, y164, z164⟩, st164⟩ := Jvm.LawKit.callS X162 hx (y := (⟨"com/example/tariff/tariff/core/decimal/PlainDecimalIsBoundedPinLaw", "put", "([CIIICI)V"⟩ : MethodName)) hown (mvT hZ (hw _ (List.mem_of_getElem? (i := 6) rfl))) (mvT hZ (hw _ (List.mem_of_getElem? (i := 7) rfl))) (mvT hZ (hw _ (List.mem_of_getElem? (i := 4) rfl))) (mvT hZ (hw _ (List.mem_of_getElem? (i := 8) rfl))) (by decide) (backOf (W := 0) (rm_put l Z a0 hw [] a1 (41 : Int32) p2 p3 p4 p5 (kc) (N) ((FLP p2 p3 p4 p5 41)) ((.int (0 : Int32))) h162 n0 O0  V_a1 g_a1 (by decide) (by rw [flp_len]; decide)) hZ (hw _ (List.mem_of_getElem? (i := 8) rfl)) (hw _ (List.mem_of_getElem? (i := 4) rfl)) (by decide) (by decide)) (g := (mkF m 453 #[.val (.ref a1), .val (.int p2), .val (.int p3), .val (.int p4), .val (.int p5)] [(.int p5), (.int p4), (.int p3), (.int p2), (.int (41 : Int32)), (.ref a1)])) rfl (by rw [hml]; rfl) (argsL := [(.ref a1), (.int (41 : Int32)), (.int p2), (.int p3), (.int p4), (.int p5)]) (rest := []) (lenOf pd_9 rfl) rfl (by show 2 * 0 + _ ≤ _; exact Nat.le_of_eq rfl) (hb hby d_method_5_453) (fun _ _ => ⟨rfl, e162, (by decide : 0 + 0 ≤ _), (by decide : 0 + 0 ≤ _)⟩)
  dsimp only [Pt.U, Pt.locs, Pt.cells, Pt.slots] at X164 l164 y164 z164 st164 hQ164
  subst l164 y164 z164
  obtain ⟨h164, e164⟩ : ∃ z, T164.heap = z := ⟨_, rfl⟩
  rw [e164] at hQ164
  obtain ⟨rfl, Nq164, Kq164, V_a1_q164⟩ := hQ164
  replace N0 := Fr.app N0 Nq164
  clear V_a1
  replace O0 := O0.keep Kq164 (allS g_a1 all0)
  replace K0 := K0.trans Kq164 (allS (Or.inl (List.mem_of_getElem? (i := 0) rfl)) all0)
  have V_a1 := V_a1_q164
  refine Goes.step (T' := T164) (g' := (mkF m 456 #[.val (.ref a1), .val (.int p2), .val (.int p3), .val (.int p4), .val (.int p5)] [])) st164 ?_
  rw [flp_step (i := 41) (c := (41 : Int32)) (by decide) rfl (by decide)] at V_a1
  exact nx _ _ _ (X164.mono (by decide) (by decide)) e164 N0 K0 O0 V_a1
set_option maxRecDepth 65536 in
set_option maxHeartbeats 40000000 in
theorem fill_42 (l : Launch) (Z : State) (a0 : Array Value) (hw : ∀ d ∈ tables_1, d.before a0 Z = true) (p : Program) (e : Env) (s : State) (m : MethodId) (below : List Frame) (meth : Method) (c : Code) (Post : Outcome → State → Prop) (hx : p.tables.exec = Jvm.exec) (hby : c.code = method_5_code) (hml : c.maxLocals = 5) (hown : s.vm.findClass "com/example/tariff/tariff/core/decimal/PlainDecimalIsBoundedPinLaw" = some m.cls) (hZ : Z.Warmed39 s.vm) (a1 : Addr) (p2 : Int32) (p3 : Int32) (p4 : Int32) (p5 : Int32) (kc : ClassId) (N : Int32) (h0 : Heap) (n0 : Nat) (g_a1 : n0 ≤ a1)  (T165 : State) (h165 : Heap) (locs165 : List Loc) (X165 : Stand p l e ({ frames := 2, cells := 0, slots := 0, locals := 35 } : Room) s m #[(.ref a1), (.int p2), (.int p3), (.int p4), (.int p5)] below meth c T165 locs165 0 0) (e165 : T165.heap = h165) (N0 : Fr n0 locs165) (K0 : Keep h0 h165 [a1]) (O0 : Old Z n0 h165) (V_a1 : Arv Z h165 a1 kc .char N (FLP p2 p3 p4 p5 42) (.int (0 : Int32))) (nx : ∀ (T166 : State) (h166 : Heap) (locs166 : List Loc) (X166 : Stand p l e ({ frames := 2, cells := 0, slots := 0, locals := 35 } : Room) s m #[(.ref a1), (.int p2), (.int p3), (.int p4), (.int p5)] below meth c T166 locs166 0 0) (e166 : T166.heap = h166) (N0 : Fr n0 locs166) (K0 : Keep h0 h166 [a1]) (O0 : Old Z n0 h166) (V_a1 : Arv Z h166 a1 kc .char N (FLP p2 p3 p4 p5 43) (.int (0 : Int32))), Goes p e below Post T166 (mkF m 467 #[.val (.ref a1), .val (.int p2), .val (.int p3), .val (.int p4), .val (.int p5)] [])) :
    Goes p e below Post T165 (mkF m 456 #[.val (.ref a1), .val (.int p2), .val (.int p3), .val (.int p4), .val (.int p5)] []) := by
  refine Goes.step (T' := T165) (g' := (mkF m 457 #[.val (.ref a1), .val (.int p2), .val (.int p3), .val (.int p4), .val (.int p5)] [(.ref a1)])) (fun _ kz => XS.aloadN X165.here hx rfl (hb hby d_method_5_456) rfl rfl kz) ?_
  refine Goes.step (T' := T165) (g' := (mkF m 459 #[.val (.ref a1), .val (.int p2), .val (.int p3), .val (.int p4), .val (.int p5)] [(.int (42 : Int32)), (.ref a1)])) (fun _ kz => XS.bipush X165.here hx rfl (hb hby d_method_5_457) kz) ?_
  refine Goes.step (T' := T165) (g' := (mkF m 460 #[.val (.ref a1), .val (.int p2), .val (.int p3), .val (.int p4), .val (.int p5)] [(.int p2), (.int (42 : Int32)), (.ref a1)])) (fun _ kz => XS.iloadN X165.here hx rfl (hb hby d_method_5_459) rfl  kz) ?_
  refine Goes.step (T' := T165) (g' := (mkF m 461 #[.val (.ref a1), .val (.int p2), .val (.int p3), .val (.int p4), .val (.int p5)] [(.int p3), (.int p2), (.int (42 : Int32)), (.ref a1)])) (fun _ kz => XS.iloadN X165.here hx rfl (hb hby d_method_5_460) rfl  kz) ?_
  refine Goes.step (T' := T165) (g' := (mkF m 462 #[.val (.ref a1), .val (.int p2), .val (.int p3), .val (.int p4), .val (.int p5)] [(.int p4), (.int p3), (.int p2), (.int (42 : Int32)), (.ref a1)])) (fun _ kz => XS.iloadN X165.here hx rfl (hb hby d_method_5_461) rfl  kz) ?_
  refine Goes.step (T' := T165) (g' := (mkF m 464 #[.val (.ref a1), .val (.int p2), .val (.int p3), .val (.int p4), .val (.int p5)] [(.int p5), (.int p4), (.int p3), (.int p2), (.int (42 : Int32)), (.ref a1)])) (fun _ kz => XS.iload X165.here hx rfl (hb hby d_method_5_462) rfl  kz) ?_
  obtain ⟨_, _, ⟨T167, L167, k167, n167⟩, -, X167, ⟨Lc167, hQ167, l167, y167, z167⟩, st167⟩ := Jvm.LawKit.callS X165 hx (y := (⟨"com/example/tariff/tariff/core/decimal/PlainDecimalIsBoundedPinLaw", "put", "([CIIICI)V"⟩ : MethodName)) hown (mvT hZ (hw _ (List.mem_of_getElem? (i := 6) rfl))) (mvT hZ (hw _ (List.mem_of_getElem? (i := 7) rfl))) (mvT hZ (hw _ (List.mem_of_getElem? (i := 4) rfl))) (mvT hZ (hw _ (List.mem_of_getElem? (i := 8) rfl))) (by decide) (backOf (W := 0) (rm_put l Z a0 hw [] a1 (42 : Int32) p2 p3 p4 p5 (kc) (N) ((FLP p2 p3 p4 p5 42)) ((.int (0 : Int32))) h165 n0 O0  V_a1 g_a1 (by decide) (by rw [flp_len]; decide)) hZ (hw _ (List.mem_of_getElem? (i := 8) rfl)) (hw _ (List.mem_of_getElem? (i := 4) rfl)) (by decide) (by decide)) (g := (mkF m 464 #[.val (.ref a1), .val (.int p2), .val (.int p3), .val (.int p4), .val (.int p5)] [(.int p5), (.int p4), (.int p3), (.int p2), (.int (42 : Int32)), (.ref a1)])) rfl (by rw [hml]; rfl) (argsL := [(.ref a1), (.int (42 : Int32)), (.int p2), (.int p3), (.int p4), (.int p5)]) (rest := []) (lenOf pd_9 rfl) rfl (by show 2 * 0 + _ ≤ _; exact Nat.le_of_eq rfl) (hb hby d_method_5_464) (fun _ _ => ⟨rfl, e165, (by decide : 0 + 0 ≤ _), (by decide : 0 + 0 ≤ _)⟩)
  dsimp only [Pt.U, Pt.locs, Pt.cells, Pt.slots] at X167 l167 y167 z167 st167 hQ167
  subst l167 y167 z167
  obtain ⟨h167, e167⟩ : ∃ z, T167.heap = z := ⟨_, rfl⟩
  rw [e167] at hQ167
  obtain ⟨rfl, Nq167, Kq167, V_a1_q167⟩ := hQ167
  replace N0 := Fr.app N0 Nq167
  clear V_a1
  replace O0 := O0.keep Kq167 (allS g_a1 all0)
  replace K0 := K0.trans Kq167 (allS (Or.inl (List.mem_of_getElem? (i := 0) rfl)) all0)
  have V_a1 := V_a1_q167
  refine Goes.step (T' := T167) (g' := (mkF m 467 #[.val (.ref a1), .val (.int p2), .val (.int p3), .val (.int p4), .val (.int p5)] [])) st167 ?_
  rw [flp_step (i := 42) (c := (42 : Int32)) (by decide) rfl (by decide)] at V_a1
  exact nx _ _ _ (X167.mono (by decide) (by decide)) e167 N0 K0 O0 V_a1
set_option maxRecDepth 65536 in
set_option maxHeartbeats 40000000 in
theorem fill_43 (l : Launch) (Z : State) (a0 : Array Value) (hw : ∀ d ∈ tables_1, d.before a0 Z = true) (p : Program) (e : Env) (s : State) (m : MethodId) (below : List Frame) (meth : Method) (c : Code) (Post : Outcome → State → Prop) (hx : p.tables.exec = Jvm.exec) (hby : c.code = method_5_code) (hml : c.maxLocals = 5) (hown : s.vm.findClass "com/example/tariff/tariff/core/decimal/PlainDecimalIsBoundedPinLaw" = some m.cls) (hZ : Z.Warmed39 s.vm) (a1 : Addr) (p2 : Int32) (p3 : Int32) (p4 : Int32) (p5 : Int32) (kc : ClassId) (N : Int32) (h0 : Heap) (n0 : Nat) (g_a1 : n0 ≤ a1)  (T168 : State) (h168 : Heap) (locs168 : List Loc) (X168 : Stand p l e ({ frames := 2, cells := 0, slots := 0, locals := 35 } : Room) s m #[(.ref a1), (.int p2), (.int p3), (.int p4), (.int p5)] below meth c T168 locs168 0 0) (e168 : T168.heap = h168) (N0 : Fr n0 locs168) (K0 : Keep h0 h168 [a1]) (O0 : Old Z n0 h168) (V_a1 : Arv Z h168 a1 kc .char N (FLP p2 p3 p4 p5 43) (.int (0 : Int32))) (nx : ∀ (T169 : State) (h169 : Heap) (locs169 : List Loc) (X169 : Stand p l e ({ frames := 2, cells := 0, slots := 0, locals := 35 } : Room) s m #[(.ref a1), (.int p2), (.int p3), (.int p4), (.int p5)] below meth c T169 locs169 0 0) (e169 : T169.heap = h169) (N0 : Fr n0 locs169) (K0 : Keep h0 h169 [a1]) (O0 : Old Z n0 h169) (V_a1 : Arv Z h169 a1 kc .char N (FLP p2 p3 p4 p5 44) (.int (0 : Int32))), Goes p e below Post T169 (mkF m 478 #[.val (.ref a1), .val (.int p2), .val (.int p3), .val (.int p4), .val (.int p5)] [])) :
    Goes p e below Post T168 (mkF m 467 #[.val (.ref a1), .val (.int p2), .val (.int p3), .val (.int p4), .val (.int p5)] []) := by
  refine Goes.step (T' := T168) (g' := (mkF m 468 #[.val (.ref a1), .val (.int p2), .val (.int p3), .val (.int p4), .val (.int p5)] [(.ref a1)])) (fun _ kz => XS.aloadN X168.here hx rfl (hb hby d_method_5_467) rfl rfl kz) ?_
  refine Goes.step (T' := T168) (g' := (mkF m 470 #[.val (.ref a1), .val (.int p2), .val (.int p3), .val (.int p4), .val (.int p5)] [(.int (43 : Int32)), (.ref a1)])) (fun _ kz => XS.bipush X168.here hx rfl (hb hby d_method_5_468) kz) ?_
  refine Goes.step (T' := T168) (g' := (mkF m 471 #[.val (.ref a1), .val (.int p2), .val (.int p3), .val (.int p4), .val (.int p5)] [(.int p2), (.int (43 : Int32)), (.ref a1)])) (fun _ kz => XS.iloadN X168.here hx rfl (hb hby d_method_5_470) rfl  kz) ?_
  refine Goes.step (T' := T168) (g' := (mkF m 472 #[.val (.ref a1), .val (.int p2), .val (.int p3), .val (.int p4), .val (.int p5)] [(.int p3), (.int p2), (.int (43 : Int32)), (.ref a1)])) (fun _ kz => XS.iloadN X168.here hx rfl (hb hby d_method_5_471) rfl  kz) ?_
  refine Goes.step (T' := T168) (g' := (mkF m 473 #[.val (.ref a1), .val (.int p2), .val (.int p3), .val (.int p4), .val (.int p5)] [(.int p4), (.int p3), (.int p2), (.int (43 : Int32)), (.ref a1)])) (fun _ kz => XS.iloadN X168.here hx rfl (hb hby d_method_5_472) rfl  kz) ?_
  refine Goes.step (T' := T168) (g' := (mkF m 475 #[.val (.ref a1), .val (.int p2), .val (.int p3), .val (.int p4), .val (.int p5)] [(.int p5), (.int p4), (.int p3), (.int p2), (.int (43 : Int32)), (.ref a1)])) (fun _ kz => XS.iload X168.here hx rfl (hb hby d_method_5_473) rfl  kz) ?_
  obtain ⟨_, _, ⟨T170, L170, k170, n170⟩, -, X170, ⟨Lc170, hQ170, l170, y170, z170⟩, st170⟩ := Jvm.LawKit.callS X168 hx (y := (⟨"com/example/tariff/tariff/core/decimal/PlainDecimalIsBoundedPinLaw", "put", "([CIIICI)V"⟩ : MethodName)) hown (mvT hZ (hw _ (List.mem_of_getElem? (i := 6) rfl))) (mvT hZ (hw _ (List.mem_of_getElem? (i := 7) rfl))) (mvT hZ (hw _ (List.mem_of_getElem? (i := 4) rfl))) (mvT hZ (hw _ (List.mem_of_getElem? (i := 8) rfl))) (by decide) (backOf (W := 0) (rm_put l Z a0 hw [] a1 (43 : Int32) p2 p3 p4 p5 (kc) (N) ((FLP p2 p3 p4 p5 43)) ((.int (0 : Int32))) h168 n0 O0  V_a1 g_a1 (by decide) (by rw [flp_len]; decide)) hZ (hw _ (List.mem_of_getElem? (i := 8) rfl)) (hw _ (List.mem_of_getElem? (i := 4) rfl)) (by decide) (by decide)) (g := (mkF m 475 #[.val (.ref a1), .val (.int p2), .val (.int p3), .val (.int p4), .val (.int p5)] [(.int p5), (.int p4), (.int p3), (.int p2), (.int (43 : Int32)), (.ref a1)])) rfl (by rw [hml]; rfl) (argsL := [(.ref a1), (.int (43 : Int32)), (.int p2), (.int p3), (.int p4), (.int p5)]) (rest := []) (lenOf pd_9 rfl) rfl (by show 2 * 0 + _ ≤ _; exact Nat.le_of_eq rfl) (hb hby d_method_5_475) (fun _ _ => ⟨rfl, e168, (by decide : 0 + 0 ≤ _), (by decide : 0 + 0 ≤ _)⟩)
  dsimp only [Pt.U, Pt.locs, Pt.cells, Pt.slots] at X170 l170 y170 z170 st170 hQ170
  subst l170 y170 z170
  obtain ⟨h170, e170⟩ : ∃ z, T170.heap = z := ⟨_, rfl⟩
  rw [e170] at hQ170
  obtain ⟨rfl, Nq170, Kq170, V_a1_q170⟩ := hQ170
  replace N0 := Fr.app N0 Nq170
  clear V_a1
  replace O0 := O0.keep Kq170 (allS g_a1 all0)
  replace K0 := K0.trans Kq170 (allS (Or.inl (List.mem_of_getElem? (i := 0) rfl)) all0)
  have V_a1 := V_a1_q170
  refine Goes.step (T' := T170) (g' := (mkF m 478 #[.val (.ref a1), .val (.int p2), .val (.int p3), .val (.int p4), .val (.int p5)] [])) st170 ?_
  rw [flp_step (i := 43) (c := (43 : Int32)) (by decide) rfl (by decide)] at V_a1
  exact nx _ _ _ (X170.mono (by decide) (by decide)) e170 N0 K0 O0 V_a1
set_option maxRecDepth 65536 in
set_option maxHeartbeats 40000000 in
theorem rm_fill (l : Launch) (Z : State) (a0 : Array Value) (hw : ∀ d ∈ tables_1, d.before a0 Z = true) (ws : List Jvm.Cond) (a1 : Addr) (p2 : Int32) (p3 : Int32) (p4 : Int32) (p5 : Int32) (kc : ClassId) (N : Int32) (h0 : Heap) (n0 : Nat) (O0 : Old Z n0 h0)  (V_a1 : Arv Z h0 a1 kc .char N (List.replicate 44 (Value.int (0 : Int32))) (.int (0 : Int32))) (g_a1 : n0 ≤ a1) :
    MetFree l (⟨"com/example/tariff/tariff/core/decimal/PlainDecimalIsBoundedPinLaw", "fill", "([CIICI)V"⟩ : MethodName) (head1 ((Jvm.Cond.code (⟨"com/example/tariff/tariff/core/decimal/PlainDecimalIsBoundedPinLaw", "fill", "([CIICI)V"⟩ : MethodName) method_5_code 5 none) :: ws) ({ frames := 2, cells := 0, slots := 0, locals := 35 } : Room)) (fun a U => a = #[(.ref a1), (.int p2), (.int p3), (.int p4), (.int p5)] ∧ Z.Warmed39 U.vm ∧ U.heap = h0) (fun _ _ _ _ _ => True) (fun _ U o U' => ∃ v L, o = .returned v ∧ Q_fill Z a1 p2 p3 p4 p5 kc N h0 n0 v U'.heap L ∧ FrameEnd U o U' L ({ frames := 2, cells := 0, slots := 0, locals := 35 } : Room).cells ({ frames := 2, cells := 0, slots := 0, locals := 35 } : Room).slots) := by
  refine MetFree.of_bodySF (plainFor_of_name pn_3) hisR ?_
  intro p e s m args below meth c s₁ Bd hml0 hP hK
  obtain ⟨rfl, hZ, hh⟩ := hP
  have hx := Bd.exec
  have hby := Bd.bytes
  have hml : c.maxLocals = 5 := hml0
  have hown : s.vm.findClass "com/example/tariff/tariff/core/decimal/PlainDecimalIsBoundedPinLaw" = some m.cls := findClass_of_methodNamed Bd.named
  have hnm := (name_of_methodNamed Bd.named Bd.method).1
  have X0 : Stand p l e ({ frames := 2, cells := 0, slots := 0, locals := 35 } : Room) s m #[(.ref a1), (.int p2), (.int p3), (.int p4), (.int p5)] below meth c s₁ [] 0 0 := Stand.of_body Bd
  have e0 : s₁.heap = h0 := by rw [← hh, Bd.state]; rfl
  have N0 := Fr.nil n0
  have K0 : Keep h0 h0 [a1] := Keep.refl _ _
  suffices hG : Goes p e below (fun o U' => ∃ v L, o = .returned v ∧ Q_fill Z a1 p2 p3 p4 p5 kc N h0 n0 v U'.heap L ∧ FrameEnd s o U' L ({ frames := 2, cells := 0, slots := 0, locals := 35 } : Room).cells ({ frames := 2, cells := 0, slots := 0, locals := 35 } : Room).slots) s₁ (mkF m 0 #[.val (.ref a1), .val (.int p2), .val (.int p3), .val (.int p4), .val (.int p5)] []) by
    obtain ⟨t, o, h1, h2⟩ := hG; exact ⟨t, o, castTop (ef_fill m a1 p2 p3 p4 p5) h1, h2⟩
  rw [← flp_zero p2 p3 p4 p5] at V_a1
  refine fill_0 l Z a0 hw p e s m below meth c _ hx hby hml hown hZ a1 p2 p3 p4 p5 kc N h0 n0 g_a1  _ _ _ X0 e0 N0 K0 O0 V_a1 ?_
  clear N0 K0 O0 V_a1
  intro T40 h40 locs40 X40 e40 N0 K0 O0 V_a1
  refine fill_1 l Z a0 hw p e s m below meth c _ hx hby hml hown hZ a1 p2 p3 p4 p5 kc N h0 n0 g_a1  _ _ _ X40 e40 N0 K0 O0 V_a1 ?_
  clear N0 K0 O0 V_a1
  intro T43 h43 locs43 X43 e43 N0 K0 O0 V_a1
  refine fill_2 l Z a0 hw p e s m below meth c _ hx hby hml hown hZ a1 p2 p3 p4 p5 kc N h0 n0 g_a1  _ _ _ X43 e43 N0 K0 O0 V_a1 ?_
  clear N0 K0 O0 V_a1
  intro T46 h46 locs46 X46 e46 N0 K0 O0 V_a1
  refine fill_3 l Z a0 hw p e s m below meth c _ hx hby hml hown hZ a1 p2 p3 p4 p5 kc N h0 n0 g_a1  _ _ _ X46 e46 N0 K0 O0 V_a1 ?_
  clear N0 K0 O0 V_a1
  intro T49 h49 locs49 X49 e49 N0 K0 O0 V_a1
  refine fill_4 l Z a0 hw p e s m below meth c _ hx hby hml hown hZ a1 p2 p3 p4 p5 kc N h0 n0 g_a1  _ _ _ X49 e49 N0 K0 O0 V_a1 ?_
  clear N0 K0 O0 V_a1
  intro T52 h52 locs52 X52 e52 N0 K0 O0 V_a1
  refine fill_5 l Z a0 hw p e s m below meth c _ hx hby hml hown hZ a1 p2 p3 p4 p5 kc N h0 n0 g_a1  _ _ _ X52 e52 N0 K0 O0 V_a1 ?_
  clear N0 K0 O0 V_a1
  intro T55 h55 locs55 X55 e55 N0 K0 O0 V_a1
  refine fill_6 l Z a0 hw p e s m below meth c _ hx hby hml hown hZ a1 p2 p3 p4 p5 kc N h0 n0 g_a1  _ _ _ X55 e55 N0 K0 O0 V_a1 ?_
  clear N0 K0 O0 V_a1
  intro T58 h58 locs58 X58 e58 N0 K0 O0 V_a1
  refine fill_7 l Z a0 hw p e s m below meth c _ hx hby hml hown hZ a1 p2 p3 p4 p5 kc N h0 n0 g_a1  _ _ _ X58 e58 N0 K0 O0 V_a1 ?_
  clear N0 K0 O0 V_a1
  intro T61 h61 locs61 X61 e61 N0 K0 O0 V_a1
  refine fill_8 l Z a0 hw p e s m below meth c _ hx hby hml hown hZ a1 p2 p3 p4 p5 kc N h0 n0 g_a1  _ _ _ X61 e61 N0 K0 O0 V_a1 ?_
  clear N0 K0 O0 V_a1
  intro T64 h64 locs64 X64 e64 N0 K0 O0 V_a1
  refine fill_9 l Z a0 hw p e s m below meth c _ hx hby hml hown hZ a1 p2 p3 p4 p5 kc N h0 n0 g_a1  _ _ _ X64 e64 N0 K0 O0 V_a1 ?_
  clear N0 K0 O0 V_a1
  intro T67 h67 locs67 X67 e67 N0 K0 O0 V_a1
  refine fill_10 l Z a0 hw p e s m below meth c _ hx hby hml hown hZ a1 p2 p3 p4 p5 kc N h0 n0 g_a1  _ _ _ X67 e67 N0 K0 O0 V_a1 ?_
  clear N0 K0 O0 V_a1
  intro T70 h70 locs70 X70 e70 N0 K0 O0 V_a1
  refine fill_11 l Z a0 hw p e s m below meth c _ hx hby hml hown hZ a1 p2 p3 p4 p5 kc N h0 n0 g_a1  _ _ _ X70 e70 N0 K0 O0 V_a1 ?_
  clear N0 K0 O0 V_a1
  intro T73 h73 locs73 X73 e73 N0 K0 O0 V_a1
  refine fill_12 l Z a0 hw p e s m below meth c _ hx hby hml hown hZ a1 p2 p3 p4 p5 kc N h0 n0 g_a1  _ _ _ X73 e73 N0 K0 O0 V_a1 ?_
  clear N0 K0 O0 V_a1
  intro T76 h76 locs76 X76 e76 N0 K0 O0 V_a1
  refine fill_13 l Z a0 hw p e s m below meth c _ hx hby hml hown hZ a1 p2 p3 p4 p5 kc N h0 n0 g_a1  _ _ _ X76 e76 N0 K0 O0 V_a1 ?_
  clear N0 K0 O0 V_a1
  intro T79 h79 locs79 X79 e79 N0 K0 O0 V_a1
  refine fill_14 l Z a0 hw p e s m below meth c _ hx hby hml hown hZ a1 p2 p3 p4 p5 kc N h0 n0 g_a1  _ _ _ X79 e79 N0 K0 O0 V_a1 ?_
  clear N0 K0 O0 V_a1
  intro T82 h82 locs82 X82 e82 N0 K0 O0 V_a1
  refine fill_15 l Z a0 hw p e s m below meth c _ hx hby hml hown hZ a1 p2 p3 p4 p5 kc N h0 n0 g_a1  _ _ _ X82 e82 N0 K0 O0 V_a1 ?_
  clear N0 K0 O0 V_a1
  intro T85 h85 locs85 X85 e85 N0 K0 O0 V_a1
  refine fill_16 l Z a0 hw p e s m below meth c _ hx hby hml hown hZ a1 p2 p3 p4 p5 kc N h0 n0 g_a1  _ _ _ X85 e85 N0 K0 O0 V_a1 ?_
  clear N0 K0 O0 V_a1
  intro T88 h88 locs88 X88 e88 N0 K0 O0 V_a1
  refine fill_17 l Z a0 hw p e s m below meth c _ hx hby hml hown hZ a1 p2 p3 p4 p5 kc N h0 n0 g_a1  _ _ _ X88 e88 N0 K0 O0 V_a1 ?_
  clear N0 K0 O0 V_a1
  intro T91 h91 locs91 X91 e91 N0 K0 O0 V_a1
  refine fill_18 l Z a0 hw p e s m below meth c _ hx hby hml hown hZ a1 p2 p3 p4 p5 kc N h0 n0 g_a1  _ _ _ X91 e91 N0 K0 O0 V_a1 ?_
  clear N0 K0 O0 V_a1
  intro T94 h94 locs94 X94 e94 N0 K0 O0 V_a1
  refine fill_19 l Z a0 hw p e s m below meth c _ hx hby hml hown hZ a1 p2 p3 p4 p5 kc N h0 n0 g_a1  _ _ _ X94 e94 N0 K0 O0 V_a1 ?_
  clear N0 K0 O0 V_a1
  intro T97 h97 locs97 X97 e97 N0 K0 O0 V_a1
  refine fill_20 l Z a0 hw p e s m below meth c _ hx hby hml hown hZ a1 p2 p3 p4 p5 kc N h0 n0 g_a1  _ _ _ X97 e97 N0 K0 O0 V_a1 ?_
  clear N0 K0 O0 V_a1
  intro T100 h100 locs100 X100 e100 N0 K0 O0 V_a1
  refine fill_21 l Z a0 hw p e s m below meth c _ hx hby hml hown hZ a1 p2 p3 p4 p5 kc N h0 n0 g_a1  _ _ _ X100 e100 N0 K0 O0 V_a1 ?_
  clear N0 K0 O0 V_a1
  intro T103 h103 locs103 X103 e103 N0 K0 O0 V_a1
  refine fill_22 l Z a0 hw p e s m below meth c _ hx hby hml hown hZ a1 p2 p3 p4 p5 kc N h0 n0 g_a1  _ _ _ X103 e103 N0 K0 O0 V_a1 ?_
  clear N0 K0 O0 V_a1
  intro T106 h106 locs106 X106 e106 N0 K0 O0 V_a1
  refine fill_23 l Z a0 hw p e s m below meth c _ hx hby hml hown hZ a1 p2 p3 p4 p5 kc N h0 n0 g_a1  _ _ _ X106 e106 N0 K0 O0 V_a1 ?_
  clear N0 K0 O0 V_a1
  intro T109 h109 locs109 X109 e109 N0 K0 O0 V_a1
  refine fill_24 l Z a0 hw p e s m below meth c _ hx hby hml hown hZ a1 p2 p3 p4 p5 kc N h0 n0 g_a1  _ _ _ X109 e109 N0 K0 O0 V_a1 ?_
  clear N0 K0 O0 V_a1
  intro T112 h112 locs112 X112 e112 N0 K0 O0 V_a1
  refine fill_25 l Z a0 hw p e s m below meth c _ hx hby hml hown hZ a1 p2 p3 p4 p5 kc N h0 n0 g_a1  _ _ _ X112 e112 N0 K0 O0 V_a1 ?_
  clear N0 K0 O0 V_a1
  intro T115 h115 locs115 X115 e115 N0 K0 O0 V_a1
  refine fill_26 l Z a0 hw p e s m below meth c _ hx hby hml hown hZ a1 p2 p3 p4 p5 kc N h0 n0 g_a1  _ _ _ X115 e115 N0 K0 O0 V_a1 ?_
  clear N0 K0 O0 V_a1
  intro T118 h118 locs118 X118 e118 N0 K0 O0 V_a1
  refine fill_27 l Z a0 hw p e s m below meth c _ hx hby hml hown hZ a1 p2 p3 p4 p5 kc N h0 n0 g_a1  _ _ _ X118 e118 N0 K0 O0 V_a1 ?_
  clear N0 K0 O0 V_a1
  intro T121 h121 locs121 X121 e121 N0 K0 O0 V_a1
  refine fill_28 l Z a0 hw p e s m below meth c _ hx hby hml hown hZ a1 p2 p3 p4 p5 kc N h0 n0 g_a1  _ _ _ X121 e121 N0 K0 O0 V_a1 ?_
  clear N0 K0 O0 V_a1
  intro T124 h124 locs124 X124 e124 N0 K0 O0 V_a1
  refine fill_29 l Z a0 hw p e s m below meth c _ hx hby hml hown hZ a1 p2 p3 p4 p5 kc N h0 n0 g_a1  _ _ _ X124 e124 N0 K0 O0 V_a1 ?_
  clear N0 K0 O0 V_a1
  intro T127 h127 locs127 X127 e127 N0 K0 O0 V_a1
  refine fill_30 l Z a0 hw p e s m below meth c _ hx hby hml hown hZ a1 p2 p3 p4 p5 kc N h0 n0 g_a1  _ _ _ X127 e127 N0 K0 O0 V_a1 ?_
  clear N0 K0 O0 V_a1
  intro T130 h130 locs130 X130 e130 N0 K0 O0 V_a1
  refine fill_31 l Z a0 hw p e s m below meth c _ hx hby hml hown hZ a1 p2 p3 p4 p5 kc N h0 n0 g_a1  _ _ _ X130 e130 N0 K0 O0 V_a1 ?_
  clear N0 K0 O0 V_a1
  intro T133 h133 locs133 X133 e133 N0 K0 O0 V_a1
  refine fill_32 l Z a0 hw p e s m below meth c _ hx hby hml hown hZ a1 p2 p3 p4 p5 kc N h0 n0 g_a1  _ _ _ X133 e133 N0 K0 O0 V_a1 ?_
  clear N0 K0 O0 V_a1
  intro T136 h136 locs136 X136 e136 N0 K0 O0 V_a1
  refine fill_33 l Z a0 hw p e s m below meth c _ hx hby hml hown hZ a1 p2 p3 p4 p5 kc N h0 n0 g_a1  _ _ _ X136 e136 N0 K0 O0 V_a1 ?_
  clear N0 K0 O0 V_a1
  intro T139 h139 locs139 X139 e139 N0 K0 O0 V_a1
  refine fill_34 l Z a0 hw p e s m below meth c _ hx hby hml hown hZ a1 p2 p3 p4 p5 kc N h0 n0 g_a1  _ _ _ X139 e139 N0 K0 O0 V_a1 ?_
  clear N0 K0 O0 V_a1
  intro T142 h142 locs142 X142 e142 N0 K0 O0 V_a1
  refine fill_35 l Z a0 hw p e s m below meth c _ hx hby hml hown hZ a1 p2 p3 p4 p5 kc N h0 n0 g_a1  _ _ _ X142 e142 N0 K0 O0 V_a1 ?_
  clear N0 K0 O0 V_a1
  intro T145 h145 locs145 X145 e145 N0 K0 O0 V_a1
  refine fill_36 l Z a0 hw p e s m below meth c _ hx hby hml hown hZ a1 p2 p3 p4 p5 kc N h0 n0 g_a1  _ _ _ X145 e145 N0 K0 O0 V_a1 ?_
  clear N0 K0 O0 V_a1
  intro T148 h148 locs148 X148 e148 N0 K0 O0 V_a1
  refine fill_37 l Z a0 hw p e s m below meth c _ hx hby hml hown hZ a1 p2 p3 p4 p5 kc N h0 n0 g_a1  _ _ _ X148 e148 N0 K0 O0 V_a1 ?_
  clear N0 K0 O0 V_a1
  intro T151 h151 locs151 X151 e151 N0 K0 O0 V_a1
  refine fill_38 l Z a0 hw p e s m below meth c _ hx hby hml hown hZ a1 p2 p3 p4 p5 kc N h0 n0 g_a1  _ _ _ X151 e151 N0 K0 O0 V_a1 ?_
  clear N0 K0 O0 V_a1
  intro T154 h154 locs154 X154 e154 N0 K0 O0 V_a1
  refine fill_39 l Z a0 hw p e s m below meth c _ hx hby hml hown hZ a1 p2 p3 p4 p5 kc N h0 n0 g_a1  _ _ _ X154 e154 N0 K0 O0 V_a1 ?_
  clear N0 K0 O0 V_a1
  intro T157 h157 locs157 X157 e157 N0 K0 O0 V_a1
  refine fill_40 l Z a0 hw p e s m below meth c _ hx hby hml hown hZ a1 p2 p3 p4 p5 kc N h0 n0 g_a1  _ _ _ X157 e157 N0 K0 O0 V_a1 ?_
  clear N0 K0 O0 V_a1
  intro T160 h160 locs160 X160 e160 N0 K0 O0 V_a1
  refine fill_41 l Z a0 hw p e s m below meth c _ hx hby hml hown hZ a1 p2 p3 p4 p5 kc N h0 n0 g_a1  _ _ _ X160 e160 N0 K0 O0 V_a1 ?_
  clear N0 K0 O0 V_a1
  intro T163 h163 locs163 X163 e163 N0 K0 O0 V_a1
  refine fill_42 l Z a0 hw p e s m below meth c _ hx hby hml hown hZ a1 p2 p3 p4 p5 kc N h0 n0 g_a1  _ _ _ X163 e163 N0 K0 O0 V_a1 ?_
  clear N0 K0 O0 V_a1
  intro T166 h166 locs166 X166 e166 N0 K0 O0 V_a1
  refine fill_43 l Z a0 hw p e s m below meth c _ hx hby hml hown hZ a1 p2 p3 p4 p5 kc N h0 n0 g_a1  _ _ _ X166 e166 N0 K0 O0 V_a1 ?_
  clear N0 K0 O0 V_a1
  intro T169 h169 locs169 X169 e169 N0 K0 O0 V_a1
  obtain ⟨fs, hr, hrun, hended, hW, hsame⟩ := X169.leave (v := none) (fun _ => rfl)
  rw [flp_last] at V_a1
  exact ⟨_, _, X169.returnOut hx Bd.returns (hb hby d_method_5_478) hr, hrun, hended, _, _, rfl, (by show Q_fill Z a1 p2 p3 p4 p5 kc N h0 n0 _ T169.heap _; rw [e169]; exact ⟨rfl, N0, K0, V_a1⟩), ⟨_, rfl⟩, hW, hsame.mono (by decide) (by decide)⟩
theorem pd_10 : parseMethodDescriptor "([CIICI)V" = some ⟨[(.array .char), .int, .int, .char, .int], none⟩ := by decide +kernel
theorem pd_11 : parseMethodDescriptor "([C)V" = some ⟨[(.array .char)], none⟩ := by decide +kernel
theorem pd_12 : parseMethodDescriptor "(Ljava/lang/String;)Z" = some ⟨[(.object "java/lang/String")], some .boolean⟩ := by decide +kernel
theorem ef_law (m : MethodId) (p0 : Int32) (p1 : Int32) (p2 : Int32) (p3 : Int32) (p4 : Int32) (p5 : Int32) : entryFrame m #[(.int p0), (.int p1), (.int p2), (.int p3), (.int p4), (.int p5)] maxLocals = mkF m 0 #[.val (.int p0), .val (.int p1), .val (.int p2), .val (.int p3), .val (.int p4), .val (.int p5), .unset, .unset, .unset, .unset, .unset, .unset, .unset, .unset, .unset, .unset, .unset] [] := by first | (simp [entryFrame, mkF, argsToLocals, Value.category, maxLocals]; done) | rfl
def Q_law (Z : State) (p0 : Int32) (p1 : Int32) (p2 : Int32) (p3 : Int32) (p4 : Int32) (p5 : Int32) (h0 : Heap) (n0 : Nat) (v : Option Value) (h : Heap) (L : List Loc) : Prop := (v = some (.int (1 : Int32))) ∧ (Fr n0 L) ∧ (Keep h0 h [])
set_option maxRecDepth 65536 in
set_option maxHeartbeats 40000000 in
theorem rm_law (l : Launch) (Z : State) (a0 : Array Value) (hw : ∀ d ∈ tables_1, d.before a0 Z = true) (ws : List Jvm.Cond) (p0 : Int32) (p1 : Int32) (p2 : Int32) (p3 : Int32) (p4 : Int32) (p5 : Int32) (h0 : Heap) (n0 : Nat) (O0 : Old Z n0 h0) (zcs : Int32) (Scs : Sta Z Z.heap "java/lang/String" "COMPACT_STRINGS" "Z" (.int zcs)) (hz_Scs : ¬ zcs = 0) (fmt : Value) (Sfm : Sta Z Z.heap "jdk/internal/util/Preconditions" "SIOOBE_FORMATTER" "Ljava/util/function/BiFunction;" fmt) (hz_Sfm : fmt.isRef = true)  :
    MetFree l x (head1 ((Jvm.Cond.code x code maxLocals ret) :: ws) room_1) (fun a U => a = #[(.int p0), (.int p1), (.int p2), (.int p3), (.int p4), (.int p5)] ∧ Z.Warmed39 U.vm ∧ U.heap = h0) (fun _ _ _ _ _ => True) (fun _ U o U' => ∃ v L, o = .returned v ∧ Q_law Z p0 p1 p2 p3 p4 p5 h0 n0 v U'.heap L ∧ FrameEnd U o U' L 16 256) := by
  refine MetFree.of_bodySF (plainFor_of_name pn_3) hisR ?_
  intro p e s m args below meth c s₁ Bd hml0 hP hK
  obtain ⟨rfl, hZ, hh⟩ := hP
  have hx := Bd.exec
  have hby := Bd.bytes
  have hml : c.maxLocals = 17 := hml0
  have hown : s.vm.findClass "com/example/tariff/tariff/core/decimal/PlainDecimalIsBoundedPinLaw" = some m.cls := findClass_of_methodNamed Bd.named
  have hnm := (name_of_methodNamed Bd.named Bd.method).1
  have X0 : Stand p l e room_1 s m #[(.int p0), (.int p1), (.int p2), (.int p3), (.int p4), (.int p5)] below meth c s₁ [] 0 0 := Stand.of_body Bd
  have e0 : s₁.heap = h0 := by rw [← hh, Bd.state]; rfl
  have N0 := Fr.nil n0
  have K0 : Keep h0 h0 [] := Keep.refl _ _
  suffices hG : Goes p e below (fun o U' => ∃ v L, o = .returned v ∧ Q_law Z p0 p1 p2 p3 p4 p5 h0 n0 v U'.heap L ∧ FrameEnd s o U' L 16 256) s₁ (mkF m 0 #[.val (.int p0), .val (.int p1), .val (.int p2), .val (.int p3), .val (.int p4), .val (.int p5), .unset, .unset, .unset, .unset, .unset, .unset, .unset, .unset, .unset, .unset, .unset] []) by
    obtain ⟨t, o, h1, h2⟩ := hG; exact ⟨t, o, castTop (ef_law m p0 p1 p2 p3 p4 p5) h1, h2⟩
  refine Goes.step (T' := s₁) (g' := (mkF m 1 #[.val (.int p0), .val (.int p1), .val (.int p2), .val (.int p3), .val (.int p4), .val (.int p5), .unset, .unset, .unset, .unset, .unset, .unset, .unset, .unset, .unset, .unset, .unset] [(.int (1 : Int32))])) (fun _ kz => XS.iconst X0.here hx rfl (hb hby at_0) kz) ?_
  refine Goes.step (T' := s₁) (g' := (mkF m 2 #[.val (.int p0), .val (.int p1), .val (.int p2), .val (.int p3), .val (.int p4), .val (.int p5), .unset, .unset, .unset, .unset, .unset, .unset, .unset, .unset, .unset, .unset, .unset] [(.int p0), (.int (1 : Int32))])) (fun _ kz => XS.iloadN X0.here hx rfl (hb hby at_1) rfl  kz) ?_
  refine Goes.step (T' := s₁) (g' := (mkF m 4 #[.val (.int p0), .val (.int p1), .val (.int p2), .val (.int p3), .val (.int p4), .val (.int p5), .unset, .unset, .unset, .unset, .unset, .unset, .unset, .unset, .unset, .unset, .unset] [(.int (2147483647 : Int32)), (.int p0), (.int (1 : Int32))])) (X0.ldcInt hx hown (mvT hZ (hw _ (List.mem_of_getElem? (i := 0) rfl))) (g := (mkF m 2 #[.val (.int p0), .val (.int p1), .val (.int p2), .val (.int p3), .val (.int p4), .val (.int p5), .unset, .unset, .unset, .unset, .unset, .unset, .unset, .unset, .unset, .unset, .unset] [(.int p0), (.int (1 : Int32))])) rfl (hb hby at_2)) ?_
  refine Goes.step (T' := s₁) (g' := (mkF m 5 #[.val (.int p0), .val (.int p1), .val (.int p2), .val (.int p3), .val (.int p4), .val (.int p5), .unset, .unset, .unset, .unset, .unset, .unset, .unset, .unset, .unset, .unset, .unset] [(.int (p0 &&& (2147483647 : Int32))), (.int (1 : Int32))])) (fun _ kz => XS.iand X0.here hx rfl (hb hby at_4) rfl kz) ?_
  refine Goes.step (T' := s₁) (g' := (mkF m 7 #[.val (.int p0), .val (.int p1), .val (.int p2), .val (.int p3), .val (.int p4), .val (.int p5), .unset, .unset, .unset, .unset, .unset, .unset, .unset, .unset, .unset, .unset, .unset] [(.int (44 : Int32)), (.int (p0 &&& (2147483647 : Int32))), (.int (1 : Int32))])) (fun _ kz => XS.bipush X0.here hx rfl (hb hby at_5) kz) ?_
  refine Goes.step (T' := s₁) (g' := (mkF m 8 #[.val (.int p0), .val (.int p1), .val (.int p2), .val (.int p3), .val (.int p4), .val (.int p5), .unset, .unset, .unset, .unset, .unset, .unset, .unset, .unset, .unset, .unset, .unset] [(.int ((p0 &&& (2147483647 : Int32)) % (44 : Int32))), (.int (1 : Int32))])) (fun _ kz => iremM X0 hx rfl (hb hby at_7) rfl (by decide) kz) ?_
  refine Goes.step (T' := s₁) (g' := (mkF m 9 #[.val (.int p0), .val (.int p1), .val (.int p2), .val (.int p3), .val (.int p4), .val (.int p5), .unset, .unset, .unset, .unset, .unset, .unset, .unset, .unset, .unset, .unset, .unset] [(.int ((1 : Int32) + ((p0 &&& (2147483647 : Int32)) % (44 : Int32))))])) (fun _ kz => XS.iadd X0.here hx rfl (hb hby at_8) rfl kz) ?_
  refine Goes.step (T' := s₁) (g' := (mkF m 11 #[.val (.int p0), .val (.int p1), .val (.int p2), .val (.int p3), .val (.int p4), .val (.int p5), .val (.int ((1 : Int32) + ((p0 &&& (2147483647 : Int32)) % (44 : Int32)))), .unset, .unset, .unset, .unset, .unset, .unset, .unset, .unset, .unset, .unset] [])) (fun _ kz => XS.istore X0.here hx rfl (hb hby at_9) rfl (l' := #[.val (.int p0), .val (.int p1), .val (.int p2), .val (.int p3), .val (.int p4), .val (.int p5), .val (.int ((1 : Int32) + ((p0 &&& (2147483647 : Int32)) % (44 : Int32)))), .unset, .unset, .unset, .unset, .unset, .unset, .unset, .unset, .unset, .unset]) rfl kz) ?_
  obtain ⟨k, hk1, hk8, hkn⟩ := own_len p0
  rw [hkn]
  suffices J1 : ∀ (hp : Int32) (pt : Int32) (il : Nat) (hC : Chosen k hp pt il) (T171 : State) (h171 : Heap) (locs171 : List Loc) (X171 : Stand p l e room_1 s m #[(.int p0), (.int p1), (.int p2), (.int p3), (.int p4), (.int p5)] below meth c T171 locs171 0 0) (e171 : T171.heap = h171) (N0 : Fr n0 locs171) (K0 : Keep h0 h171 []) (O0 : Old Z n0 h171) , Goes p e below (fun o U' => ∃ v L, o = .returned v ∧ Q_law Z p0 p1 p2 p3 p4 p5 h0 n0 v U'.heap L ∧ FrameEnd s o U' L 16 256) T171 (mkF m 67 #[.val (.int p0), .val (.int p1), .val (.int p2), .val (.int p3), .val (.int p4), .val (.int p5), .val (.int (Int32.ofNat k)), .val (.int hp), .val (.int pt), .val (.int (Int32.ofNat il)), .unset, .unset, .unset, .unset, .unset, .unset, .unset] []) by
    refine Goes.step (T' := s₁) (g' := (mkF m 13 #[.val (.int p0), .val (.int p1), .val (.int p2), .val (.int p3), .val (.int p4), .val (.int p5), .val (.int (Int32.ofNat k)), .unset, .unset, .unset, .unset, .unset, .unset, .unset, .unset, .unset, .unset] [(.int p5)])) (fun _ kz => XS.iload X0.here hx rfl (hb hby at_11) rfl  kz) ?_
    refine Goes.step (T' := s₁) (g' := (mkF m 14 #[.val (.int p0), .val (.int p1), .val (.int p2), .val (.int p3), .val (.int p4), .val (.int p5), .val (.int (Int32.ofNat k)), .unset, .unset, .unset, .unset, .unset, .unset, .unset, .unset, .unset, .unset] [(.int (1 : Int32)), (.int p5)])) (fun _ kz => XS.iconst X0.here hx rfl (hb hby at_13) kz) ?_
    refine Goes.step (T' := s₁) (g' := (mkF m 15 #[.val (.int p0), .val (.int p1), .val (.int p2), .val (.int p3), .val (.int p4), .val (.int p5), .val (.int (Int32.ofNat k)), .unset, .unset, .unset, .unset, .unset, .unset, .unset, .unset, .unset, .unset] [(.int (p5 &&& (1 : Int32)))])) (fun _ kz => XS.iand X0.here hx rfl (hb hby at_14) rfl kz) ?_
    by_cases hc15_172 : (p5 &&& (1 : Int32)) = (0 : Int32)
    ·
      refine Goes.step (T' := s₁) (g' := (mkF m 28 #[.val (.int p0), .val (.int p1), .val (.int p2), .val (.int p3), .val (.int p4), .val (.int p5), .val (.int (Int32.ofNat k)), .unset, .unset, .unset, .unset, .unset, .unset, .unset, .unset, .unset, .unset] [])) (fun _ kz => XS.ifYes X0.here hx rfl (pc0 := 15) (pc' := 28) rfl (hb hby at_15) rfl ((if0 _ _).trans (teq hc15_172).1) (by decide) (by decide) kz) ?_
      refine Goes.step (T' := s₁) (g' := (mkF m 29 #[.val (.int p0), .val (.int p1), .val (.int p2), .val (.int p3), .val (.int p4), .val (.int p5), .val (.int (Int32.ofNat k)), .unset, .unset, .unset, .unset, .unset, .unset, .unset, .unset, .unset, .unset] [(.int (0 : Int32))])) (fun _ kz => XS.iconst X0.here hx rfl (hb hby at_28) kz) ?_
      refine Goes.step (T' := s₁) (g' := (mkF m 31 #[.val (.int p0), .val (.int p1), .val (.int p2), .val (.int p3), .val (.int p4), .val (.int p5), .val (.int (Int32.ofNat k)), .val (.int (0 : Int32)), .unset, .unset, .unset, .unset, .unset, .unset, .unset, .unset, .unset] [])) (fun _ kz => XS.istore X0.here hx rfl (hb hby at_29) rfl (l' := #[.val (.int p0), .val (.int p1), .val (.int p2), .val (.int p3), .val (.int p4), .val (.int p5), .val (.int (Int32.ofNat k)), .val (.int (0 : Int32)), .unset, .unset, .unset, .unset, .unset, .unset, .unset, .unset, .unset]) rfl kz) ?_
      refine Goes.step (T' := s₁) (g' := (mkF m 33 #[.val (.int p0), .val (.int p1), .val (.int p2), .val (.int p3), .val (.int p4), .val (.int p5), .val (.int (Int32.ofNat k)), .val (.int (0 : Int32)), .unset, .unset, .unset, .unset, .unset, .unset, .unset, .unset, .unset] [(.int (0 : Int32))])) (fun _ kz => XS.iload X0.here hx rfl (hb hby at_31) rfl  kz) ?_
      refine Goes.step (T' := s₁) (g' := (mkF m 50 #[.val (.int p0), .val (.int p1), .val (.int p2), .val (.int p3), .val (.int p4), .val (.int p5), .val (.int (Int32.ofNat k)), .val (.int (0 : Int32)), .unset, .unset, .unset, .unset, .unset, .unset, .unset, .unset, .unset] [])) (fun _ kz => XS.ifYes X0.here hx rfl (pc0 := 33) (pc' := 50) rfl (hb hby at_33) rfl ((if0 _ _).trans (teq (by decide : ((0 : Int32) = (0 : Int32)))).1) (by decide) (by decide) kz) ?_
      refine Goes.step (T' := s₁) (g' := (mkF m 51 #[.val (.int p0), .val (.int p1), .val (.int p2), .val (.int p3), .val (.int p4), .val (.int p5), .val (.int (Int32.ofNat k)), .val (.int (0 : Int32)), .unset, .unset, .unset, .unset, .unset, .unset, .unset, .unset, .unset] [(.int (-1 : Int32))])) (fun _ kz => XS.iconst X0.here hx rfl (hb hby at_50) kz) ?_
      refine Goes.step (T' := s₁) (g' := (mkF m 53 #[.val (.int p0), .val (.int p1), .val (.int p2), .val (.int p3), .val (.int p4), .val (.int p5), .val (.int (Int32.ofNat k)), .val (.int (0 : Int32)), .val (.int (-1 : Int32)), .unset, .unset, .unset, .unset, .unset, .unset, .unset, .unset] [])) (fun _ kz => XS.istore X0.here hx rfl (hb hby at_51) rfl (l' := #[.val (.int p0), .val (.int p1), .val (.int p2), .val (.int p3), .val (.int p4), .val (.int p5), .val (.int (Int32.ofNat k)), .val (.int (0 : Int32)), .val (.int (-1 : Int32)), .unset, .unset, .unset, .unset, .unset, .unset, .unset, .unset]) rfl kz) ?_
      refine Goes.step (T' := s₁) (g' := (mkF m 55 #[.val (.int p0), .val (.int p1), .val (.int p2), .val (.int p3), .val (.int p4), .val (.int p5), .val (.int (Int32.ofNat k)), .val (.int (0 : Int32)), .val (.int (-1 : Int32)), .unset, .unset, .unset, .unset, .unset, .unset, .unset, .unset] [(.int (0 : Int32))])) (fun _ kz => XS.iload X0.here hx rfl (hb hby at_53) rfl  kz) ?_
      refine Goes.step (T' := s₁) (g' := (mkF m 63 #[.val (.int p0), .val (.int p1), .val (.int p2), .val (.int p3), .val (.int p4), .val (.int p5), .val (.int (Int32.ofNat k)), .val (.int (0 : Int32)), .val (.int (-1 : Int32)), .unset, .unset, .unset, .unset, .unset, .unset, .unset, .unset] [])) (fun _ kz => XS.ifYes X0.here hx rfl (pc0 := 55) (pc' := 63) rfl (hb hby at_55) rfl ((if0 _ _).trans (teq (by decide : ((0 : Int32) = (0 : Int32)))).1) (by decide) (by decide) kz) ?_
      refine Goes.step (T' := s₁) (g' := (mkF m 65 #[.val (.int p0), .val (.int p1), .val (.int p2), .val (.int p3), .val (.int p4), .val (.int p5), .val (.int (Int32.ofNat k)), .val (.int (0 : Int32)), .val (.int (-1 : Int32)), .unset, .unset, .unset, .unset, .unset, .unset, .unset, .unset] [(.int (Int32.ofNat k))])) (fun _ kz => XS.iload X0.here hx rfl (hb hby at_63) rfl  kz) ?_
      refine Goes.step (T' := s₁) (g' := (mkF m 67 #[.val (.int p0), .val (.int p1), .val (.int p2), .val (.int p3), .val (.int p4), .val (.int p5), .val (.int (Int32.ofNat k)), .val (.int (0 : Int32)), .val (.int (-1 : Int32)), .val (.int (Int32.ofNat k)), .unset, .unset, .unset, .unset, .unset, .unset, .unset] [])) (fun _ kz => XS.istore X0.here hx rfl (hb hby at_65) rfl (l' := #[.val (.int p0), .val (.int p1), .val (.int p2), .val (.int p3), .val (.int p4), .val (.int p5), .val (.int (Int32.ofNat k)), .val (.int (0 : Int32)), .val (.int (-1 : Int32)), .val (.int (Int32.ofNat k)), .unset, .unset, .unset, .unset, .unset, .unset, .unset]) rfl kz) ?_
      exact J1 ((0 : Int32)) ((-1 : Int32)) (k) (Or.inl ⟨rfl, rfl, rfl⟩) _ _ _ (X0.mono (by decide) (by decide)) e0 N0 K0 O0 
    ·
      refine Goes.step (T' := s₁) (g' := (mkF m 18 #[.val (.int p0), .val (.int p1), .val (.int p2), .val (.int p3), .val (.int p4), .val (.int p5), .val (.int (Int32.ofNat k)), .unset, .unset, .unset, .unset, .unset, .unset, .unset, .unset, .unset, .unset] [])) (fun _ kz => XS.ifNo X0.here hx rfl (hb hby at_15) rfl ((if0 _ _).trans (feq hc15_172).1) kz) ?_
      refine Goes.step (T' := s₁) (g' := (mkF m 20 #[.val (.int p0), .val (.int p1), .val (.int p2), .val (.int p3), .val (.int p4), .val (.int p5), .val (.int (Int32.ofNat k)), .unset, .unset, .unset, .unset, .unset, .unset, .unset, .unset, .unset, .unset] [(.int (Int32.ofNat k))])) (fun _ kz => XS.iload X0.here hx rfl (hb hby at_18) rfl  kz) ?_
      refine Goes.step (T' := s₁) (g' := (mkF m 21 #[.val (.int p0), .val (.int p1), .val (.int p2), .val (.int p3), .val (.int p4), .val (.int p5), .val (.int (Int32.ofNat k)), .unset, .unset, .unset, .unset, .unset, .unset, .unset, .unset, .unset, .unset] [(.int (3 : Int32)), (.int (Int32.ofNat k))])) (fun _ kz => XS.iconst X0.here hx rfl (hb hby at_20) kz) ?_
      by_cases hc21_173 : (Int32.ofNat k) < (3 : Int32)
      ·
        refine Goes.step (T' := s₁) (g' := (mkF m 28 #[.val (.int p0), .val (.int p1), .val (.int p2), .val (.int p3), .val (.int p4), .val (.int p5), .val (.int (Int32.ofNat k)), .unset, .unset, .unset, .unset, .unset, .unset, .unset, .unset, .unset, .unset] [])) (fun _ kz => XS.icmpYes X0.here hx rfl (pc0 := 21) (pc' := 28) rfl (hb hby at_21) rfl (tlt hc21_173).1 (by decide) (by decide) kz) ?_
        refine Goes.step (T' := s₁) (g' := (mkF m 29 #[.val (.int p0), .val (.int p1), .val (.int p2), .val (.int p3), .val (.int p4), .val (.int p5), .val (.int (Int32.ofNat k)), .unset, .unset, .unset, .unset, .unset, .unset, .unset, .unset, .unset, .unset] [(.int (0 : Int32))])) (fun _ kz => XS.iconst X0.here hx rfl (hb hby at_28) kz) ?_
        refine Goes.step (T' := s₁) (g' := (mkF m 31 #[.val (.int p0), .val (.int p1), .val (.int p2), .val (.int p3), .val (.int p4), .val (.int p5), .val (.int (Int32.ofNat k)), .val (.int (0 : Int32)), .unset, .unset, .unset, .unset, .unset, .unset, .unset, .unset, .unset] [])) (fun _ kz => XS.istore X0.here hx rfl (hb hby at_29) rfl (l' := #[.val (.int p0), .val (.int p1), .val (.int p2), .val (.int p3), .val (.int p4), .val (.int p5), .val (.int (Int32.ofNat k)), .val (.int (0 : Int32)), .unset, .unset, .unset, .unset, .unset, .unset, .unset, .unset, .unset]) rfl kz) ?_
        refine Goes.step (T' := s₁) (g' := (mkF m 33 #[.val (.int p0), .val (.int p1), .val (.int p2), .val (.int p3), .val (.int p4), .val (.int p5), .val (.int (Int32.ofNat k)), .val (.int (0 : Int32)), .unset, .unset, .unset, .unset, .unset, .unset, .unset, .unset, .unset] [(.int (0 : Int32))])) (fun _ kz => XS.iload X0.here hx rfl (hb hby at_31) rfl  kz) ?_
        refine Goes.step (T' := s₁) (g' := (mkF m 50 #[.val (.int p0), .val (.int p1), .val (.int p2), .val (.int p3), .val (.int p4), .val (.int p5), .val (.int (Int32.ofNat k)), .val (.int (0 : Int32)), .unset, .unset, .unset, .unset, .unset, .unset, .unset, .unset, .unset] [])) (fun _ kz => XS.ifYes X0.here hx rfl (pc0 := 33) (pc' := 50) rfl (hb hby at_33) rfl ((if0 _ _).trans (teq (by decide : ((0 : Int32) = (0 : Int32)))).1) (by decide) (by decide) kz) ?_
        refine Goes.step (T' := s₁) (g' := (mkF m 51 #[.val (.int p0), .val (.int p1), .val (.int p2), .val (.int p3), .val (.int p4), .val (.int p5), .val (.int (Int32.ofNat k)), .val (.int (0 : Int32)), .unset, .unset, .unset, .unset, .unset, .unset, .unset, .unset, .unset] [(.int (-1 : Int32))])) (fun _ kz => XS.iconst X0.here hx rfl (hb hby at_50) kz) ?_
        refine Goes.step (T' := s₁) (g' := (mkF m 53 #[.val (.int p0), .val (.int p1), .val (.int p2), .val (.int p3), .val (.int p4), .val (.int p5), .val (.int (Int32.ofNat k)), .val (.int (0 : Int32)), .val (.int (-1 : Int32)), .unset, .unset, .unset, .unset, .unset, .unset, .unset, .unset] [])) (fun _ kz => XS.istore X0.here hx rfl (hb hby at_51) rfl (l' := #[.val (.int p0), .val (.int p1), .val (.int p2), .val (.int p3), .val (.int p4), .val (.int p5), .val (.int (Int32.ofNat k)), .val (.int (0 : Int32)), .val (.int (-1 : Int32)), .unset, .unset, .unset, .unset, .unset, .unset, .unset, .unset]) rfl kz) ?_
        refine Goes.step (T' := s₁) (g' := (mkF m 55 #[.val (.int p0), .val (.int p1), .val (.int p2), .val (.int p3), .val (.int p4), .val (.int p5), .val (.int (Int32.ofNat k)), .val (.int (0 : Int32)), .val (.int (-1 : Int32)), .unset, .unset, .unset, .unset, .unset, .unset, .unset, .unset] [(.int (0 : Int32))])) (fun _ kz => XS.iload X0.here hx rfl (hb hby at_53) rfl  kz) ?_
        refine Goes.step (T' := s₁) (g' := (mkF m 63 #[.val (.int p0), .val (.int p1), .val (.int p2), .val (.int p3), .val (.int p4), .val (.int p5), .val (.int (Int32.ofNat k)), .val (.int (0 : Int32)), .val (.int (-1 : Int32)), .unset, .unset, .unset, .unset, .unset, .unset, .unset, .unset] [])) (fun _ kz => XS.ifYes X0.here hx rfl (pc0 := 55) (pc' := 63) rfl (hb hby at_55) rfl ((if0 _ _).trans (teq (by decide : ((0 : Int32) = (0 : Int32)))).1) (by decide) (by decide) kz) ?_
        refine Goes.step (T' := s₁) (g' := (mkF m 65 #[.val (.int p0), .val (.int p1), .val (.int p2), .val (.int p3), .val (.int p4), .val (.int p5), .val (.int (Int32.ofNat k)), .val (.int (0 : Int32)), .val (.int (-1 : Int32)), .unset, .unset, .unset, .unset, .unset, .unset, .unset, .unset] [(.int (Int32.ofNat k))])) (fun _ kz => XS.iload X0.here hx rfl (hb hby at_63) rfl  kz) ?_
        refine Goes.step (T' := s₁) (g' := (mkF m 67 #[.val (.int p0), .val (.int p1), .val (.int p2), .val (.int p3), .val (.int p4), .val (.int p5), .val (.int (Int32.ofNat k)), .val (.int (0 : Int32)), .val (.int (-1 : Int32)), .val (.int (Int32.ofNat k)), .unset, .unset, .unset, .unset, .unset, .unset, .unset] [])) (fun _ kz => XS.istore X0.here hx rfl (hb hby at_65) rfl (l' := #[.val (.int p0), .val (.int p1), .val (.int p2), .val (.int p3), .val (.int p4), .val (.int p5), .val (.int (Int32.ofNat k)), .val (.int (0 : Int32)), .val (.int (-1 : Int32)), .val (.int (Int32.ofNat k)), .unset, .unset, .unset, .unset, .unset, .unset, .unset]) rfl kz) ?_
        exact J1 ((0 : Int32)) ((-1 : Int32)) (k) (Or.inl ⟨rfl, rfl, rfl⟩) _ _ _ (X0.mono (by decide) (by decide)) e0 N0 K0 O0 
      ·
        refine Goes.step (T' := s₁) (g' := (mkF m 24 #[.val (.int p0), .val (.int p1), .val (.int p2), .val (.int p3), .val (.int p4), .val (.int p5), .val (.int (Int32.ofNat k)), .unset, .unset, .unset, .unset, .unset, .unset, .unset, .unset, .unset, .unset] [])) (fun _ kz => XS.icmpNo X0.here hx rfl (hb hby at_21) rfl (flt hc21_173).1 kz) ?_
        refine Goes.step (T' := s₁) (g' := (mkF m 25 #[.val (.int p0), .val (.int p1), .val (.int p2), .val (.int p3), .val (.int p4), .val (.int p5), .val (.int (Int32.ofNat k)), .unset, .unset, .unset, .unset, .unset, .unset, .unset, .unset, .unset, .unset] [(.int (1 : Int32))])) (fun _ kz => XS.iconst X0.here hx rfl (hb hby at_24) kz) ?_
        refine Goes.step (T' := s₁) (g' := (mkF m 29 #[.val (.int p0), .val (.int p1), .val (.int p2), .val (.int p3), .val (.int p4), .val (.int p5), .val (.int (Int32.ofNat k)), .unset, .unset, .unset, .unset, .unset, .unset, .unset, .unset, .unset, .unset] [(.int (1 : Int32))])) (fun _ kz => XS.goto X0.here hx rfl (pc0 := 25) (pc' := 29) rfl (hb hby at_25) (by decide) (by decide) kz) ?_
        refine Goes.step (T' := s₁) (g' := (mkF m 31 #[.val (.int p0), .val (.int p1), .val (.int p2), .val (.int p3), .val (.int p4), .val (.int p5), .val (.int (Int32.ofNat k)), .val (.int (1 : Int32)), .unset, .unset, .unset, .unset, .unset, .unset, .unset, .unset, .unset] [])) (fun _ kz => XS.istore X0.here hx rfl (hb hby at_29) rfl (l' := #[.val (.int p0), .val (.int p1), .val (.int p2), .val (.int p3), .val (.int p4), .val (.int p5), .val (.int (Int32.ofNat k)), .val (.int (1 : Int32)), .unset, .unset, .unset, .unset, .unset, .unset, .unset, .unset, .unset]) rfl kz) ?_
        refine Goes.step (T' := s₁) (g' := (mkF m 33 #[.val (.int p0), .val (.int p1), .val (.int p2), .val (.int p3), .val (.int p4), .val (.int p5), .val (.int (Int32.ofNat k)), .val (.int (1 : Int32)), .unset, .unset, .unset, .unset, .unset, .unset, .unset, .unset, .unset] [(.int (1 : Int32))])) (fun _ kz => XS.iload X0.here hx rfl (hb hby at_31) rfl  kz) ?_
        refine Goes.step (T' := s₁) (g' := (mkF m 36 #[.val (.int p0), .val (.int p1), .val (.int p2), .val (.int p3), .val (.int p4), .val (.int p5), .val (.int (Int32.ofNat k)), .val (.int (1 : Int32)), .unset, .unset, .unset, .unset, .unset, .unset, .unset, .unset, .unset] [])) (fun _ kz => XS.ifNo X0.here hx rfl (hb hby at_33) rfl ((if0 _ _).trans (feq (by decide : ¬ ((1 : Int32) = (0 : Int32)))).1) kz) ?_
        refine Goes.step (T' := s₁) (g' := (mkF m 37 #[.val (.int p0), .val (.int p1), .val (.int p2), .val (.int p3), .val (.int p4), .val (.int p5), .val (.int (Int32.ofNat k)), .val (.int (1 : Int32)), .unset, .unset, .unset, .unset, .unset, .unset, .unset, .unset, .unset] [(.int (1 : Int32))])) (fun _ kz => XS.iconst X0.here hx rfl (hb hby at_36) kz) ?_
        refine Goes.step (T' := s₁) (g' := (mkF m 38 #[.val (.int p0), .val (.int p1), .val (.int p2), .val (.int p3), .val (.int p4), .val (.int p5), .val (.int (Int32.ofNat k)), .val (.int (1 : Int32)), .unset, .unset, .unset, .unset, .unset, .unset, .unset, .unset, .unset] [(.int p1), (.int (1 : Int32))])) (fun _ kz => XS.iloadN X0.here hx rfl (hb hby at_37) rfl  kz) ?_
        refine Goes.step (T' := s₁) (g' := (mkF m 40 #[.val (.int p0), .val (.int p1), .val (.int p2), .val (.int p3), .val (.int p4), .val (.int p5), .val (.int (Int32.ofNat k)), .val (.int (1 : Int32)), .unset, .unset, .unset, .unset, .unset, .unset, .unset, .unset, .unset] [(.int (2147483647 : Int32)), (.int p1), (.int (1 : Int32))])) (X0.ldcInt hx hown (mvT hZ (hw _ (List.mem_of_getElem? (i := 0) rfl))) (g := (mkF m 38 #[.val (.int p0), .val (.int p1), .val (.int p2), .val (.int p3), .val (.int p4), .val (.int p5), .val (.int (Int32.ofNat k)), .val (.int (1 : Int32)), .unset, .unset, .unset, .unset, .unset, .unset, .unset, .unset, .unset] [(.int p1), (.int (1 : Int32))])) rfl (hb hby at_38)) ?_
        refine Goes.step (T' := s₁) (g' := (mkF m 41 #[.val (.int p0), .val (.int p1), .val (.int p2), .val (.int p3), .val (.int p4), .val (.int p5), .val (.int (Int32.ofNat k)), .val (.int (1 : Int32)), .unset, .unset, .unset, .unset, .unset, .unset, .unset, .unset, .unset] [(.int (p1 &&& (2147483647 : Int32))), (.int (1 : Int32))])) (fun _ kz => XS.iand X0.here hx rfl (hb hby at_40) rfl kz) ?_
        refine Goes.step (T' := s₁) (g' := (mkF m 43 #[.val (.int p0), .val (.int p1), .val (.int p2), .val (.int p3), .val (.int p4), .val (.int p5), .val (.int (Int32.ofNat k)), .val (.int (1 : Int32)), .unset, .unset, .unset, .unset, .unset, .unset, .unset, .unset, .unset] [(.int (Int32.ofNat k)), (.int (p1 &&& (2147483647 : Int32))), (.int (1 : Int32))])) (fun _ kz => XS.iload X0.here hx rfl (hb hby at_41) rfl  kz) ?_
        refine Goes.step (T' := s₁) (g' := (mkF m 44 #[.val (.int p0), .val (.int p1), .val (.int p2), .val (.int p3), .val (.int p4), .val (.int p5), .val (.int (Int32.ofNat k)), .val (.int (1 : Int32)), .unset, .unset, .unset, .unset, .unset, .unset, .unset, .unset, .unset] [(.int (2 : Int32)), (.int (Int32.ofNat k)), (.int (p1 &&& (2147483647 : Int32))), (.int (1 : Int32))])) (fun _ kz => XS.iconst X0.here hx rfl (hb hby at_43) kz) ?_
        refine Goes.step (T' := s₁) (g' := (mkF m 45 #[.val (.int p0), .val (.int p1), .val (.int p2), .val (.int p3), .val (.int p4), .val (.int p5), .val (.int (Int32.ofNat k)), .val (.int (1 : Int32)), .unset, .unset, .unset, .unset, .unset, .unset, .unset, .unset, .unset] [(.int ((Int32.ofNat k) - (2 : Int32))), (.int (p1 &&& (2147483647 : Int32))), (.int (1 : Int32))])) (fun _ kz => XS.isub X0.here hx rfl (hb hby at_44) rfl kz) ?_
        refine Goes.step (T' := s₁) (g' := (mkF m 46 #[.val (.int p0), .val (.int p1), .val (.int p2), .val (.int p3), .val (.int p4), .val (.int p5), .val (.int (Int32.ofNat k)), .val (.int (1 : Int32)), .unset, .unset, .unset, .unset, .unset, .unset, .unset, .unset, .unset] [(.int ((p1 &&& (2147483647 : Int32)) % ((Int32.ofNat k) - (2 : Int32)))), (.int (1 : Int32))])) (fun _ kz => iremM X0 hx rfl (hb hby at_45) rfl (own_ne0 (m := k - 2) (by have := own_k3 hk8 hc21_173; omega) (by omega) (own_sub2 (own_k3 hk8 hc21_173) hk8)) kz) ?_
        refine Goes.step (T' := s₁) (g' := (mkF m 47 #[.val (.int p0), .val (.int p1), .val (.int p2), .val (.int p3), .val (.int p4), .val (.int p5), .val (.int (Int32.ofNat k)), .val (.int (1 : Int32)), .unset, .unset, .unset, .unset, .unset, .unset, .unset, .unset, .unset] [(.int ((1 : Int32) + ((p1 &&& (2147483647 : Int32)) % ((Int32.ofNat k) - (2 : Int32)))))])) (fun _ kz => XS.iadd X0.here hx rfl (hb hby at_46) rfl kz) ?_
        obtain ⟨jj, hj1, hj2, hjn⟩ := own_pt (own_k3 hk8 hc21_173) hk8 p1
        rw [hjn]
        refine Goes.step (T' := s₁) (g' := (mkF m 51 #[.val (.int p0), .val (.int p1), .val (.int p2), .val (.int p3), .val (.int p4), .val (.int p5), .val (.int (Int32.ofNat k)), .val (.int (1 : Int32)), .unset, .unset, .unset, .unset, .unset, .unset, .unset, .unset, .unset] [(.int (Int32.ofNat jj))])) (fun _ kz => XS.goto X0.here hx rfl (pc0 := 47) (pc' := 51) rfl (hb hby at_47) (by decide) (by decide) kz) ?_
        refine Goes.step (T' := s₁) (g' := (mkF m 53 #[.val (.int p0), .val (.int p1), .val (.int p2), .val (.int p3), .val (.int p4), .val (.int p5), .val (.int (Int32.ofNat k)), .val (.int (1 : Int32)), .val (.int (Int32.ofNat jj)), .unset, .unset, .unset, .unset, .unset, .unset, .unset, .unset] [])) (fun _ kz => XS.istore X0.here hx rfl (hb hby at_51) rfl (l' := #[.val (.int p0), .val (.int p1), .val (.int p2), .val (.int p3), .val (.int p4), .val (.int p5), .val (.int (Int32.ofNat k)), .val (.int (1 : Int32)), .val (.int (Int32.ofNat jj)), .unset, .unset, .unset, .unset, .unset, .unset, .unset, .unset]) rfl kz) ?_
        refine Goes.step (T' := s₁) (g' := (mkF m 55 #[.val (.int p0), .val (.int p1), .val (.int p2), .val (.int p3), .val (.int p4), .val (.int p5), .val (.int (Int32.ofNat k)), .val (.int (1 : Int32)), .val (.int (Int32.ofNat jj)), .unset, .unset, .unset, .unset, .unset, .unset, .unset, .unset] [(.int (1 : Int32))])) (fun _ kz => XS.iload X0.here hx rfl (hb hby at_53) rfl  kz) ?_
        refine Goes.step (T' := s₁) (g' := (mkF m 58 #[.val (.int p0), .val (.int p1), .val (.int p2), .val (.int p3), .val (.int p4), .val (.int p5), .val (.int (Int32.ofNat k)), .val (.int (1 : Int32)), .val (.int (Int32.ofNat jj)), .unset, .unset, .unset, .unset, .unset, .unset, .unset, .unset] [])) (fun _ kz => XS.ifNo X0.here hx rfl (hb hby at_55) rfl ((if0 _ _).trans (feq (by decide : ¬ ((1 : Int32) = (0 : Int32)))).1) kz) ?_
        refine Goes.step (T' := s₁) (g' := (mkF m 60 #[.val (.int p0), .val (.int p1), .val (.int p2), .val (.int p3), .val (.int p4), .val (.int p5), .val (.int (Int32.ofNat k)), .val (.int (1 : Int32)), .val (.int (Int32.ofNat jj)), .unset, .unset, .unset, .unset, .unset, .unset, .unset, .unset] [(.int (Int32.ofNat jj))])) (fun _ kz => XS.iload X0.here hx rfl (hb hby at_58) rfl  kz) ?_
        refine Goes.step (T' := s₁) (g' := (mkF m 65 #[.val (.int p0), .val (.int p1), .val (.int p2), .val (.int p3), .val (.int p4), .val (.int p5), .val (.int (Int32.ofNat k)), .val (.int (1 : Int32)), .val (.int (Int32.ofNat jj)), .unset, .unset, .unset, .unset, .unset, .unset, .unset, .unset] [(.int (Int32.ofNat jj))])) (fun _ kz => XS.goto X0.here hx rfl (pc0 := 60) (pc' := 65) rfl (hb hby at_60) (by decide) (by decide) kz) ?_
        refine Goes.step (T' := s₁) (g' := (mkF m 67 #[.val (.int p0), .val (.int p1), .val (.int p2), .val (.int p3), .val (.int p4), .val (.int p5), .val (.int (Int32.ofNat k)), .val (.int (1 : Int32)), .val (.int (Int32.ofNat jj)), .val (.int (Int32.ofNat jj)), .unset, .unset, .unset, .unset, .unset, .unset, .unset] [])) (fun _ kz => XS.istore X0.here hx rfl (hb hby at_65) rfl (l' := #[.val (.int p0), .val (.int p1), .val (.int p2), .val (.int p3), .val (.int p4), .val (.int p5), .val (.int (Int32.ofNat k)), .val (.int (1 : Int32)), .val (.int (Int32.ofNat jj)), .val (.int (Int32.ofNat jj)), .unset, .unset, .unset, .unset, .unset, .unset, .unset]) rfl kz) ?_
        exact J1 ((1 : Int32)) ((Int32.ofNat jj)) (jj) (Or.inr ⟨rfl, rfl, hj1, hj2⟩) _ _ _ (X0.mono (by decide) (by decide)) e0 N0 K0 O0 
  clear N0 K0 O0
  intro hp pt il hC T171 h171 locs171 X171 e171 N0 K0 O0 
  have hil : il ≤ k := by rcases hC with ⟨-, -, h⟩ | ⟨-, -, -, h⟩ <;> omega
  refine Goes.step (T' := T171) (g' := (mkF m 68 #[.val (.int p0), .val (.int p1), .val (.int p2), .val (.int p3), .val (.int p4), .val (.int p5), .val (.int (Int32.ofNat k)), .val (.int hp), .val (.int pt), .val (.int (Int32.ofNat il)), .unset, .unset, .unset, .unset, .unset, .unset, .unset] [(.int p2)])) (fun _ kz => XS.iloadN X171.here hx rfl (hb hby at_67) rfl  kz) ?_
  refine Goes.step (T' := T171) (g' := (mkF m 70 #[.val (.int p0), .val (.int p1), .val (.int p2), .val (.int p3), .val (.int p4), .val (.int p5), .val (.int (Int32.ofNat k)), .val (.int hp), .val (.int pt), .val (.int (Int32.ofNat il)), .unset, .unset, .unset, .unset, .unset, .unset, .unset] [(.int (2147483647 : Int32)), (.int p2)])) (X171.ldcInt hx hown (mvT hZ (hw _ (List.mem_of_getElem? (i := 0) rfl))) (g := (mkF m 68 #[.val (.int p0), .val (.int p1), .val (.int p2), .val (.int p3), .val (.int p4), .val (.int p5), .val (.int (Int32.ofNat k)), .val (.int hp), .val (.int pt), .val (.int (Int32.ofNat il)), .unset, .unset, .unset, .unset, .unset, .unset, .unset] [(.int p2)])) rfl (hb hby at_68)) ?_
  refine Goes.step (T' := T171) (g' := (mkF m 71 #[.val (.int p0), .val (.int p1), .val (.int p2), .val (.int p3), .val (.int p4), .val (.int p5), .val (.int (Int32.ofNat k)), .val (.int hp), .val (.int pt), .val (.int (Int32.ofNat il)), .unset, .unset, .unset, .unset, .unset, .unset, .unset] [(.int (p2 &&& (2147483647 : Int32)))])) (fun _ kz => XS.iand X171.here hx rfl (hb hby at_70) rfl kz) ?_
  refine Goes.step (T' := T171) (g' := (mkF m 73 #[.val (.int p0), .val (.int p1), .val (.int p2), .val (.int p3), .val (.int p4), .val (.int p5), .val (.int (Int32.ofNat k)), .val (.int hp), .val (.int pt), .val (.int (Int32.ofNat il)), .unset, .unset, .unset, .unset, .unset, .unset, .unset] [(.int (Int32.ofNat il)), (.int (p2 &&& (2147483647 : Int32)))])) (fun _ kz => XS.iload X171.here hx rfl (hb hby at_71) rfl  kz) ?_
  refine Goes.step (T' := T171) (g' := (mkF m 74 #[.val (.int p0), .val (.int p1), .val (.int p2), .val (.int p3), .val (.int p4), .val (.int p5), .val (.int (Int32.ofNat k)), .val (.int hp), .val (.int pt), .val (.int (Int32.ofNat il)), .unset, .unset, .unset, .unset, .unset, .unset, .unset] [(.int (1 : Int32)), (.int (Int32.ofNat il)), (.int (p2 &&& (2147483647 : Int32)))])) (fun _ kz => XS.iconst X171.here hx rfl (hb hby at_73) kz) ?_
  refine Goes.step (T' := T171) (g' := (mkF m 75 #[.val (.int p0), .val (.int p1), .val (.int p2), .val (.int p3), .val (.int p4), .val (.int p5), .val (.int (Int32.ofNat k)), .val (.int hp), .val (.int pt), .val (.int (Int32.ofNat il)), .unset, .unset, .unset, .unset, .unset, .unset, .unset] [(.int ((Int32.ofNat il) + (1 : Int32))), (.int (p2 &&& (2147483647 : Int32)))])) (fun _ kz => XS.iadd X171.here hx rfl (hb hby at_74) rfl kz) ?_
  refine Goes.step (T' := T171) (g' := (mkF m 76 #[.val (.int p0), .val (.int p1), .val (.int p2), .val (.int p3), .val (.int p4), .val (.int p5), .val (.int (Int32.ofNat k)), .val (.int hp), .val (.int pt), .val (.int (Int32.ofNat il)), .unset, .unset, .unset, .unset, .unset, .unset, .unset] [(.int ((p2 &&& (2147483647 : Int32)) % ((Int32.ofNat il) + (1 : Int32))))])) (fun _ kz => iremM X171 hx rfl (hb hby at_75) rfl (own_ne0 (m := il + 1) (by omega) (by omega) (inc_ofNat il).symm) kz) ?_
  obtain ⟨zz, hzz, hzn⟩ := own_zz (il := il) (by omega) p2
  rw [hzn]
  refine Goes.step (T' := T171) (g' := (mkF m 78 #[.val (.int p0), .val (.int p1), .val (.int p2), .val (.int p3), .val (.int p4), .val (.int p5), .val (.int (Int32.ofNat k)), .val (.int hp), .val (.int pt), .val (.int (Int32.ofNat il)), .val (.int (Int32.ofNat zz)), .unset, .unset, .unset, .unset, .unset, .unset] [])) (fun _ kz => XS.istore X171.here hx rfl (hb hby at_76) rfl (l' := #[.val (.int p0), .val (.int p1), .val (.int p2), .val (.int p3), .val (.int p4), .val (.int p5), .val (.int (Int32.ofNat k)), .val (.int hp), .val (.int pt), .val (.int (Int32.ofNat il)), .val (.int (Int32.ofNat zz)), .unset, .unset, .unset, .unset, .unset, .unset]) rfl kz) ?_
  refine Goes.step (T' := T171) (g' := (mkF m 80 #[.val (.int p0), .val (.int p1), .val (.int p2), .val (.int p3), .val (.int p4), .val (.int p5), .val (.int (Int32.ofNat k)), .val (.int hp), .val (.int pt), .val (.int (Int32.ofNat il)), .val (.int (Int32.ofNat zz)), .unset, .unset, .unset, .unset, .unset, .unset] [(.int (49 : Int32))])) (fun _ kz => XS.bipush X171.here hx rfl (hb hby at_78) kz) ?_
  refine Goes.step (T' := T171) (g' := (mkF m 81 #[.val (.int p0), .val (.int p1), .val (.int p2), .val (.int p3), .val (.int p4), .val (.int p5), .val (.int (Int32.ofNat k)), .val (.int hp), .val (.int pt), .val (.int (Int32.ofNat il)), .val (.int (Int32.ofNat zz)), .unset, .unset, .unset, .unset, .unset, .unset] [(.int p3), (.int (49 : Int32))])) (fun _ kz => XS.iloadN X171.here hx rfl (hb hby at_80) rfl  kz) ?_
  refine Goes.step (T' := T171) (g' := (mkF m 83 #[.val (.int p0), .val (.int p1), .val (.int p2), .val (.int p3), .val (.int p4), .val (.int p5), .val (.int (Int32.ofNat k)), .val (.int hp), .val (.int pt), .val (.int (Int32.ofNat il)), .val (.int (Int32.ofNat zz)), .unset, .unset, .unset, .unset, .unset, .unset] [(.int (2147483647 : Int32)), (.int p3), (.int (49 : Int32))])) (X171.ldcInt hx hown (mvT hZ (hw _ (List.mem_of_getElem? (i := 0) rfl))) (g := (mkF m 81 #[.val (.int p0), .val (.int p1), .val (.int p2), .val (.int p3), .val (.int p4), .val (.int p5), .val (.int (Int32.ofNat k)), .val (.int hp), .val (.int pt), .val (.int (Int32.ofNat il)), .val (.int (Int32.ofNat zz)), .unset, .unset, .unset, .unset, .unset, .unset] [(.int p3), (.int (49 : Int32))])) rfl (hb hby at_81)) ?_
  refine Goes.step (T' := T171) (g' := (mkF m 84 #[.val (.int p0), .val (.int p1), .val (.int p2), .val (.int p3), .val (.int p4), .val (.int p5), .val (.int (Int32.ofNat k)), .val (.int hp), .val (.int pt), .val (.int (Int32.ofNat il)), .val (.int (Int32.ofNat zz)), .unset, .unset, .unset, .unset, .unset, .unset] [(.int (p3 &&& (2147483647 : Int32))), (.int (49 : Int32))])) (fun _ kz => XS.iand X171.here hx rfl (hb hby at_83) rfl kz) ?_
  refine Goes.step (T' := T171) (g' := (mkF m 86 #[.val (.int p0), .val (.int p1), .val (.int p2), .val (.int p3), .val (.int p4), .val (.int p5), .val (.int (Int32.ofNat k)), .val (.int hp), .val (.int pt), .val (.int (Int32.ofNat il)), .val (.int (Int32.ofNat zz)), .unset, .unset, .unset, .unset, .unset, .unset] [(.int (9 : Int32)), (.int (p3 &&& (2147483647 : Int32))), (.int (49 : Int32))])) (fun _ kz => XS.bipush X171.here hx rfl (hb hby at_84) kz) ?_
  refine Goes.step (T' := T171) (g' := (mkF m 87 #[.val (.int p0), .val (.int p1), .val (.int p2), .val (.int p3), .val (.int p4), .val (.int p5), .val (.int (Int32.ofNat k)), .val (.int hp), .val (.int pt), .val (.int (Int32.ofNat il)), .val (.int (Int32.ofNat zz)), .unset, .unset, .unset, .unset, .unset, .unset] [(.int ((p3 &&& (2147483647 : Int32)) % (9 : Int32))), (.int (49 : Int32))])) (fun _ kz => iremM X171 hx rfl (hb hby at_86) rfl (by decide) kz) ?_
  refine Goes.step (T' := T171) (g' := (mkF m 88 #[.val (.int p0), .val (.int p1), .val (.int p2), .val (.int p3), .val (.int p4), .val (.int p5), .val (.int (Int32.ofNat k)), .val (.int hp), .val (.int pt), .val (.int (Int32.ofNat il)), .val (.int (Int32.ofNat zz)), .unset, .unset, .unset, .unset, .unset, .unset] [(.int ((49 : Int32) + ((p3 &&& (2147483647 : Int32)) % (9 : Int32))))])) (fun _ kz => XS.iadd X171.here hx rfl (hb hby at_87) rfl kz) ?_
  refine Goes.step (T' := T171) (g' := (mkF m 89 #[.val (.int p0), .val (.int p1), .val (.int p2), .val (.int p3), .val (.int p4), .val (.int p5), .val (.int (Int32.ofNat k)), .val (.int hp), .val (.int pt), .val (.int (Int32.ofNat il)), .val (.int (Int32.ofNat zz)), .unset, .unset, .unset, .unset, .unset, .unset] [(.int (((49 : Int32) + ((p3 &&& (2147483647 : Int32)) % (9 : Int32))).toUInt32.toUInt16.toUInt32.toInt32))])) (fun _ kz => XS.i2c X171.here hx rfl (hb hby at_88) rfl kz) ?_
  obtain ⟨ld, hldn, hld⟩ := own_ld p3
  rw [hldn]
  refine Goes.step (T' := T171) (g' := (mkF m 91 #[.val (.int p0), .val (.int p1), .val (.int p2), .val (.int p3), .val (.int p4), .val (.int p5), .val (.int (Int32.ofNat k)), .val (.int hp), .val (.int pt), .val (.int (Int32.ofNat il)), .val (.int (Int32.ofNat zz)), .val (.int ld), .unset, .unset, .unset, .unset, .unset] [])) (fun _ kz => XS.istore X171.here hx rfl (hb hby at_89) rfl (l' := #[.val (.int p0), .val (.int p1), .val (.int p2), .val (.int p3), .val (.int p4), .val (.int p5), .val (.int (Int32.ofNat k)), .val (.int hp), .val (.int pt), .val (.int (Int32.ofNat il)), .val (.int (Int32.ofNat zz)), .val (.int ld), .unset, .unset, .unset, .unset, .unset]) rfl kz) ?_
  refine Goes.step (T' := T171) (g' := (mkF m 93 #[.val (.int p0), .val (.int p1), .val (.int p2), .val (.int p3), .val (.int p4), .val (.int p5), .val (.int (Int32.ofNat k)), .val (.int hp), .val (.int pt), .val (.int (Int32.ofNat il)), .val (.int (Int32.ofNat zz)), .val (.int ld), .unset, .unset, .unset, .unset, .unset] [(.int (Int32.ofNat k))])) (fun _ kz => XS.iload X171.here hx rfl (hb hby at_91) rfl  kz) ?_
  obtain ⟨T174, h174, kc174, X174, e174, Ex174, A174, st174⟩ := newP X171 hx hZ (hw _ (List.mem_of_getElem? (i := 1) rfl)) e171 (g := (mkF m 93 #[.val (.int p0), .val (.int p1), .val (.int p2), .val (.int p3), .val (.int p4), .val (.int p5), .val (.int (Int32.ofNat k)), .val (.int hp), .val (.int pt), .val (.int (Int32.ofNat il)), .val (.int (Int32.ofNat zz)), .val (.int ld), .unset, .unset, .unset, .unset, .unset] [(.int (Int32.ofNat k))])) rfl (hb hby at_93) rfl (own_nn (by omega)) (cap := 44) (by rw [own_clamp (by omega)]; exact hk8) (by decide) (by decide) (by decide)
  obtain ⟨b174, gg174⟩ : ∃ z, z = h171.size := ⟨_, rfl⟩
  rw [← gg174] at A174 st174
  have g_b174 : n0 ≤ b174 := Nat.le_trans (own_n0 O0) (Nat.le_of_eq gg174.symm)
  have sz_b174 : h0.size ≤ b174 := Nat.le_trans K0.1 (Nat.le_of_eq gg174.symm)
  replace O0 := O0.ext Ex174
  replace K0 := K0.ext Ex174
  have V_b174 : Arv Z h174 b174 kc174 .char (Int32.ofNat k) [] (.int (0 : Int32)) := Arv.new A174 (own_nn (by omega))
  refine Goes.step (T' := T174) (g' := (mkF m 95 #[.val (.int p0), .val (.int p1), .val (.int p2), .val (.int p3), .val (.int p4), .val (.int p5), .val (.int (Int32.ofNat k)), .val (.int hp), .val (.int pt), .val (.int (Int32.ofNat il)), .val (.int (Int32.ofNat zz)), .val (.int ld), .unset, .unset, .unset, .unset, .unset] [(.ref b174)])) st174 ?_
  replace V_b174 : Arv Z h174 b174 kc174 .char (Int32.ofNat k) (List.replicate 44 (Value.int (0 : Int32))) (.int (0 : Int32)) := V_b174.pad (pad_rep [] (.int (0 : Int32)) 44)
  refine Goes.step (T' := T174) (g' := (mkF m 97 #[.val (.int p0), .val (.int p1), .val (.int p2), .val (.int p3), .val (.int p4), .val (.int p5), .val (.int (Int32.ofNat k)), .val (.int hp), .val (.int pt), .val (.int (Int32.ofNat il)), .val (.int (Int32.ofNat zz)), .val (.int ld), .val (.ref b174), .unset, .unset, .unset, .unset] [])) (fun _ kz => XS.astore X174.here hx rfl (hb hby at_95) rfl rfl (l' := #[.val (.int p0), .val (.int p1), .val (.int p2), .val (.int p3), .val (.int p4), .val (.int p5), .val (.int (Int32.ofNat k)), .val (.int hp), .val (.int pt), .val (.int (Int32.ofNat il)), .val (.int (Int32.ofNat zz)), .val (.int ld), .val (.ref b174), .unset, .unset, .unset, .unset]) rfl kz) ?_
  refine Goes.step (T' := T174) (g' := (mkF m 99 #[.val (.int p0), .val (.int p1), .val (.int p2), .val (.int p3), .val (.int p4), .val (.int p5), .val (.int (Int32.ofNat k)), .val (.int hp), .val (.int pt), .val (.int (Int32.ofNat il)), .val (.int (Int32.ofNat zz)), .val (.int ld), .val (.ref b174), .unset, .unset, .unset, .unset] [(.ref b174)])) (fun _ kz => XS.aload X174.here hx rfl (hb hby at_97) rfl rfl kz) ?_
  refine Goes.step (T' := T174) (g' := (mkF m 101 #[.val (.int p0), .val (.int p1), .val (.int p2), .val (.int p3), .val (.int p4), .val (.int p5), .val (.int (Int32.ofNat k)), .val (.int hp), .val (.int pt), .val (.int (Int32.ofNat il)), .val (.int (Int32.ofNat zz)), .val (.int ld), .val (.ref b174), .unset, .unset, .unset, .unset] [(.int (Int32.ofNat zz)), (.ref b174)])) (fun _ kz => XS.iload X174.here hx rfl (hb hby at_99) rfl  kz) ?_
  refine Goes.step (T' := T174) (g' := (mkF m 103 #[.val (.int p0), .val (.int p1), .val (.int p2), .val (.int p3), .val (.int p4), .val (.int p5), .val (.int (Int32.ofNat k)), .val (.int hp), .val (.int pt), .val (.int (Int32.ofNat il)), .val (.int (Int32.ofNat zz)), .val (.int ld), .val (.ref b174), .unset, .unset, .unset, .unset] [(.int pt), (.int (Int32.ofNat zz)), (.ref b174)])) (fun _ kz => XS.iload X174.here hx rfl (hb hby at_101) rfl  kz) ?_
  refine Goes.step (T' := T174) (g' := (mkF m 105 #[.val (.int p0), .val (.int p1), .val (.int p2), .val (.int p3), .val (.int p4), .val (.int p5), .val (.int (Int32.ofNat k)), .val (.int hp), .val (.int pt), .val (.int (Int32.ofNat il)), .val (.int (Int32.ofNat zz)), .val (.int ld), .val (.ref b174), .unset, .unset, .unset, .unset] [(.int ld), (.int pt), (.int (Int32.ofNat zz)), (.ref b174)])) (fun _ kz => XS.iload X174.here hx rfl (hb hby at_103) rfl  kz) ?_
  refine Goes.step (T' := T174) (g' := (mkF m 107 #[.val (.int p0), .val (.int p1), .val (.int p2), .val (.int p3), .val (.int p4), .val (.int p5), .val (.int (Int32.ofNat k)), .val (.int hp), .val (.int pt), .val (.int (Int32.ofNat il)), .val (.int (Int32.ofNat zz)), .val (.int ld), .val (.ref b174), .unset, .unset, .unset, .unset] [(.int p4), (.int ld), (.int pt), (.int (Int32.ofNat zz)), (.ref b174)])) (fun _ kz => XS.iload X174.here hx rfl (hb hby at_105) rfl  kz) ?_
  obtain ⟨_, _, ⟨T175, L175, k175, n175⟩, -, X175, ⟨Lc175, hQ175, l175, y175, z175⟩, st175⟩ := Jvm.LawKit.callS X174 hx (y := (⟨"com/example/tariff/tariff/core/decimal/PlainDecimalIsBoundedPinLaw", "fill", "([CIICI)V"⟩ : MethodName)) hown (mvT hZ (hw _ (List.mem_of_getElem? (i := 2) rfl))) (mvT hZ (hw _ (List.mem_of_getElem? (i := 3) rfl))) (mvT hZ (hw _ (List.mem_of_getElem? (i := 4) rfl))) (mvT hZ (hw _ (List.mem_of_getElem? (i := 5) rfl))) (by decide) (backOf (W := 0) (rm_fill l Z a0 hw [] b174 (Int32.ofNat zz) pt ld p4 (kc174) ((Int32.ofNat k)) h174 n0 O0  V_b174 g_b174) hZ (hw _ (List.mem_of_getElem? (i := 5) rfl)) (hw _ (List.mem_of_getElem? (i := 4) rfl)) (by decide) (by decide)) (g := (mkF m 107 #[.val (.int p0), .val (.int p1), .val (.int p2), .val (.int p3), .val (.int p4), .val (.int p5), .val (.int (Int32.ofNat k)), .val (.int hp), .val (.int pt), .val (.int (Int32.ofNat il)), .val (.int (Int32.ofNat zz)), .val (.int ld), .val (.ref b174), .unset, .unset, .unset, .unset] [(.int p4), (.int ld), (.int pt), (.int (Int32.ofNat zz)), (.ref b174)])) rfl (by rw [hml]; rfl) (argsL := [(.ref b174), (.int (Int32.ofNat zz)), (.int pt), (.int ld), (.int p4)]) (rest := []) (lenOf pd_10 rfl) rfl (by show 2 * 0 + _ ≤ _; exact Nat.le_of_eq rfl) (hb hby at_107) (fun _ _ => ⟨rfl, e174, (by decide : 1 + 0 ≤ _), (by decide : 44 + 0 ≤ _)⟩)
  dsimp only [Pt.U, Pt.locs, Pt.cells, Pt.slots] at X175 l175 y175 z175 st175 hQ175
  subst l175 y175 z175
  obtain ⟨h175, e175⟩ : ∃ z, T175.heap = z := ⟨_, rfl⟩
  rw [e175] at hQ175
  obtain ⟨rfl, Nq175, Kq175, V_b174_q175⟩ := hQ175
  replace N0 := Fr.app N0 Nq175
  clear V_b174
  replace O0 := O0.keep Kq175 (allS g_b174 all0)
  replace K0 := K0.trans Kq175 (allS (Or.inr sz_b174) all0)
  have V_b174 := V_b174_q175
  refine Goes.step (T' := T175) (g' := (mkF m 110 #[.val (.int p0), .val (.int p1), .val (.int p2), .val (.int p3), .val (.int p4), .val (.int p5), .val (.int (Int32.ofNat k)), .val (.int hp), .val (.int pt), .val (.int (Int32.ofNat il)), .val (.int (Int32.ofNat zz)), .val (.int ld), .val (.ref b174), .unset, .unset, .unset, .unset] [])) st175 ?_
  replace V_b174 : Arv Z h175 b174 kc174 .char (Int32.ofNat k) (((FL (Int32.ofNat zz) pt ld p4).take k).map Value.int) (.int (0 : Int32)) := own_takeV V_b174 k (by rw [own_clamp (by omega)]; exact Nat.le_refl _)
  have hcl : ((FL (Int32.ofNat zz) pt ld p4).take k).length = k := fl_len hk8
  have hcb := fl_all (s := p4) hC hk8 hzz hld
  have hix := fl_IX (s := p4) hC hk8 hzz hld
  have hlz := fl_LZ (s := p4) hC hk8 hzz hld
  obtain ⟨cs, hcs⟩ : ∃ z, z = ((FL (Int32.ofNat zz) pt ld p4).take k) := ⟨_, rfl⟩
  rw [← hcs] at V_b174 hcl hcb hix hlz
  obtain ⟨T176, h176, X176, e176, Ex176, A176, D176, -, st176⟩ := newO X175 hx hZ hown (hw _ (List.mem_of_getElem? (i := 12) rfl)) (hw _ (List.mem_of_getElem? (i := 13) rfl)) (hw _ (List.mem_of_getElem? (i := 14) rfl)) e175 (g := (mkF m 110 #[.val (.int p0), .val (.int p1), .val (.int p2), .val (.int p3), .val (.int p4), .val (.int p5), .val (.int (Int32.ofNat k)), .val (.int hp), .val (.int pt), .val (.int (Int32.ofNat il)), .val (.int (Int32.ofNat zz)), .val (.int ld), .val (.ref b174), .unset, .unset, .unset, .unset] [])) rfl (hb hby at_110) (by decide) (by decide)
  obtain ⟨b176, gg176⟩ : ∃ z, z = h175.size := ⟨_, rfl⟩
  rw [← gg176] at A176 D176 st176
  have g_b176 : n0 ≤ b176 := Nat.le_trans (own_n0 O0) (Nat.le_of_eq gg176.symm)
  have sz_b176 : h0.size ≤ b176 := Nat.le_trans K0.1 (Nat.le_of_eq gg176.symm)
  have ne_b174_b176 : b174 ≠ b176 := Nat.ne_of_lt (Nat.lt_of_lt_of_le V_b174.lt (Nat.le_of_eq gg176.symm))
  replace V_b174 := V_b174.ext Ex176
  replace O0 := O0.ext Ex176
  replace K0 := K0.ext Ex176
  have E_b176 := A176
  have F_b176_coder : Fld Z h176 b176 "java/lang/String" "coder" "B" (.int (0 : Int32)) := D176 (Or.inr (hw _ (List.mem_of_getElem? (i := 38) rfl))) (ty := .byte) (by decide)
  have F_b176_value : Fld Z h176 b176 "java/lang/String" "value" "[B" .null := D176 (Or.inr (hw _ (List.mem_of_getElem? (i := 40) rfl))) (ty := (.array .byte)) (by decide)
  refine Goes.step (T' := T176) (g' := (mkF m 113 #[.val (.int p0), .val (.int p1), .val (.int p2), .val (.int p3), .val (.int p4), .val (.int p5), .val (.int (Int32.ofNat k)), .val (.int hp), .val (.int pt), .val (.int (Int32.ofNat il)), .val (.int (Int32.ofNat zz)), .val (.int ld), .val (.ref b174), .unset, .unset, .unset, .unset] [(.ref b176)])) st176 ?_
  clear D176 A176
  refine Goes.step (T' := T176) (g' := (mkF m 114 #[.val (.int p0), .val (.int p1), .val (.int p2), .val (.int p3), .val (.int p4), .val (.int p5), .val (.int (Int32.ofNat k)), .val (.int hp), .val (.int pt), .val (.int (Int32.ofNat il)), .val (.int (Int32.ofNat zz)), .val (.int ld), .val (.ref b174), .unset, .unset, .unset, .unset] [(.ref b176), (.ref b176)])) (fun _ kz => XS.dup X176.here hx rfl (hb hby at_113) rfl rfl kz) ?_
  refine Goes.step (T' := T176) (g' := (mkF m 116 #[.val (.int p0), .val (.int p1), .val (.int p2), .val (.int p3), .val (.int p4), .val (.int p5), .val (.int (Int32.ofNat k)), .val (.int hp), .val (.int pt), .val (.int (Int32.ofNat il)), .val (.int (Int32.ofNat zz)), .val (.int ld), .val (.ref b174), .unset, .unset, .unset, .unset] [(.ref b174), (.ref b176), (.ref b176)])) (fun _ kz => XS.aload X176.here hx rfl (hb hby at_114) rfl rfl kz) ?_
  obtain ⟨_, _, ⟨T177, L177, k177, n177⟩, -, X177, ⟨Lc177, hQ177, l177, y177, z177⟩, st177⟩ := X176.specialBack hx (y := (⟨"java/lang/String", "<init>", "([C)V"⟩ : MethodName)) rfl hown (mvT hZ (hw _ (List.mem_of_getElem? (i := 15) rfl))) (mvT hZ (hw _ (List.mem_of_getElem? (i := 16) rfl))) (mvT hZ (hw _ (List.mem_of_getElem? (i := 17) rfl))) (by decide) (StrChars.Road.backV (W := 1) hZ (own_wBV hw) (kI := 4) (hw _ (List.mem_of_getElem? (i := 13) rfl)) (cs := cs) (bs := (cs).map (fun c => c.toInt8.toInt32)) (n := k) g_b176 (own_n0 O0) E_b176 F_b176_value F_b176_coder V_b174 (Scs.ext O0.2) hz_Scs hcl rfl (by omega) (by omega) hcb rfl (by decide) (by decide)) (g := (mkF m 116 #[.val (.int p0), .val (.int p1), .val (.int p2), .val (.int p3), .val (.int p4), .val (.int p5), .val (.int (Int32.ofNat k)), .val (.int hp), .val (.int pt), .val (.int (Int32.ofNat il)), .val (.int (Int32.ofNat zz)), .val (.int ld), .val (.ref b174), .unset, .unset, .unset, .unset] [(.ref b174), (.ref b176), (.ref b176)])) rfl (by rw [hml]; rfl) (Steps.refl _) (a := b176) (argsL := [(.ref b174)]) (rest := [(.ref b176)]) (lenOf pd_11 rfl) rfl (by show 2 * 0 + _ ≤ _; exact Nat.le_of_eq rfl) (hb hby at_116) (fun _ _ => ⟨rfl, e176, (by decide : 2 + 1 ≤ _), (show 48 + k ≤ 256 by omega)⟩)
  dsimp only [Pt.U, Pt.locs, Pt.cells, Pt.slots] at X177 l177 y177 z177 st177 hQ177
  subst l177 y177 z177
  obtain ⟨h177, e177⟩ : ∃ z, T177.heap = z := ⟨_, rfl⟩
  rw [e177] at hQ177
  obtain ⟨rfl, Nq177, Kq177, E_q177, Fc_q177, t177, kb177, gt177, fr177, net177, Fv_q177, V_q177⟩ := hQ177
  replace N0 := Fr.app N0 Nq177
  replace X177 := X177.mono (Nat.le_refl _) (show 48 + k ≤ 92 by omega)
  rw [List.map_map] at V_q177
  have G_q177 : SX Z h177 b176 (cs) := ⟨E_q177, Fc_q177, hcb, _, _, Fv_q177, (by rw [hcl]; exact V_q177)⟩
  replace V_b174 := V_b174.keep Kq177 (ninS ne_b174_b176 nin0)
  clear E_b176
  clear F_b176_coder
  clear F_b176_value
  replace O0 := O0.keep Kq177 (allS g_b176 all0)
  replace K0 := K0.trans Kq177 (allS (Or.inr sz_b176) all0)
  have E_b176 := E_q177
  have G_b176 := G_q177
  refine Goes.run (T' := T177) (g' := (mkF m 119 #[.val (.int p0), .val (.int p1), .val (.int p2), .val (.int p3), .val (.int p4), .val (.int p5), .val (.int (Int32.ofNat k)), .val (.int hp), .val (.int pt), .val (.int (Int32.ofNat il)), .val (.int (Int32.ofNat zz)), .val (.int ld), .val (.ref b174), .unset, .unset, .unset, .unset] [(.ref b176)])) st177 ?_
  refine Goes.step (T' := T177) (g' := (mkF m 121 #[.val (.int p0), .val (.int p1), .val (.int p2), .val (.int p3), .val (.int p4), .val (.int p5), .val (.int (Int32.ofNat k)), .val (.int hp), .val (.int pt), .val (.int (Int32.ofNat il)), .val (.int (Int32.ofNat zz)), .val (.int ld), .val (.ref b174), .val (.ref b176), .unset, .unset, .unset] [])) (fun _ kz => XS.astore X177.here hx rfl (hb hby at_119) rfl rfl (l' := #[.val (.int p0), .val (.int p1), .val (.int p2), .val (.int p3), .val (.int p4), .val (.int p5), .val (.int (Int32.ofNat k)), .val (.int hp), .val (.int pt), .val (.int (Int32.ofNat il)), .val (.int (Int32.ofNat zz)), .val (.int ld), .val (.ref b174), .val (.ref b176), .unset, .unset, .unset]) rfl kz) ?_
  refine Goes.step (T' := T177) (g' := (mkF m 123 #[.val (.int p0), .val (.int p1), .val (.int p2), .val (.int p3), .val (.int p4), .val (.int p5), .val (.int (Int32.ofNat k)), .val (.int hp), .val (.int pt), .val (.int (Int32.ofNat il)), .val (.int (Int32.ofNat zz)), .val (.int ld), .val (.ref b174), .val (.ref b176), .unset, .unset, .unset] [(.int (Int32.ofNat il))])) (fun _ kz => XS.iload X177.here hx rfl (hb hby at_121) rfl  kz) ?_
  refine Goes.step (T' := T177) (g' := (mkF m 125 #[.val (.int p0), .val (.int p1), .val (.int p2), .val (.int p3), .val (.int p4), .val (.int p5), .val (.int (Int32.ofNat k)), .val (.int hp), .val (.int pt), .val (.int (Int32.ofNat il)), .val (.int (Int32.ofNat zz)), .val (.int ld), .val (.ref b174), .val (.ref b176), .unset, .unset, .unset] [(.int (Int32.ofNat zz)), (.int (Int32.ofNat il))])) (fun _ kz => XS.iload X177.here hx rfl (hb hby at_123) rfl  kz) ?_
  refine Goes.step (T' := T177) (g' := (mkF m 126 #[.val (.int p0), .val (.int p1), .val (.int p2), .val (.int p3), .val (.int p4), .val (.int p5), .val (.int (Int32.ofNat k)), .val (.int hp), .val (.int pt), .val (.int (Int32.ofNat il)), .val (.int (Int32.ofNat zz)), .val (.int ld), .val (.ref b174), .val (.ref b176), .unset, .unset, .unset] [(.int ((Int32.ofNat il) - (Int32.ofNat zz)))])) (fun _ kz => XS.isub X177.here hx rfl (hb hby at_125) rfl kz) ?_
  refine Goes.step (T' := T177) (g' := (mkF m 128 #[.val (.int p0), .val (.int p1), .val (.int p2), .val (.int p3), .val (.int p4), .val (.int p5), .val (.int (Int32.ofNat k)), .val (.int hp), .val (.int pt), .val (.int (Int32.ofNat il)), .val (.int (Int32.ofNat zz)), .val (.int ld), .val (.ref b174), .val (.ref b176), .val (.int ((Int32.ofNat il) - (Int32.ofNat zz))), .unset, .unset] [])) (fun _ kz => XS.istore X177.here hx rfl (hb hby at_126) rfl (l' := #[.val (.int p0), .val (.int p1), .val (.int p2), .val (.int p3), .val (.int p4), .val (.int p5), .val (.int (Int32.ofNat k)), .val (.int hp), .val (.int pt), .val (.int (Int32.ofNat il)), .val (.int (Int32.ofNat zz)), .val (.int ld), .val (.ref b174), .val (.ref b176), .val (.int ((Int32.ofNat il) - (Int32.ofNat zz))), .unset, .unset]) rfl kz) ?_
  obtain ⟨rfl, rfl, hilk⟩ | ⟨rfl, rfl, hj1, hj2⟩ := hC
  ·
    refine Goes.step (T' := T177) (g' := (mkF m 130 #[.val (.int p0), .val (.int p1), .val (.int p2), .val (.int p3), .val (.int p4), .val (.int p5), .val (.int (Int32.ofNat k)), .val (.int (0 : Int32)), .val (.int (-1 : Int32)), .val (.int (Int32.ofNat il)), .val (.int (Int32.ofNat zz)), .val (.int ld), .val (.ref b174), .val (.ref b176), .val (.int ((Int32.ofNat il) - (Int32.ofNat zz))), .unset, .unset] [(.int (0 : Int32))])) (fun _ kz => XS.iload X177.here hx rfl (hb hby at_128) rfl  kz) ?_
    refine Goes.step (T' := T177) (g' := (mkF m 143 #[.val (.int p0), .val (.int p1), .val (.int p2), .val (.int p3), .val (.int p4), .val (.int p5), .val (.int (Int32.ofNat k)), .val (.int (0 : Int32)), .val (.int (-1 : Int32)), .val (.int (Int32.ofNat il)), .val (.int (Int32.ofNat zz)), .val (.int ld), .val (.ref b174), .val (.ref b176), .val (.int ((Int32.ofNat il) - (Int32.ofNat zz))), .unset, .unset] [])) (fun _ kz => XS.ifYes X177.here hx rfl (pc0 := 130) (pc' := 143) rfl (hb hby at_130) rfl ((if0 _ _).trans (teq (by decide : ((0 : Int32) = (0 : Int32)))).1) (by decide) (by decide) kz) ?_
    refine Goes.step (T' := T177) (g' := (mkF m 144 #[.val (.int p0), .val (.int p1), .val (.int p2), .val (.int p3), .val (.int p4), .val (.int p5), .val (.int (Int32.ofNat k)), .val (.int (0 : Int32)), .val (.int (-1 : Int32)), .val (.int (Int32.ofNat il)), .val (.int (Int32.ofNat zz)), .val (.int ld), .val (.ref b174), .val (.ref b176), .val (.int ((Int32.ofNat il) - (Int32.ofNat zz))), .unset, .unset] [(.int (0 : Int32))])) (fun _ kz => XS.iconst X177.here hx rfl (hb hby at_143) kz) ?_
    refine Goes.step (T' := T177) (g' := (mkF m 146 #[.val (.int p0), .val (.int p1), .val (.int p2), .val (.int p3), .val (.int p4), .val (.int p5), .val (.int (Int32.ofNat k)), .val (.int (0 : Int32)), .val (.int (-1 : Int32)), .val (.int (Int32.ofNat il)), .val (.int (Int32.ofNat zz)), .val (.int ld), .val (.ref b174), .val (.ref b176), .val (.int ((Int32.ofNat il) - (Int32.ofNat zz))), .val (.int (0 : Int32)), .unset] [])) (fun _ kz => XS.istore X177.here hx rfl (hb hby at_144) rfl (l' := #[.val (.int p0), .val (.int p1), .val (.int p2), .val (.int p3), .val (.int p4), .val (.int p5), .val (.int (Int32.ofNat k)), .val (.int (0 : Int32)), .val (.int (-1 : Int32)), .val (.int (Int32.ofNat il)), .val (.int (Int32.ofNat zz)), .val (.int ld), .val (.ref b174), .val (.ref b176), .val (.int ((Int32.ofNat il) - (Int32.ofNat zz))), .val (.int (0 : Int32)), .unset]) rfl kz) ?_
    refine Goes.step (T' := T177) (g' := (mkF m 148 #[.val (.int p0), .val (.int p1), .val (.int p2), .val (.int p3), .val (.int p4), .val (.int p5), .val (.int (Int32.ofNat k)), .val (.int (0 : Int32)), .val (.int (-1 : Int32)), .val (.int (Int32.ofNat il)), .val (.int (Int32.ofNat zz)), .val (.int ld), .val (.ref b174), .val (.ref b176), .val (.int ((Int32.ofNat il) - (Int32.ofNat zz))), .val (.int (0 : Int32)), .unset] [(.int ((Int32.ofNat il) - (Int32.ofNat zz)))])) (fun _ kz => XS.iload X177.here hx rfl (hb hby at_146) rfl  kz) ?_
    refine Goes.step (T' := T177) (g' := (mkF m 150 #[.val (.int p0), .val (.int p1), .val (.int p2), .val (.int p3), .val (.int p4), .val (.int p5), .val (.int (Int32.ofNat k)), .val (.int (0 : Int32)), .val (.int (-1 : Int32)), .val (.int (Int32.ofNat il)), .val (.int (Int32.ofNat zz)), .val (.int ld), .val (.ref b174), .val (.ref b176), .val (.int ((Int32.ofNat il) - (Int32.ofNat zz))), .val (.int (0 : Int32)), .unset] [(.int (20 : Int32)), (.int ((Int32.ofNat il) - (Int32.ofNat zz)))])) (fun _ kz => XS.bipush X177.here hx rfl (hb hby at_148) kz) ?_
    by_cases hc150_178 : (20 : Int32) < ((Int32.ofNat il) - (Int32.ofNat zz))
    ·
      refine Goes.step (T' := T177) (g' := (mkF m 164 #[.val (.int p0), .val (.int p1), .val (.int p2), .val (.int p3), .val (.int p4), .val (.int p5), .val (.int (Int32.ofNat k)), .val (.int (0 : Int32)), .val (.int (-1 : Int32)), .val (.int (Int32.ofNat il)), .val (.int (Int32.ofNat zz)), .val (.int ld), .val (.ref b174), .val (.ref b176), .val (.int ((Int32.ofNat il) - (Int32.ofNat zz))), .val (.int (0 : Int32)), .unset] [])) (fun _ kz => XS.icmpYes X177.here hx rfl (pc0 := 150) (pc' := 164) rfl (hb hby at_150) rfl (tlt hc150_178).2.2.1 (by decide) (by decide) kz) ?_
      refine Goes.step (T' := T177) (g' := (mkF m 165 #[.val (.int p0), .val (.int p1), .val (.int p2), .val (.int p3), .val (.int p4), .val (.int p5), .val (.int (Int32.ofNat k)), .val (.int (0 : Int32)), .val (.int (-1 : Int32)), .val (.int (Int32.ofNat il)), .val (.int (Int32.ofNat zz)), .val (.int ld), .val (.ref b174), .val (.ref b176), .val (.int ((Int32.ofNat il) - (Int32.ofNat zz))), .val (.int (0 : Int32)), .unset] [(.int (0 : Int32))])) (fun _ kz => XS.iconst X177.here hx rfl (hb hby at_164) kz) ?_
      refine Goes.step (T' := T177) (g' := (mkF m 167 #[.val (.int p0), .val (.int p1), .val (.int p2), .val (.int p3), .val (.int p4), .val (.int p5), .val (.int (Int32.ofNat k)), .val (.int (0 : Int32)), .val (.int (-1 : Int32)), .val (.int (Int32.ofNat il)), .val (.int (Int32.ofNat zz)), .val (.int ld), .val (.ref b174), .val (.ref b176), .val (.int ((Int32.ofNat il) - (Int32.ofNat zz))), .val (.int (0 : Int32)), .val (.int (0 : Int32))] [])) (fun _ kz => XS.istore X177.here hx rfl (hb hby at_165) rfl (l' := #[.val (.int p0), .val (.int p1), .val (.int p2), .val (.int p3), .val (.int p4), .val (.int p5), .val (.int (Int32.ofNat k)), .val (.int (0 : Int32)), .val (.int (-1 : Int32)), .val (.int (Int32.ofNat il)), .val (.int (Int32.ofNat zz)), .val (.int ld), .val (.ref b174), .val (.ref b176), .val (.int ((Int32.ofNat il) - (Int32.ofNat zz))), .val (.int (0 : Int32)), .val (.int (0 : Int32))]) rfl kz) ?_
      refine Goes.step (T' := T177) (g' := (mkF m 169 #[.val (.int p0), .val (.int p1), .val (.int p2), .val (.int p3), .val (.int p4), .val (.int p5), .val (.int (Int32.ofNat k)), .val (.int (0 : Int32)), .val (.int (-1 : Int32)), .val (.int (Int32.ofNat il)), .val (.int (Int32.ofNat zz)), .val (.int ld), .val (.ref b174), .val (.ref b176), .val (.int ((Int32.ofNat il) - (Int32.ofNat zz))), .val (.int (0 : Int32)), .val (.int (0 : Int32))] [(.ref b176)])) (fun _ kz => XS.aload X177.here hx rfl (hb hby at_167) rfl rfl kz) ?_
      obtain ⟨_, _, ⟨T179, L179, k179, n179⟩, -, X179, ⟨Lc179, hQ179, l179, y179, z179⟩, st179⟩ := Jvm.LawKit.callS X177 hx (y := (⟨"com/example/tariff/tariff/core/decimal/PlainDecimal", "isBounded", "(Ljava/lang/String;)Z"⟩ : MethodName)) hown (mvT hZ (hw _ (List.mem_of_getElem? (i := 41) rfl))) (mvT hZ (hw _ (List.mem_of_getElem? (i := 42) rfl))) (mvT hZ (hw _ (List.mem_of_getElem? (i := 43) rfl))) (mvT hZ (hw _ (List.mem_of_getElem? (i := 44) rfl))) (by decide) (backOf (W := 0) (rm_isB l Z a0 hw [] b176 (cs) h177 n0 O0 zcs Scs hz_Scs fmt Sfm hz_Sfm E_b176 G_b176 (by omega)) hZ (hw _ (List.mem_of_getElem? (i := 44) rfl)) (hw _ (List.mem_of_getElem? (i := 43) rfl)) (by decide) (by decide)) (g := (mkF m 169 #[.val (.int p0), .val (.int p1), .val (.int p2), .val (.int p3), .val (.int p4), .val (.int p5), .val (.int (Int32.ofNat k)), .val (.int (0 : Int32)), .val (.int (-1 : Int32)), .val (.int (Int32.ofNat il)), .val (.int (Int32.ofNat zz)), .val (.int ld), .val (.ref b174), .val (.ref b176), .val (.int ((Int32.ofNat il) - (Int32.ofNat zz))), .val (.int (0 : Int32)), .val (.int (0 : Int32))] [(.ref b176)])) rfl (by rw [hml]; rfl) (argsL := [(.ref b176)]) (rest := []) (lenOf pd_12 rfl) rfl (by show 2 * 0 + _ ≤ _; exact Nat.le_of_eq rfl) (hb hby at_169) (fun _ _ => ⟨rfl, e177, (by decide : 3 + 0 ≤ _), (by decide : 92 + 0 ≤ _)⟩)
      dsimp only [Pt.U, Pt.locs, Pt.cells, Pt.slots] at X179 l179 y179 z179 st179 hQ179
      subst l179 y179 z179
      obtain ⟨rfl, rfl, e179⟩ := hQ179
      replace N0 := Fr.app N0 (Fr.nil n0)
      refine Goes.step (T' := T179) (g' := (mkF m 172 #[.val (.int p0), .val (.int p1), .val (.int p2), .val (.int p3), .val (.int p4), .val (.int p5), .val (.int (Int32.ofNat k)), .val (.int (0 : Int32)), .val (.int (-1 : Int32)), .val (.int (Int32.ofNat il)), .val (.int (Int32.ofNat zz)), .val (.int ld), .val (.ref b174), .val (.ref b176), .val (.int ((Int32.ofNat il) - (Int32.ofNat zz))), .val (.int (0 : Int32)), .val (.int (0 : Int32))] [(.int (if (20 : Int32) < (Int32.ofNat (IX cs) - Int32.ofNat (LZ cs)) then 0 else if (20 : Int32) < (if IX cs = cs.length then 0 else Int32.ofNat cs.length - Int32.ofNat (IX cs) - 1) then 0 else 1))])) st179 ?_
      refine Goes.step (T' := T179) (g' := (mkF m 174 #[.val (.int p0), .val (.int p1), .val (.int p2), .val (.int p3), .val (.int p4), .val (.int p5), .val (.int (Int32.ofNat k)), .val (.int (0 : Int32)), .val (.int (-1 : Int32)), .val (.int (Int32.ofNat il)), .val (.int (Int32.ofNat zz)), .val (.int ld), .val (.ref b174), .val (.ref b176), .val (.int ((Int32.ofNat il) - (Int32.ofNat zz))), .val (.int (0 : Int32)), .val (.int (0 : Int32))] [(.int (0 : Int32)), (.int (if (20 : Int32) < (Int32.ofNat (IX cs) - Int32.ofNat (LZ cs)) then 0 else if (20 : Int32) < (if IX cs = cs.length then 0 else Int32.ofNat cs.length - Int32.ofNat (IX cs) - 1) then 0 else 1))])) (fun _ kz => XS.iload X179.here hx rfl (hb hby at_172) rfl  kz) ?_
      refine Goes.step (T' := T179) (g' := (mkF m 177 #[.val (.int p0), .val (.int p1), .val (.int p2), .val (.int p3), .val (.int p4), .val (.int p5), .val (.int (Int32.ofNat k)), .val (.int (0 : Int32)), .val (.int (-1 : Int32)), .val (.int (Int32.ofNat il)), .val (.int (Int32.ofNat zz)), .val (.int ld), .val (.ref b174), .val (.ref b176), .val (.int ((Int32.ofNat il) - (Int32.ofNat zz))), .val (.int (0 : Int32)), .val (.int (0 : Int32))] [])) (fun _ kz => XS.icmpNo X179.here hx rfl (hb hby at_174) rfl (teq (by rw [hix, hlz, if_pos hc150_178])).2 kz) ?_
      refine Goes.step (T' := T179) (g' := (mkF m 178 #[.val (.int p0), .val (.int p1), .val (.int p2), .val (.int p3), .val (.int p4), .val (.int p5), .val (.int (Int32.ofNat k)), .val (.int (0 : Int32)), .val (.int (-1 : Int32)), .val (.int (Int32.ofNat il)), .val (.int (Int32.ofNat zz)), .val (.int ld), .val (.ref b174), .val (.ref b176), .val (.int ((Int32.ofNat il) - (Int32.ofNat zz))), .val (.int (0 : Int32)), .val (.int (0 : Int32))] [(.int (1 : Int32))])) (fun _ kz => XS.iconst X179.here hx rfl (hb hby at_177) kz) ?_
      refine Goes.step (T' := T179) (g' := (mkF m 182 #[.val (.int p0), .val (.int p1), .val (.int p2), .val (.int p3), .val (.int p4), .val (.int p5), .val (.int (Int32.ofNat k)), .val (.int (0 : Int32)), .val (.int (-1 : Int32)), .val (.int (Int32.ofNat il)), .val (.int (Int32.ofNat zz)), .val (.int ld), .val (.ref b174), .val (.ref b176), .val (.int ((Int32.ofNat il) - (Int32.ofNat zz))), .val (.int (0 : Int32)), .val (.int (0 : Int32))] [(.int (1 : Int32))])) (fun _ kz => XS.goto X179.here hx rfl (pc0 := 178) (pc' := 182) rfl (hb hby at_178) (by decide) (by decide) kz) ?_
      obtain ⟨fs, hr, hrun, hended, hW, hsame⟩ := X179.leave (v := some (.int (nar .boolean (1 : Int32)))) (fun h => by rw [Bd.returns] at h; cases h)
      exact ⟨_, _, retN X179 hx (t := .boolean) Bd.returns (by simp) (hb hby at_182) hr, hrun, hended, _, _, rfl, (by show Q_law Z p0 p1 p2 p3 p4 p5 h0 n0 _ T179.heap _; rw [e179]; exact ⟨rfl, N0, K0⟩), ⟨_, rfl⟩, hW, hsame.mono (by decide) (by decide)⟩
    ·
      refine Goes.step (T' := T177) (g' := (mkF m 153 #[.val (.int p0), .val (.int p1), .val (.int p2), .val (.int p3), .val (.int p4), .val (.int p5), .val (.int (Int32.ofNat k)), .val (.int (0 : Int32)), .val (.int (-1 : Int32)), .val (.int (Int32.ofNat il)), .val (.int (Int32.ofNat zz)), .val (.int ld), .val (.ref b174), .val (.ref b176), .val (.int ((Int32.ofNat il) - (Int32.ofNat zz))), .val (.int (0 : Int32)), .unset] [])) (fun _ kz => XS.icmpNo X177.here hx rfl (hb hby at_150) rfl (flt hc150_178).2.2.1 kz) ?_
      refine Goes.step (T' := T177) (g' := (mkF m 155 #[.val (.int p0), .val (.int p1), .val (.int p2), .val (.int p3), .val (.int p4), .val (.int p5), .val (.int (Int32.ofNat k)), .val (.int (0 : Int32)), .val (.int (-1 : Int32)), .val (.int (Int32.ofNat il)), .val (.int (Int32.ofNat zz)), .val (.int ld), .val (.ref b174), .val (.ref b176), .val (.int ((Int32.ofNat il) - (Int32.ofNat zz))), .val (.int (0 : Int32)), .unset] [(.int (0 : Int32))])) (fun _ kz => XS.iload X177.here hx rfl (hb hby at_153) rfl  kz) ?_
      refine Goes.step (T' := T177) (g' := (mkF m 157 #[.val (.int p0), .val (.int p1), .val (.int p2), .val (.int p3), .val (.int p4), .val (.int p5), .val (.int (Int32.ofNat k)), .val (.int (0 : Int32)), .val (.int (-1 : Int32)), .val (.int (Int32.ofNat il)), .val (.int (Int32.ofNat zz)), .val (.int ld), .val (.ref b174), .val (.ref b176), .val (.int ((Int32.ofNat il) - (Int32.ofNat zz))), .val (.int (0 : Int32)), .unset] [(.int (20 : Int32)), (.int (0 : Int32))])) (fun _ kz => XS.bipush X177.here hx rfl (hb hby at_155) kz) ?_
      refine Goes.step (T' := T177) (g' := (mkF m 160 #[.val (.int p0), .val (.int p1), .val (.int p2), .val (.int p3), .val (.int p4), .val (.int p5), .val (.int (Int32.ofNat k)), .val (.int (0 : Int32)), .val (.int (-1 : Int32)), .val (.int (Int32.ofNat il)), .val (.int (Int32.ofNat zz)), .val (.int ld), .val (.ref b174), .val (.ref b176), .val (.int ((Int32.ofNat il) - (Int32.ofNat zz))), .val (.int (0 : Int32)), .unset] [])) (fun _ kz => XS.icmpNo X177.here hx rfl (hb hby at_157) rfl (flt (by decide : ¬ ((20 : Int32) < (0 : Int32)))).2.2.1 kz) ?_
      refine Goes.step (T' := T177) (g' := (mkF m 161 #[.val (.int p0), .val (.int p1), .val (.int p2), .val (.int p3), .val (.int p4), .val (.int p5), .val (.int (Int32.ofNat k)), .val (.int (0 : Int32)), .val (.int (-1 : Int32)), .val (.int (Int32.ofNat il)), .val (.int (Int32.ofNat zz)), .val (.int ld), .val (.ref b174), .val (.ref b176), .val (.int ((Int32.ofNat il) - (Int32.ofNat zz))), .val (.int (0 : Int32)), .unset] [(.int (1 : Int32))])) (fun _ kz => XS.iconst X177.here hx rfl (hb hby at_160) kz) ?_
      refine Goes.step (T' := T177) (g' := (mkF m 165 #[.val (.int p0), .val (.int p1), .val (.int p2), .val (.int p3), .val (.int p4), .val (.int p5), .val (.int (Int32.ofNat k)), .val (.int (0 : Int32)), .val (.int (-1 : Int32)), .val (.int (Int32.ofNat il)), .val (.int (Int32.ofNat zz)), .val (.int ld), .val (.ref b174), .val (.ref b176), .val (.int ((Int32.ofNat il) - (Int32.ofNat zz))), .val (.int (0 : Int32)), .unset] [(.int (1 : Int32))])) (fun _ kz => XS.goto X177.here hx rfl (pc0 := 161) (pc' := 165) rfl (hb hby at_161) (by decide) (by decide) kz) ?_
      refine Goes.step (T' := T177) (g' := (mkF m 167 #[.val (.int p0), .val (.int p1), .val (.int p2), .val (.int p3), .val (.int p4), .val (.int p5), .val (.int (Int32.ofNat k)), .val (.int (0 : Int32)), .val (.int (-1 : Int32)), .val (.int (Int32.ofNat il)), .val (.int (Int32.ofNat zz)), .val (.int ld), .val (.ref b174), .val (.ref b176), .val (.int ((Int32.ofNat il) - (Int32.ofNat zz))), .val (.int (0 : Int32)), .val (.int (1 : Int32))] [])) (fun _ kz => XS.istore X177.here hx rfl (hb hby at_165) rfl (l' := #[.val (.int p0), .val (.int p1), .val (.int p2), .val (.int p3), .val (.int p4), .val (.int p5), .val (.int (Int32.ofNat k)), .val (.int (0 : Int32)), .val (.int (-1 : Int32)), .val (.int (Int32.ofNat il)), .val (.int (Int32.ofNat zz)), .val (.int ld), .val (.ref b174), .val (.ref b176), .val (.int ((Int32.ofNat il) - (Int32.ofNat zz))), .val (.int (0 : Int32)), .val (.int (1 : Int32))]) rfl kz) ?_
      refine Goes.step (T' := T177) (g' := (mkF m 169 #[.val (.int p0), .val (.int p1), .val (.int p2), .val (.int p3), .val (.int p4), .val (.int p5), .val (.int (Int32.ofNat k)), .val (.int (0 : Int32)), .val (.int (-1 : Int32)), .val (.int (Int32.ofNat il)), .val (.int (Int32.ofNat zz)), .val (.int ld), .val (.ref b174), .val (.ref b176), .val (.int ((Int32.ofNat il) - (Int32.ofNat zz))), .val (.int (0 : Int32)), .val (.int (1 : Int32))] [(.ref b176)])) (fun _ kz => XS.aload X177.here hx rfl (hb hby at_167) rfl rfl kz) ?_
      obtain ⟨_, _, ⟨T180, L180, k180, n180⟩, -, X180, ⟨Lc180, hQ180, l180, y180, z180⟩, st180⟩ := Jvm.LawKit.callS X177 hx (y := (⟨"com/example/tariff/tariff/core/decimal/PlainDecimal", "isBounded", "(Ljava/lang/String;)Z"⟩ : MethodName)) hown (mvT hZ (hw _ (List.mem_of_getElem? (i := 41) rfl))) (mvT hZ (hw _ (List.mem_of_getElem? (i := 42) rfl))) (mvT hZ (hw _ (List.mem_of_getElem? (i := 43) rfl))) (mvT hZ (hw _ (List.mem_of_getElem? (i := 44) rfl))) (by decide) (backOf (W := 0) (rm_isB l Z a0 hw [] b176 (cs) h177 n0 O0 zcs Scs hz_Scs fmt Sfm hz_Sfm E_b176 G_b176 (by omega)) hZ (hw _ (List.mem_of_getElem? (i := 44) rfl)) (hw _ (List.mem_of_getElem? (i := 43) rfl)) (by decide) (by decide)) (g := (mkF m 169 #[.val (.int p0), .val (.int p1), .val (.int p2), .val (.int p3), .val (.int p4), .val (.int p5), .val (.int (Int32.ofNat k)), .val (.int (0 : Int32)), .val (.int (-1 : Int32)), .val (.int (Int32.ofNat il)), .val (.int (Int32.ofNat zz)), .val (.int ld), .val (.ref b174), .val (.ref b176), .val (.int ((Int32.ofNat il) - (Int32.ofNat zz))), .val (.int (0 : Int32)), .val (.int (1 : Int32))] [(.ref b176)])) rfl (by rw [hml]; rfl) (argsL := [(.ref b176)]) (rest := []) (lenOf pd_12 rfl) rfl (by show 2 * 0 + _ ≤ _; exact Nat.le_of_eq rfl) (hb hby at_169) (fun _ _ => ⟨rfl, e177, (by decide : 3 + 0 ≤ _), (by decide : 92 + 0 ≤ _)⟩)
      dsimp only [Pt.U, Pt.locs, Pt.cells, Pt.slots] at X180 l180 y180 z180 st180 hQ180
      subst l180 y180 z180
      obtain ⟨rfl, rfl, e180⟩ := hQ180
      replace N0 := Fr.app N0 (Fr.nil n0)
      refine Goes.step (T' := T180) (g' := (mkF m 172 #[.val (.int p0), .val (.int p1), .val (.int p2), .val (.int p3), .val (.int p4), .val (.int p5), .val (.int (Int32.ofNat k)), .val (.int (0 : Int32)), .val (.int (-1 : Int32)), .val (.int (Int32.ofNat il)), .val (.int (Int32.ofNat zz)), .val (.int ld), .val (.ref b174), .val (.ref b176), .val (.int ((Int32.ofNat il) - (Int32.ofNat zz))), .val (.int (0 : Int32)), .val (.int (1 : Int32))] [(.int (if (20 : Int32) < (Int32.ofNat (IX cs) - Int32.ofNat (LZ cs)) then 0 else if (20 : Int32) < (if IX cs = cs.length then 0 else Int32.ofNat cs.length - Int32.ofNat (IX cs) - 1) then 0 else 1))])) st180 ?_
      refine Goes.step (T' := T180) (g' := (mkF m 174 #[.val (.int p0), .val (.int p1), .val (.int p2), .val (.int p3), .val (.int p4), .val (.int p5), .val (.int (Int32.ofNat k)), .val (.int (0 : Int32)), .val (.int (-1 : Int32)), .val (.int (Int32.ofNat il)), .val (.int (Int32.ofNat zz)), .val (.int ld), .val (.ref b174), .val (.ref b176), .val (.int ((Int32.ofNat il) - (Int32.ofNat zz))), .val (.int (0 : Int32)), .val (.int (1 : Int32))] [(.int (1 : Int32)), (.int (if (20 : Int32) < (Int32.ofNat (IX cs) - Int32.ofNat (LZ cs)) then 0 else if (20 : Int32) < (if IX cs = cs.length then 0 else Int32.ofNat cs.length - Int32.ofNat (IX cs) - 1) then 0 else 1))])) (fun _ kz => XS.iload X180.here hx rfl (hb hby at_172) rfl  kz) ?_
      refine Goes.step (T' := T180) (g' := (mkF m 177 #[.val (.int p0), .val (.int p1), .val (.int p2), .val (.int p3), .val (.int p4), .val (.int p5), .val (.int (Int32.ofNat k)), .val (.int (0 : Int32)), .val (.int (-1 : Int32)), .val (.int (Int32.ofNat il)), .val (.int (Int32.ofNat zz)), .val (.int ld), .val (.ref b174), .val (.ref b176), .val (.int ((Int32.ofNat il) - (Int32.ofNat zz))), .val (.int (0 : Int32)), .val (.int (1 : Int32))] [])) (fun _ kz => XS.icmpNo X180.here hx rfl (hb hby at_174) rfl (teq (by rw [if_pos (hix.trans (hilk.trans hcl.symm)), hix, hlz, if_neg hc150_178]; decide)).2 kz) ?_
      refine Goes.step (T' := T180) (g' := (mkF m 178 #[.val (.int p0), .val (.int p1), .val (.int p2), .val (.int p3), .val (.int p4), .val (.int p5), .val (.int (Int32.ofNat k)), .val (.int (0 : Int32)), .val (.int (-1 : Int32)), .val (.int (Int32.ofNat il)), .val (.int (Int32.ofNat zz)), .val (.int ld), .val (.ref b174), .val (.ref b176), .val (.int ((Int32.ofNat il) - (Int32.ofNat zz))), .val (.int (0 : Int32)), .val (.int (1 : Int32))] [(.int (1 : Int32))])) (fun _ kz => XS.iconst X180.here hx rfl (hb hby at_177) kz) ?_
      refine Goes.step (T' := T180) (g' := (mkF m 182 #[.val (.int p0), .val (.int p1), .val (.int p2), .val (.int p3), .val (.int p4), .val (.int p5), .val (.int (Int32.ofNat k)), .val (.int (0 : Int32)), .val (.int (-1 : Int32)), .val (.int (Int32.ofNat il)), .val (.int (Int32.ofNat zz)), .val (.int ld), .val (.ref b174), .val (.ref b176), .val (.int ((Int32.ofNat il) - (Int32.ofNat zz))), .val (.int (0 : Int32)), .val (.int (1 : Int32))] [(.int (1 : Int32))])) (fun _ kz => XS.goto X180.here hx rfl (pc0 := 178) (pc' := 182) rfl (hb hby at_178) (by decide) (by decide) kz) ?_
      obtain ⟨fs, hr, hrun, hended, hW, hsame⟩ := X180.leave (v := some (.int (nar .boolean (1 : Int32)))) (fun h => by rw [Bd.returns] at h; cases h)
      exact ⟨_, _, retN X180 hx (t := .boolean) Bd.returns (by simp) (hb hby at_182) hr, hrun, hended, _, _, rfl, (by show Q_law Z p0 p1 p2 p3 p4 p5 h0 n0 _ T180.heap _; rw [e180]; exact ⟨rfl, N0, K0⟩), ⟨_, rfl⟩, hW, hsame.mono (by decide) (by decide)⟩
  ·
    refine Goes.step (T' := T177) (g' := (mkF m 130 #[.val (.int p0), .val (.int p1), .val (.int p2), .val (.int p3), .val (.int p4), .val (.int p5), .val (.int (Int32.ofNat k)), .val (.int (1 : Int32)), .val (.int (Int32.ofNat il)), .val (.int (Int32.ofNat il)), .val (.int (Int32.ofNat zz)), .val (.int ld), .val (.ref b174), .val (.ref b176), .val (.int ((Int32.ofNat il) - (Int32.ofNat zz))), .unset, .unset] [(.int (1 : Int32))])) (fun _ kz => XS.iload X177.here hx rfl (hb hby at_128) rfl  kz) ?_
    refine Goes.step (T' := T177) (g' := (mkF m 133 #[.val (.int p0), .val (.int p1), .val (.int p2), .val (.int p3), .val (.int p4), .val (.int p5), .val (.int (Int32.ofNat k)), .val (.int (1 : Int32)), .val (.int (Int32.ofNat il)), .val (.int (Int32.ofNat il)), .val (.int (Int32.ofNat zz)), .val (.int ld), .val (.ref b174), .val (.ref b176), .val (.int ((Int32.ofNat il) - (Int32.ofNat zz))), .unset, .unset] [])) (fun _ kz => XS.ifNo X177.here hx rfl (hb hby at_130) rfl ((if0 _ _).trans (feq (by decide : ¬ ((1 : Int32) = (0 : Int32)))).1) kz) ?_
    refine Goes.step (T' := T177) (g' := (mkF m 135 #[.val (.int p0), .val (.int p1), .val (.int p2), .val (.int p3), .val (.int p4), .val (.int p5), .val (.int (Int32.ofNat k)), .val (.int (1 : Int32)), .val (.int (Int32.ofNat il)), .val (.int (Int32.ofNat il)), .val (.int (Int32.ofNat zz)), .val (.int ld), .val (.ref b174), .val (.ref b176), .val (.int ((Int32.ofNat il) - (Int32.ofNat zz))), .unset, .unset] [(.int (Int32.ofNat k))])) (fun _ kz => XS.iload X177.here hx rfl (hb hby at_133) rfl  kz) ?_
    refine Goes.step (T' := T177) (g' := (mkF m 137 #[.val (.int p0), .val (.int p1), .val (.int p2), .val (.int p3), .val (.int p4), .val (.int p5), .val (.int (Int32.ofNat k)), .val (.int (1 : Int32)), .val (.int (Int32.ofNat il)), .val (.int (Int32.ofNat il)), .val (.int (Int32.ofNat zz)), .val (.int ld), .val (.ref b174), .val (.ref b176), .val (.int ((Int32.ofNat il) - (Int32.ofNat zz))), .unset, .unset] [(.int (Int32.ofNat il)), (.int (Int32.ofNat k))])) (fun _ kz => XS.iload X177.here hx rfl (hb hby at_135) rfl  kz) ?_
    refine Goes.step (T' := T177) (g' := (mkF m 138 #[.val (.int p0), .val (.int p1), .val (.int p2), .val (.int p3), .val (.int p4), .val (.int p5), .val (.int (Int32.ofNat k)), .val (.int (1 : Int32)), .val (.int (Int32.ofNat il)), .val (.int (Int32.ofNat il)), .val (.int (Int32.ofNat zz)), .val (.int ld), .val (.ref b174), .val (.ref b176), .val (.int ((Int32.ofNat il) - (Int32.ofNat zz))), .unset, .unset] [(.int ((Int32.ofNat k) - (Int32.ofNat il)))])) (fun _ kz => XS.isub X177.here hx rfl (hb hby at_137) rfl kz) ?_
    refine Goes.step (T' := T177) (g' := (mkF m 139 #[.val (.int p0), .val (.int p1), .val (.int p2), .val (.int p3), .val (.int p4), .val (.int p5), .val (.int (Int32.ofNat k)), .val (.int (1 : Int32)), .val (.int (Int32.ofNat il)), .val (.int (Int32.ofNat il)), .val (.int (Int32.ofNat zz)), .val (.int ld), .val (.ref b174), .val (.ref b176), .val (.int ((Int32.ofNat il) - (Int32.ofNat zz))), .unset, .unset] [(.int (1 : Int32)), (.int ((Int32.ofNat k) - (Int32.ofNat il)))])) (fun _ kz => XS.iconst X177.here hx rfl (hb hby at_138) kz) ?_
    refine Goes.step (T' := T177) (g' := (mkF m 140 #[.val (.int p0), .val (.int p1), .val (.int p2), .val (.int p3), .val (.int p4), .val (.int p5), .val (.int (Int32.ofNat k)), .val (.int (1 : Int32)), .val (.int (Int32.ofNat il)), .val (.int (Int32.ofNat il)), .val (.int (Int32.ofNat zz)), .val (.int ld), .val (.ref b174), .val (.ref b176), .val (.int ((Int32.ofNat il) - (Int32.ofNat zz))), .unset, .unset] [(.int (((Int32.ofNat k) - (Int32.ofNat il)) - (1 : Int32)))])) (fun _ kz => XS.isub X177.here hx rfl (hb hby at_139) rfl kz) ?_
    refine Goes.step (T' := T177) (g' := (mkF m 144 #[.val (.int p0), .val (.int p1), .val (.int p2), .val (.int p3), .val (.int p4), .val (.int p5), .val (.int (Int32.ofNat k)), .val (.int (1 : Int32)), .val (.int (Int32.ofNat il)), .val (.int (Int32.ofNat il)), .val (.int (Int32.ofNat zz)), .val (.int ld), .val (.ref b174), .val (.ref b176), .val (.int ((Int32.ofNat il) - (Int32.ofNat zz))), .unset, .unset] [(.int (((Int32.ofNat k) - (Int32.ofNat il)) - (1 : Int32)))])) (fun _ kz => XS.goto X177.here hx rfl (pc0 := 140) (pc' := 144) rfl (hb hby at_140) (by decide) (by decide) kz) ?_
    refine Goes.step (T' := T177) (g' := (mkF m 146 #[.val (.int p0), .val (.int p1), .val (.int p2), .val (.int p3), .val (.int p4), .val (.int p5), .val (.int (Int32.ofNat k)), .val (.int (1 : Int32)), .val (.int (Int32.ofNat il)), .val (.int (Int32.ofNat il)), .val (.int (Int32.ofNat zz)), .val (.int ld), .val (.ref b174), .val (.ref b176), .val (.int ((Int32.ofNat il) - (Int32.ofNat zz))), .val (.int (((Int32.ofNat k) - (Int32.ofNat il)) - (1 : Int32))), .unset] [])) (fun _ kz => XS.istore X177.here hx rfl (hb hby at_144) rfl (l' := #[.val (.int p0), .val (.int p1), .val (.int p2), .val (.int p3), .val (.int p4), .val (.int p5), .val (.int (Int32.ofNat k)), .val (.int (1 : Int32)), .val (.int (Int32.ofNat il)), .val (.int (Int32.ofNat il)), .val (.int (Int32.ofNat zz)), .val (.int ld), .val (.ref b174), .val (.ref b176), .val (.int ((Int32.ofNat il) - (Int32.ofNat zz))), .val (.int (((Int32.ofNat k) - (Int32.ofNat il)) - (1 : Int32))), .unset]) rfl kz) ?_
    refine Goes.step (T' := T177) (g' := (mkF m 148 #[.val (.int p0), .val (.int p1), .val (.int p2), .val (.int p3), .val (.int p4), .val (.int p5), .val (.int (Int32.ofNat k)), .val (.int (1 : Int32)), .val (.int (Int32.ofNat il)), .val (.int (Int32.ofNat il)), .val (.int (Int32.ofNat zz)), .val (.int ld), .val (.ref b174), .val (.ref b176), .val (.int ((Int32.ofNat il) - (Int32.ofNat zz))), .val (.int (((Int32.ofNat k) - (Int32.ofNat il)) - (1 : Int32))), .unset] [(.int ((Int32.ofNat il) - (Int32.ofNat zz)))])) (fun _ kz => XS.iload X177.here hx rfl (hb hby at_146) rfl  kz) ?_
    refine Goes.step (T' := T177) (g' := (mkF m 150 #[.val (.int p0), .val (.int p1), .val (.int p2), .val (.int p3), .val (.int p4), .val (.int p5), .val (.int (Int32.ofNat k)), .val (.int (1 : Int32)), .val (.int (Int32.ofNat il)), .val (.int (Int32.ofNat il)), .val (.int (Int32.ofNat zz)), .val (.int ld), .val (.ref b174), .val (.ref b176), .val (.int ((Int32.ofNat il) - (Int32.ofNat zz))), .val (.int (((Int32.ofNat k) - (Int32.ofNat il)) - (1 : Int32))), .unset] [(.int (20 : Int32)), (.int ((Int32.ofNat il) - (Int32.ofNat zz)))])) (fun _ kz => XS.bipush X177.here hx rfl (hb hby at_148) kz) ?_
    by_cases hc150_181 : (20 : Int32) < ((Int32.ofNat il) - (Int32.ofNat zz))
    ·
      refine Goes.step (T' := T177) (g' := (mkF m 164 #[.val (.int p0), .val (.int p1), .val (.int p2), .val (.int p3), .val (.int p4), .val (.int p5), .val (.int (Int32.ofNat k)), .val (.int (1 : Int32)), .val (.int (Int32.ofNat il)), .val (.int (Int32.ofNat il)), .val (.int (Int32.ofNat zz)), .val (.int ld), .val (.ref b174), .val (.ref b176), .val (.int ((Int32.ofNat il) - (Int32.ofNat zz))), .val (.int (((Int32.ofNat k) - (Int32.ofNat il)) - (1 : Int32))), .unset] [])) (fun _ kz => XS.icmpYes X177.here hx rfl (pc0 := 150) (pc' := 164) rfl (hb hby at_150) rfl (tlt hc150_181).2.2.1 (by decide) (by decide) kz) ?_
      refine Goes.step (T' := T177) (g' := (mkF m 165 #[.val (.int p0), .val (.int p1), .val (.int p2), .val (.int p3), .val (.int p4), .val (.int p5), .val (.int (Int32.ofNat k)), .val (.int (1 : Int32)), .val (.int (Int32.ofNat il)), .val (.int (Int32.ofNat il)), .val (.int (Int32.ofNat zz)), .val (.int ld), .val (.ref b174), .val (.ref b176), .val (.int ((Int32.ofNat il) - (Int32.ofNat zz))), .val (.int (((Int32.ofNat k) - (Int32.ofNat il)) - (1 : Int32))), .unset] [(.int (0 : Int32))])) (fun _ kz => XS.iconst X177.here hx rfl (hb hby at_164) kz) ?_
      refine Goes.step (T' := T177) (g' := (mkF m 167 #[.val (.int p0), .val (.int p1), .val (.int p2), .val (.int p3), .val (.int p4), .val (.int p5), .val (.int (Int32.ofNat k)), .val (.int (1 : Int32)), .val (.int (Int32.ofNat il)), .val (.int (Int32.ofNat il)), .val (.int (Int32.ofNat zz)), .val (.int ld), .val (.ref b174), .val (.ref b176), .val (.int ((Int32.ofNat il) - (Int32.ofNat zz))), .val (.int (((Int32.ofNat k) - (Int32.ofNat il)) - (1 : Int32))), .val (.int (0 : Int32))] [])) (fun _ kz => XS.istore X177.here hx rfl (hb hby at_165) rfl (l' := #[.val (.int p0), .val (.int p1), .val (.int p2), .val (.int p3), .val (.int p4), .val (.int p5), .val (.int (Int32.ofNat k)), .val (.int (1 : Int32)), .val (.int (Int32.ofNat il)), .val (.int (Int32.ofNat il)), .val (.int (Int32.ofNat zz)), .val (.int ld), .val (.ref b174), .val (.ref b176), .val (.int ((Int32.ofNat il) - (Int32.ofNat zz))), .val (.int (((Int32.ofNat k) - (Int32.ofNat il)) - (1 : Int32))), .val (.int (0 : Int32))]) rfl kz) ?_
      refine Goes.step (T' := T177) (g' := (mkF m 169 #[.val (.int p0), .val (.int p1), .val (.int p2), .val (.int p3), .val (.int p4), .val (.int p5), .val (.int (Int32.ofNat k)), .val (.int (1 : Int32)), .val (.int (Int32.ofNat il)), .val (.int (Int32.ofNat il)), .val (.int (Int32.ofNat zz)), .val (.int ld), .val (.ref b174), .val (.ref b176), .val (.int ((Int32.ofNat il) - (Int32.ofNat zz))), .val (.int (((Int32.ofNat k) - (Int32.ofNat il)) - (1 : Int32))), .val (.int (0 : Int32))] [(.ref b176)])) (fun _ kz => XS.aload X177.here hx rfl (hb hby at_167) rfl rfl kz) ?_
      obtain ⟨_, _, ⟨T182, L182, k182, n182⟩, -, X182, ⟨Lc182, hQ182, l182, y182, z182⟩, st182⟩ := Jvm.LawKit.callS X177 hx (y := (⟨"com/example/tariff/tariff/core/decimal/PlainDecimal", "isBounded", "(Ljava/lang/String;)Z"⟩ : MethodName)) hown (mvT hZ (hw _ (List.mem_of_getElem? (i := 41) rfl))) (mvT hZ (hw _ (List.mem_of_getElem? (i := 42) rfl))) (mvT hZ (hw _ (List.mem_of_getElem? (i := 43) rfl))) (mvT hZ (hw _ (List.mem_of_getElem? (i := 44) rfl))) (by decide) (backOf (W := 0) (rm_isB l Z a0 hw [] b176 (cs) h177 n0 O0 zcs Scs hz_Scs fmt Sfm hz_Sfm E_b176 G_b176 (by omega)) hZ (hw _ (List.mem_of_getElem? (i := 44) rfl)) (hw _ (List.mem_of_getElem? (i := 43) rfl)) (by decide) (by decide)) (g := (mkF m 169 #[.val (.int p0), .val (.int p1), .val (.int p2), .val (.int p3), .val (.int p4), .val (.int p5), .val (.int (Int32.ofNat k)), .val (.int (1 : Int32)), .val (.int (Int32.ofNat il)), .val (.int (Int32.ofNat il)), .val (.int (Int32.ofNat zz)), .val (.int ld), .val (.ref b174), .val (.ref b176), .val (.int ((Int32.ofNat il) - (Int32.ofNat zz))), .val (.int (((Int32.ofNat k) - (Int32.ofNat il)) - (1 : Int32))), .val (.int (0 : Int32))] [(.ref b176)])) rfl (by rw [hml]; rfl) (argsL := [(.ref b176)]) (rest := []) (lenOf pd_12 rfl) rfl (by show 2 * 0 + _ ≤ _; exact Nat.le_of_eq rfl) (hb hby at_169) (fun _ _ => ⟨rfl, e177, (by decide : 3 + 0 ≤ _), (by decide : 92 + 0 ≤ _)⟩)
      dsimp only [Pt.U, Pt.locs, Pt.cells, Pt.slots] at X182 l182 y182 z182 st182 hQ182
      subst l182 y182 z182
      obtain ⟨rfl, rfl, e182⟩ := hQ182
      replace N0 := Fr.app N0 (Fr.nil n0)
      refine Goes.step (T' := T182) (g' := (mkF m 172 #[.val (.int p0), .val (.int p1), .val (.int p2), .val (.int p3), .val (.int p4), .val (.int p5), .val (.int (Int32.ofNat k)), .val (.int (1 : Int32)), .val (.int (Int32.ofNat il)), .val (.int (Int32.ofNat il)), .val (.int (Int32.ofNat zz)), .val (.int ld), .val (.ref b174), .val (.ref b176), .val (.int ((Int32.ofNat il) - (Int32.ofNat zz))), .val (.int (((Int32.ofNat k) - (Int32.ofNat il)) - (1 : Int32))), .val (.int (0 : Int32))] [(.int (if (20 : Int32) < (Int32.ofNat (IX cs) - Int32.ofNat (LZ cs)) then 0 else if (20 : Int32) < (if IX cs = cs.length then 0 else Int32.ofNat cs.length - Int32.ofNat (IX cs) - 1) then 0 else 1))])) st182 ?_
      refine Goes.step (T' := T182) (g' := (mkF m 174 #[.val (.int p0), .val (.int p1), .val (.int p2), .val (.int p3), .val (.int p4), .val (.int p5), .val (.int (Int32.ofNat k)), .val (.int (1 : Int32)), .val (.int (Int32.ofNat il)), .val (.int (Int32.ofNat il)), .val (.int (Int32.ofNat zz)), .val (.int ld), .val (.ref b174), .val (.ref b176), .val (.int ((Int32.ofNat il) - (Int32.ofNat zz))), .val (.int (((Int32.ofNat k) - (Int32.ofNat il)) - (1 : Int32))), .val (.int (0 : Int32))] [(.int (0 : Int32)), (.int (if (20 : Int32) < (Int32.ofNat (IX cs) - Int32.ofNat (LZ cs)) then 0 else if (20 : Int32) < (if IX cs = cs.length then 0 else Int32.ofNat cs.length - Int32.ofNat (IX cs) - 1) then 0 else 1))])) (fun _ kz => XS.iload X182.here hx rfl (hb hby at_172) rfl  kz) ?_
      refine Goes.step (T' := T182) (g' := (mkF m 177 #[.val (.int p0), .val (.int p1), .val (.int p2), .val (.int p3), .val (.int p4), .val (.int p5), .val (.int (Int32.ofNat k)), .val (.int (1 : Int32)), .val (.int (Int32.ofNat il)), .val (.int (Int32.ofNat il)), .val (.int (Int32.ofNat zz)), .val (.int ld), .val (.ref b174), .val (.ref b176), .val (.int ((Int32.ofNat il) - (Int32.ofNat zz))), .val (.int (((Int32.ofNat k) - (Int32.ofNat il)) - (1 : Int32))), .val (.int (0 : Int32))] [])) (fun _ kz => XS.icmpNo X182.here hx rfl (hb hby at_174) rfl (teq (by rw [hix, hlz, if_pos hc150_181])).2 kz) ?_
      refine Goes.step (T' := T182) (g' := (mkF m 178 #[.val (.int p0), .val (.int p1), .val (.int p2), .val (.int p3), .val (.int p4), .val (.int p5), .val (.int (Int32.ofNat k)), .val (.int (1 : Int32)), .val (.int (Int32.ofNat il)), .val (.int (Int32.ofNat il)), .val (.int (Int32.ofNat zz)), .val (.int ld), .val (.ref b174), .val (.ref b176), .val (.int ((Int32.ofNat il) - (Int32.ofNat zz))), .val (.int (((Int32.ofNat k) - (Int32.ofNat il)) - (1 : Int32))), .val (.int (0 : Int32))] [(.int (1 : Int32))])) (fun _ kz => XS.iconst X182.here hx rfl (hb hby at_177) kz) ?_
      refine Goes.step (T' := T182) (g' := (mkF m 182 #[.val (.int p0), .val (.int p1), .val (.int p2), .val (.int p3), .val (.int p4), .val (.int p5), .val (.int (Int32.ofNat k)), .val (.int (1 : Int32)), .val (.int (Int32.ofNat il)), .val (.int (Int32.ofNat il)), .val (.int (Int32.ofNat zz)), .val (.int ld), .val (.ref b174), .val (.ref b176), .val (.int ((Int32.ofNat il) - (Int32.ofNat zz))), .val (.int (((Int32.ofNat k) - (Int32.ofNat il)) - (1 : Int32))), .val (.int (0 : Int32))] [(.int (1 : Int32))])) (fun _ kz => XS.goto X182.here hx rfl (pc0 := 178) (pc' := 182) rfl (hb hby at_178) (by decide) (by decide) kz) ?_
      obtain ⟨fs, hr, hrun, hended, hW, hsame⟩ := X182.leave (v := some (.int (nar .boolean (1 : Int32)))) (fun h => by rw [Bd.returns] at h; cases h)
      exact ⟨_, _, retN X182 hx (t := .boolean) Bd.returns (by simp) (hb hby at_182) hr, hrun, hended, _, _, rfl, (by show Q_law Z p0 p1 p2 p3 p4 p5 h0 n0 _ T182.heap _; rw [e182]; exact ⟨rfl, N0, K0⟩), ⟨_, rfl⟩, hW, hsame.mono (by decide) (by decide)⟩
    ·
      refine Goes.step (T' := T177) (g' := (mkF m 153 #[.val (.int p0), .val (.int p1), .val (.int p2), .val (.int p3), .val (.int p4), .val (.int p5), .val (.int (Int32.ofNat k)), .val (.int (1 : Int32)), .val (.int (Int32.ofNat il)), .val (.int (Int32.ofNat il)), .val (.int (Int32.ofNat zz)), .val (.int ld), .val (.ref b174), .val (.ref b176), .val (.int ((Int32.ofNat il) - (Int32.ofNat zz))), .val (.int (((Int32.ofNat k) - (Int32.ofNat il)) - (1 : Int32))), .unset] [])) (fun _ kz => XS.icmpNo X177.here hx rfl (hb hby at_150) rfl (flt hc150_181).2.2.1 kz) ?_
      refine Goes.step (T' := T177) (g' := (mkF m 155 #[.val (.int p0), .val (.int p1), .val (.int p2), .val (.int p3), .val (.int p4), .val (.int p5), .val (.int (Int32.ofNat k)), .val (.int (1 : Int32)), .val (.int (Int32.ofNat il)), .val (.int (Int32.ofNat il)), .val (.int (Int32.ofNat zz)), .val (.int ld), .val (.ref b174), .val (.ref b176), .val (.int ((Int32.ofNat il) - (Int32.ofNat zz))), .val (.int (((Int32.ofNat k) - (Int32.ofNat il)) - (1 : Int32))), .unset] [(.int (((Int32.ofNat k) - (Int32.ofNat il)) - (1 : Int32)))])) (fun _ kz => XS.iload X177.here hx rfl (hb hby at_153) rfl  kz) ?_
      refine Goes.step (T' := T177) (g' := (mkF m 157 #[.val (.int p0), .val (.int p1), .val (.int p2), .val (.int p3), .val (.int p4), .val (.int p5), .val (.int (Int32.ofNat k)), .val (.int (1 : Int32)), .val (.int (Int32.ofNat il)), .val (.int (Int32.ofNat il)), .val (.int (Int32.ofNat zz)), .val (.int ld), .val (.ref b174), .val (.ref b176), .val (.int ((Int32.ofNat il) - (Int32.ofNat zz))), .val (.int (((Int32.ofNat k) - (Int32.ofNat il)) - (1 : Int32))), .unset] [(.int (20 : Int32)), (.int (((Int32.ofNat k) - (Int32.ofNat il)) - (1 : Int32)))])) (fun _ kz => XS.bipush X177.here hx rfl (hb hby at_155) kz) ?_
      by_cases hc157_183 : (20 : Int32) < (((Int32.ofNat k) - (Int32.ofNat il)) - (1 : Int32))
      ·
        refine Goes.step (T' := T177) (g' := (mkF m 164 #[.val (.int p0), .val (.int p1), .val (.int p2), .val (.int p3), .val (.int p4), .val (.int p5), .val (.int (Int32.ofNat k)), .val (.int (1 : Int32)), .val (.int (Int32.ofNat il)), .val (.int (Int32.ofNat il)), .val (.int (Int32.ofNat zz)), .val (.int ld), .val (.ref b174), .val (.ref b176), .val (.int ((Int32.ofNat il) - (Int32.ofNat zz))), .val (.int (((Int32.ofNat k) - (Int32.ofNat il)) - (1 : Int32))), .unset] [])) (fun _ kz => XS.icmpYes X177.here hx rfl (pc0 := 157) (pc' := 164) rfl (hb hby at_157) rfl (tlt hc157_183).2.2.1 (by decide) (by decide) kz) ?_
        refine Goes.step (T' := T177) (g' := (mkF m 165 #[.val (.int p0), .val (.int p1), .val (.int p2), .val (.int p3), .val (.int p4), .val (.int p5), .val (.int (Int32.ofNat k)), .val (.int (1 : Int32)), .val (.int (Int32.ofNat il)), .val (.int (Int32.ofNat il)), .val (.int (Int32.ofNat zz)), .val (.int ld), .val (.ref b174), .val (.ref b176), .val (.int ((Int32.ofNat il) - (Int32.ofNat zz))), .val (.int (((Int32.ofNat k) - (Int32.ofNat il)) - (1 : Int32))), .unset] [(.int (0 : Int32))])) (fun _ kz => XS.iconst X177.here hx rfl (hb hby at_164) kz) ?_
        refine Goes.step (T' := T177) (g' := (mkF m 167 #[.val (.int p0), .val (.int p1), .val (.int p2), .val (.int p3), .val (.int p4), .val (.int p5), .val (.int (Int32.ofNat k)), .val (.int (1 : Int32)), .val (.int (Int32.ofNat il)), .val (.int (Int32.ofNat il)), .val (.int (Int32.ofNat zz)), .val (.int ld), .val (.ref b174), .val (.ref b176), .val (.int ((Int32.ofNat il) - (Int32.ofNat zz))), .val (.int (((Int32.ofNat k) - (Int32.ofNat il)) - (1 : Int32))), .val (.int (0 : Int32))] [])) (fun _ kz => XS.istore X177.here hx rfl (hb hby at_165) rfl (l' := #[.val (.int p0), .val (.int p1), .val (.int p2), .val (.int p3), .val (.int p4), .val (.int p5), .val (.int (Int32.ofNat k)), .val (.int (1 : Int32)), .val (.int (Int32.ofNat il)), .val (.int (Int32.ofNat il)), .val (.int (Int32.ofNat zz)), .val (.int ld), .val (.ref b174), .val (.ref b176), .val (.int ((Int32.ofNat il) - (Int32.ofNat zz))), .val (.int (((Int32.ofNat k) - (Int32.ofNat il)) - (1 : Int32))), .val (.int (0 : Int32))]) rfl kz) ?_
        refine Goes.step (T' := T177) (g' := (mkF m 169 #[.val (.int p0), .val (.int p1), .val (.int p2), .val (.int p3), .val (.int p4), .val (.int p5), .val (.int (Int32.ofNat k)), .val (.int (1 : Int32)), .val (.int (Int32.ofNat il)), .val (.int (Int32.ofNat il)), .val (.int (Int32.ofNat zz)), .val (.int ld), .val (.ref b174), .val (.ref b176), .val (.int ((Int32.ofNat il) - (Int32.ofNat zz))), .val (.int (((Int32.ofNat k) - (Int32.ofNat il)) - (1 : Int32))), .val (.int (0 : Int32))] [(.ref b176)])) (fun _ kz => XS.aload X177.here hx rfl (hb hby at_167) rfl rfl kz) ?_
        obtain ⟨_, _, ⟨T184, L184, k184, n184⟩, -, X184, ⟨Lc184, hQ184, l184, y184, z184⟩, st184⟩ := Jvm.LawKit.callS X177 hx (y := (⟨"com/example/tariff/tariff/core/decimal/PlainDecimal", "isBounded", "(Ljava/lang/String;)Z"⟩ : MethodName)) hown (mvT hZ (hw _ (List.mem_of_getElem? (i := 41) rfl))) (mvT hZ (hw _ (List.mem_of_getElem? (i := 42) rfl))) (mvT hZ (hw _ (List.mem_of_getElem? (i := 43) rfl))) (mvT hZ (hw _ (List.mem_of_getElem? (i := 44) rfl))) (by decide) (backOf (W := 0) (rm_isB l Z a0 hw [] b176 (cs) h177 n0 O0 zcs Scs hz_Scs fmt Sfm hz_Sfm E_b176 G_b176 (by omega)) hZ (hw _ (List.mem_of_getElem? (i := 44) rfl)) (hw _ (List.mem_of_getElem? (i := 43) rfl)) (by decide) (by decide)) (g := (mkF m 169 #[.val (.int p0), .val (.int p1), .val (.int p2), .val (.int p3), .val (.int p4), .val (.int p5), .val (.int (Int32.ofNat k)), .val (.int (1 : Int32)), .val (.int (Int32.ofNat il)), .val (.int (Int32.ofNat il)), .val (.int (Int32.ofNat zz)), .val (.int ld), .val (.ref b174), .val (.ref b176), .val (.int ((Int32.ofNat il) - (Int32.ofNat zz))), .val (.int (((Int32.ofNat k) - (Int32.ofNat il)) - (1 : Int32))), .val (.int (0 : Int32))] [(.ref b176)])) rfl (by rw [hml]; rfl) (argsL := [(.ref b176)]) (rest := []) (lenOf pd_12 rfl) rfl (by show 2 * 0 + _ ≤ _; exact Nat.le_of_eq rfl) (hb hby at_169) (fun _ _ => ⟨rfl, e177, (by decide : 3 + 0 ≤ _), (by decide : 92 + 0 ≤ _)⟩)
        dsimp only [Pt.U, Pt.locs, Pt.cells, Pt.slots] at X184 l184 y184 z184 st184 hQ184
        subst l184 y184 z184
        obtain ⟨rfl, rfl, e184⟩ := hQ184
        replace N0 := Fr.app N0 (Fr.nil n0)
        refine Goes.step (T' := T184) (g' := (mkF m 172 #[.val (.int p0), .val (.int p1), .val (.int p2), .val (.int p3), .val (.int p4), .val (.int p5), .val (.int (Int32.ofNat k)), .val (.int (1 : Int32)), .val (.int (Int32.ofNat il)), .val (.int (Int32.ofNat il)), .val (.int (Int32.ofNat zz)), .val (.int ld), .val (.ref b174), .val (.ref b176), .val (.int ((Int32.ofNat il) - (Int32.ofNat zz))), .val (.int (((Int32.ofNat k) - (Int32.ofNat il)) - (1 : Int32))), .val (.int (0 : Int32))] [(.int (if (20 : Int32) < (Int32.ofNat (IX cs) - Int32.ofNat (LZ cs)) then 0 else if (20 : Int32) < (if IX cs = cs.length then 0 else Int32.ofNat cs.length - Int32.ofNat (IX cs) - 1) then 0 else 1))])) st184 ?_
        refine Goes.step (T' := T184) (g' := (mkF m 174 #[.val (.int p0), .val (.int p1), .val (.int p2), .val (.int p3), .val (.int p4), .val (.int p5), .val (.int (Int32.ofNat k)), .val (.int (1 : Int32)), .val (.int (Int32.ofNat il)), .val (.int (Int32.ofNat il)), .val (.int (Int32.ofNat zz)), .val (.int ld), .val (.ref b174), .val (.ref b176), .val (.int ((Int32.ofNat il) - (Int32.ofNat zz))), .val (.int (((Int32.ofNat k) - (Int32.ofNat il)) - (1 : Int32))), .val (.int (0 : Int32))] [(.int (0 : Int32)), (.int (if (20 : Int32) < (Int32.ofNat (IX cs) - Int32.ofNat (LZ cs)) then 0 else if (20 : Int32) < (if IX cs = cs.length then 0 else Int32.ofNat cs.length - Int32.ofNat (IX cs) - 1) then 0 else 1))])) (fun _ kz => XS.iload X184.here hx rfl (hb hby at_172) rfl  kz) ?_
        refine Goes.step (T' := T184) (g' := (mkF m 177 #[.val (.int p0), .val (.int p1), .val (.int p2), .val (.int p3), .val (.int p4), .val (.int p5), .val (.int (Int32.ofNat k)), .val (.int (1 : Int32)), .val (.int (Int32.ofNat il)), .val (.int (Int32.ofNat il)), .val (.int (Int32.ofNat zz)), .val (.int ld), .val (.ref b174), .val (.ref b176), .val (.int ((Int32.ofNat il) - (Int32.ofNat zz))), .val (.int (((Int32.ofNat k) - (Int32.ofNat il)) - (1 : Int32))), .val (.int (0 : Int32))] [])) (fun _ kz => XS.icmpNo X184.here hx rfl (hb hby at_174) rfl (teq (by rw [if_neg (show ¬ IX cs = cs.length by omega), hix, hlz, hcl, if_neg hc150_181, if_pos hc157_183])).2 kz) ?_
        refine Goes.step (T' := T184) (g' := (mkF m 178 #[.val (.int p0), .val (.int p1), .val (.int p2), .val (.int p3), .val (.int p4), .val (.int p5), .val (.int (Int32.ofNat k)), .val (.int (1 : Int32)), .val (.int (Int32.ofNat il)), .val (.int (Int32.ofNat il)), .val (.int (Int32.ofNat zz)), .val (.int ld), .val (.ref b174), .val (.ref b176), .val (.int ((Int32.ofNat il) - (Int32.ofNat zz))), .val (.int (((Int32.ofNat k) - (Int32.ofNat il)) - (1 : Int32))), .val (.int (0 : Int32))] [(.int (1 : Int32))])) (fun _ kz => XS.iconst X184.here hx rfl (hb hby at_177) kz) ?_
        refine Goes.step (T' := T184) (g' := (mkF m 182 #[.val (.int p0), .val (.int p1), .val (.int p2), .val (.int p3), .val (.int p4), .val (.int p5), .val (.int (Int32.ofNat k)), .val (.int (1 : Int32)), .val (.int (Int32.ofNat il)), .val (.int (Int32.ofNat il)), .val (.int (Int32.ofNat zz)), .val (.int ld), .val (.ref b174), .val (.ref b176), .val (.int ((Int32.ofNat il) - (Int32.ofNat zz))), .val (.int (((Int32.ofNat k) - (Int32.ofNat il)) - (1 : Int32))), .val (.int (0 : Int32))] [(.int (1 : Int32))])) (fun _ kz => XS.goto X184.here hx rfl (pc0 := 178) (pc' := 182) rfl (hb hby at_178) (by decide) (by decide) kz) ?_
        obtain ⟨fs, hr, hrun, hended, hW, hsame⟩ := X184.leave (v := some (.int (nar .boolean (1 : Int32)))) (fun h => by rw [Bd.returns] at h; cases h)
        exact ⟨_, _, retN X184 hx (t := .boolean) Bd.returns (by simp) (hb hby at_182) hr, hrun, hended, _, _, rfl, (by show Q_law Z p0 p1 p2 p3 p4 p5 h0 n0 _ T184.heap _; rw [e184]; exact ⟨rfl, N0, K0⟩), ⟨_, rfl⟩, hW, hsame.mono (by decide) (by decide)⟩
      ·
        refine Goes.step (T' := T177) (g' := (mkF m 160 #[.val (.int p0), .val (.int p1), .val (.int p2), .val (.int p3), .val (.int p4), .val (.int p5), .val (.int (Int32.ofNat k)), .val (.int (1 : Int32)), .val (.int (Int32.ofNat il)), .val (.int (Int32.ofNat il)), .val (.int (Int32.ofNat zz)), .val (.int ld), .val (.ref b174), .val (.ref b176), .val (.int ((Int32.ofNat il) - (Int32.ofNat zz))), .val (.int (((Int32.ofNat k) - (Int32.ofNat il)) - (1 : Int32))), .unset] [])) (fun _ kz => XS.icmpNo X177.here hx rfl (hb hby at_157) rfl (flt hc157_183).2.2.1 kz) ?_
        refine Goes.step (T' := T177) (g' := (mkF m 161 #[.val (.int p0), .val (.int p1), .val (.int p2), .val (.int p3), .val (.int p4), .val (.int p5), .val (.int (Int32.ofNat k)), .val (.int (1 : Int32)), .val (.int (Int32.ofNat il)), .val (.int (Int32.ofNat il)), .val (.int (Int32.ofNat zz)), .val (.int ld), .val (.ref b174), .val (.ref b176), .val (.int ((Int32.ofNat il) - (Int32.ofNat zz))), .val (.int (((Int32.ofNat k) - (Int32.ofNat il)) - (1 : Int32))), .unset] [(.int (1 : Int32))])) (fun _ kz => XS.iconst X177.here hx rfl (hb hby at_160) kz) ?_
        refine Goes.step (T' := T177) (g' := (mkF m 165 #[.val (.int p0), .val (.int p1), .val (.int p2), .val (.int p3), .val (.int p4), .val (.int p5), .val (.int (Int32.ofNat k)), .val (.int (1 : Int32)), .val (.int (Int32.ofNat il)), .val (.int (Int32.ofNat il)), .val (.int (Int32.ofNat zz)), .val (.int ld), .val (.ref b174), .val (.ref b176), .val (.int ((Int32.ofNat il) - (Int32.ofNat zz))), .val (.int (((Int32.ofNat k) - (Int32.ofNat il)) - (1 : Int32))), .unset] [(.int (1 : Int32))])) (fun _ kz => XS.goto X177.here hx rfl (pc0 := 161) (pc' := 165) rfl (hb hby at_161) (by decide) (by decide) kz) ?_
        refine Goes.step (T' := T177) (g' := (mkF m 167 #[.val (.int p0), .val (.int p1), .val (.int p2), .val (.int p3), .val (.int p4), .val (.int p5), .val (.int (Int32.ofNat k)), .val (.int (1 : Int32)), .val (.int (Int32.ofNat il)), .val (.int (Int32.ofNat il)), .val (.int (Int32.ofNat zz)), .val (.int ld), .val (.ref b174), .val (.ref b176), .val (.int ((Int32.ofNat il) - (Int32.ofNat zz))), .val (.int (((Int32.ofNat k) - (Int32.ofNat il)) - (1 : Int32))), .val (.int (1 : Int32))] [])) (fun _ kz => XS.istore X177.here hx rfl (hb hby at_165) rfl (l' := #[.val (.int p0), .val (.int p1), .val (.int p2), .val (.int p3), .val (.int p4), .val (.int p5), .val (.int (Int32.ofNat k)), .val (.int (1 : Int32)), .val (.int (Int32.ofNat il)), .val (.int (Int32.ofNat il)), .val (.int (Int32.ofNat zz)), .val (.int ld), .val (.ref b174), .val (.ref b176), .val (.int ((Int32.ofNat il) - (Int32.ofNat zz))), .val (.int (((Int32.ofNat k) - (Int32.ofNat il)) - (1 : Int32))), .val (.int (1 : Int32))]) rfl kz) ?_
        refine Goes.step (T' := T177) (g' := (mkF m 169 #[.val (.int p0), .val (.int p1), .val (.int p2), .val (.int p3), .val (.int p4), .val (.int p5), .val (.int (Int32.ofNat k)), .val (.int (1 : Int32)), .val (.int (Int32.ofNat il)), .val (.int (Int32.ofNat il)), .val (.int (Int32.ofNat zz)), .val (.int ld), .val (.ref b174), .val (.ref b176), .val (.int ((Int32.ofNat il) - (Int32.ofNat zz))), .val (.int (((Int32.ofNat k) - (Int32.ofNat il)) - (1 : Int32))), .val (.int (1 : Int32))] [(.ref b176)])) (fun _ kz => XS.aload X177.here hx rfl (hb hby at_167) rfl rfl kz) ?_
        obtain ⟨_, _, ⟨T185, L185, k185, n185⟩, -, X185, ⟨Lc185, hQ185, l185, y185, z185⟩, st185⟩ := Jvm.LawKit.callS X177 hx (y := (⟨"com/example/tariff/tariff/core/decimal/PlainDecimal", "isBounded", "(Ljava/lang/String;)Z"⟩ : MethodName)) hown (mvT hZ (hw _ (List.mem_of_getElem? (i := 41) rfl))) (mvT hZ (hw _ (List.mem_of_getElem? (i := 42) rfl))) (mvT hZ (hw _ (List.mem_of_getElem? (i := 43) rfl))) (mvT hZ (hw _ (List.mem_of_getElem? (i := 44) rfl))) (by decide) (backOf (W := 0) (rm_isB l Z a0 hw [] b176 (cs) h177 n0 O0 zcs Scs hz_Scs fmt Sfm hz_Sfm E_b176 G_b176 (by omega)) hZ (hw _ (List.mem_of_getElem? (i := 44) rfl)) (hw _ (List.mem_of_getElem? (i := 43) rfl)) (by decide) (by decide)) (g := (mkF m 169 #[.val (.int p0), .val (.int p1), .val (.int p2), .val (.int p3), .val (.int p4), .val (.int p5), .val (.int (Int32.ofNat k)), .val (.int (1 : Int32)), .val (.int (Int32.ofNat il)), .val (.int (Int32.ofNat il)), .val (.int (Int32.ofNat zz)), .val (.int ld), .val (.ref b174), .val (.ref b176), .val (.int ((Int32.ofNat il) - (Int32.ofNat zz))), .val (.int (((Int32.ofNat k) - (Int32.ofNat il)) - (1 : Int32))), .val (.int (1 : Int32))] [(.ref b176)])) rfl (by rw [hml]; rfl) (argsL := [(.ref b176)]) (rest := []) (lenOf pd_12 rfl) rfl (by show 2 * 0 + _ ≤ _; exact Nat.le_of_eq rfl) (hb hby at_169) (fun _ _ => ⟨rfl, e177, (by decide : 3 + 0 ≤ _), (by decide : 92 + 0 ≤ _)⟩)
        dsimp only [Pt.U, Pt.locs, Pt.cells, Pt.slots] at X185 l185 y185 z185 st185 hQ185
        subst l185 y185 z185
        obtain ⟨rfl, rfl, e185⟩ := hQ185
        replace N0 := Fr.app N0 (Fr.nil n0)
        refine Goes.step (T' := T185) (g' := (mkF m 172 #[.val (.int p0), .val (.int p1), .val (.int p2), .val (.int p3), .val (.int p4), .val (.int p5), .val (.int (Int32.ofNat k)), .val (.int (1 : Int32)), .val (.int (Int32.ofNat il)), .val (.int (Int32.ofNat il)), .val (.int (Int32.ofNat zz)), .val (.int ld), .val (.ref b174), .val (.ref b176), .val (.int ((Int32.ofNat il) - (Int32.ofNat zz))), .val (.int (((Int32.ofNat k) - (Int32.ofNat il)) - (1 : Int32))), .val (.int (1 : Int32))] [(.int (if (20 : Int32) < (Int32.ofNat (IX cs) - Int32.ofNat (LZ cs)) then 0 else if (20 : Int32) < (if IX cs = cs.length then 0 else Int32.ofNat cs.length - Int32.ofNat (IX cs) - 1) then 0 else 1))])) st185 ?_
        refine Goes.step (T' := T185) (g' := (mkF m 174 #[.val (.int p0), .val (.int p1), .val (.int p2), .val (.int p3), .val (.int p4), .val (.int p5), .val (.int (Int32.ofNat k)), .val (.int (1 : Int32)), .val (.int (Int32.ofNat il)), .val (.int (Int32.ofNat il)), .val (.int (Int32.ofNat zz)), .val (.int ld), .val (.ref b174), .val (.ref b176), .val (.int ((Int32.ofNat il) - (Int32.ofNat zz))), .val (.int (((Int32.ofNat k) - (Int32.ofNat il)) - (1 : Int32))), .val (.int (1 : Int32))] [(.int (1 : Int32)), (.int (if (20 : Int32) < (Int32.ofNat (IX cs) - Int32.ofNat (LZ cs)) then 0 else if (20 : Int32) < (if IX cs = cs.length then 0 else Int32.ofNat cs.length - Int32.ofNat (IX cs) - 1) then 0 else 1))])) (fun _ kz => XS.iload X185.here hx rfl (hb hby at_172) rfl  kz) ?_
        refine Goes.step (T' := T185) (g' := (mkF m 177 #[.val (.int p0), .val (.int p1), .val (.int p2), .val (.int p3), .val (.int p4), .val (.int p5), .val (.int (Int32.ofNat k)), .val (.int (1 : Int32)), .val (.int (Int32.ofNat il)), .val (.int (Int32.ofNat il)), .val (.int (Int32.ofNat zz)), .val (.int ld), .val (.ref b174), .val (.ref b176), .val (.int ((Int32.ofNat il) - (Int32.ofNat zz))), .val (.int (((Int32.ofNat k) - (Int32.ofNat il)) - (1 : Int32))), .val (.int (1 : Int32))] [])) (fun _ kz => XS.icmpNo X185.here hx rfl (hb hby at_174) rfl (teq (by rw [if_neg (show ¬ IX cs = cs.length by omega), hix, hlz, hcl, if_neg hc150_181, if_neg hc157_183])).2 kz) ?_
        refine Goes.step (T' := T185) (g' := (mkF m 178 #[.val (.int p0), .val (.int p1), .val (.int p2), .val (.int p3), .val (.int p4), .val (.int p5), .val (.int (Int32.ofNat k)), .val (.int (1 : Int32)), .val (.int (Int32.ofNat il)), .val (.int (Int32.ofNat il)), .val (.int (Int32.ofNat zz)), .val (.int ld), .val (.ref b174), .val (.ref b176), .val (.int ((Int32.ofNat il) - (Int32.ofNat zz))), .val (.int (((Int32.ofNat k) - (Int32.ofNat il)) - (1 : Int32))), .val (.int (1 : Int32))] [(.int (1 : Int32))])) (fun _ kz => XS.iconst X185.here hx rfl (hb hby at_177) kz) ?_
        refine Goes.step (T' := T185) (g' := (mkF m 182 #[.val (.int p0), .val (.int p1), .val (.int p2), .val (.int p3), .val (.int p4), .val (.int p5), .val (.int (Int32.ofNat k)), .val (.int (1 : Int32)), .val (.int (Int32.ofNat il)), .val (.int (Int32.ofNat il)), .val (.int (Int32.ofNat zz)), .val (.int ld), .val (.ref b174), .val (.ref b176), .val (.int ((Int32.ofNat il) - (Int32.ofNat zz))), .val (.int (((Int32.ofNat k) - (Int32.ofNat il)) - (1 : Int32))), .val (.int (1 : Int32))] [(.int (1 : Int32))])) (fun _ kz => XS.goto X185.here hx rfl (pc0 := 178) (pc' := 182) rfl (hb hby at_178) (by decide) (by decide) kz) ?_
        obtain ⟨fs, hr, hrun, hended, hW, hsame⟩ := X185.leave (v := some (.int (nar .boolean (1 : Int32)))) (fun h => by rw [Bd.returns] at h; cases h)
        exact ⟨_, _, retN X185 hx (t := .boolean) Bd.returns (by simp) (hb hby at_182) hr, hrun, hended, _, _, rfl, (by show Q_law Z p0 p1 p2 p3 p4 p5 h0 n0 _ T185.heap _; rw [e185]; exact ⟨rfl, N0, K0⟩), ⟨_, rfl⟩, hW, hsame.mono (by decide) (by decide)⟩
set_option maxRecDepth 65536 in
set_option maxHeartbeats 40000000 in
theorem comes_1 {Post : Tables → Env → Array Value → State → Outcome → State → Prop} (hpost : ∀ tb e args s v u, (limb_1_1.after args s (.returned v) u = true ∧ limb_1_2.after args s (.returned v) u = true ∧ True) → FrameEnd s (.returned v) u (Jvm.fieldLocs frame_1_writes args s ++ Jvm.arrayLocs frame_1_arrays args s ++ Jvm.staticLocs frame_1_statics s) 16 256 → Post tb e args s (.returned v) u) :
    ArmFor flags0 classFile x code maxLocals ret World_1 tables_1 room_1 Calls_1 rest_1 Pre_1 Post := by
  intro l hfl _ _ p e ha hc hk s m args below hf hA hF happ hP
  obtain ⟨hcalls, hrest, hpre⟩ := hP
  obtain ⟨-, -, -, hnamed, -, -, -, hat⟩ := (Spec.applies_iff hf).mp happ
  obtain ⟨hg, hn⟩ := and_e (Cond.before_iff.mp (show (Jvm.Cond.and given_1 narrow_1).before args s = true from hpre))
  obtain ⟨hg0, hr0⟩ := and_e hg
  obtain ⟨ha0, hr1⟩ := and_e hr0
  obtain ⟨ha1, hr2⟩ := and_e hr1
  obtain ⟨ha2, hr3⟩ := and_e hr2
  obtain ⟨ha3, hr4⟩ := and_e hr3
  obtain ⟨ha4, hr5⟩ := and_e hr4
  have ha5 := hr5
  obtain ⟨w0, w1, w2, w3, w4, w5, rfl⟩ : ∃ w0 w1 w2 w3 w4 w5 : Value, args = #[w0, w1, w2, w3, w4, w5] := by
    have hs : args.size = 6 := by simpa [Cond.value, given_1] using hg0
    obtain ⟨L⟩ := args
    match L, hs with
    | [w0, w1, w2, w3, w4, w5], _ => exact ⟨w0, w1, w2, w3, w4, w5, rfl⟩
  have hw := fun d (hd : d ∈ tables_1) => atoms_spec (ws := Jvm.Cond.code x code maxLocals ret :: tables_1) hat d (List.mem_cons_of_mem _ hd)
  obtain ⟨hsets, hown0⟩ := atoms_of _ (rest_1_c_eq ▸ (show rest_1_c.before _ s = true from hrest))
  obtain ⟨i0, ei0⟩ := is_v ha0
  obtain rfl : w0 = (.int i0) := Option.some.inj ei0
  obtain ⟨i1, ei1⟩ := is_v ha1
  obtain rfl : w1 = (.int i1) := Option.some.inj ei1
  obtain ⟨i2, ei2⟩ := is_v ha2
  obtain rfl : w2 = (.int i2) := Option.some.inj ei2
  obtain ⟨i3, ei3⟩ := is_v ha3
  obtain rfl : w3 = (.int i3) := Option.some.inj ei3
  obtain ⟨i4, ei4⟩ := is_v ha4
  obtain rfl : w4 = (.int i4) := Option.some.inj ei4
  obtain ⟨i5, ei5⟩ := is_v ha5
  obtain rfl : w5 = (.int i5) := Option.some.inj ei5
  have nn_Scs := not_v (Cond.before_iff.mp (hsets _ (List.mem_of_getElem? (i := 2) rfl)))
  obtain ⟨zcs, es_Scs⟩ := is_v (Cond.before_iff.mp (hsets _ (List.mem_of_getElem? (i := 1) rfl)))
  have Scs : Sta s s.heap "java/lang/String" "COMPACT_STRINGS" "Z" (.int zcs) := Sta.start es_Scs (Or.inl (hsets _ (List.mem_of_getElem? (i := 0) rfl)))
  have hz_Scs : ¬ (zcs = (0 : Int32)) := gotF (Cond.eq_ints es_Scs (Term.int_eval (0))) nn_Scs
  obtain ⟨fmt, es_Sfm, hz_Sfm⟩ := isR_v (Cond.before_iff.mp (hsets _ (List.mem_of_getElem? (i := 8) rfl)))
  have Sfm : Sta s s.heap "jdk/internal/util/Preconditions" "SIOOBE_FORMATTER" "Ljava/util/function/BiFunction;" fmt := Sta.start es_Sfm (Or.inl (hsets _ (List.mem_of_getElem? (i := 7) rfl)))
  obtain ⟨n, o, h1, h2, h3, _, L, rfl, ⟨rfl, N, -⟩, hq⟩ := rm_law l s _ hw tables_1 i0 i1 i2 i3 i4 i5 s.heap s.heap.size (Old.start s) zcs Scs hz_Scs fmt Sfm hz_Sfm p e ha hc hk s m _ below hf ((Spec.applies_iff_loose hf).mp happ).1 ⟨rfl, State.Warmed39.refl s, rfl⟩ trivial
  refine ⟨n, _, h1, h2, h3, hpost _ _ _ _ _ _ ⟨Cond.after_iff.mpr rfl, Cond.after_iff.mpr (eq_i res_at (Term.int_eval (1)) rfl), trivial⟩ ⟨hq.1, hq.2.1, (hq.2.2.sift fun y hy => Or.inr (N y hy)).mono (by decide) (by decide)⟩⟩
theorem main_1_1 : Claimed_1_1 := comes_1 fun _ _ _ _ _ _ h hF => ⟨h.1, hF⟩
theorem main_1_2 : Claimed_1_2 := comes_1 fun _ _ _ _ _ _ h hF => ⟨h.2.1, hF⟩
end Jvm.Pilot.@@N@@
namespace Jvm.Pilot.@@N@@
open Jvm Jvm.ClassFile Sem Op Lib Jvm.Free Jvm.Stand Jvm.Pilot.@@N@@.Jvm.D
/-! MADE BY PROGRAM (witnessworld.py) out of the Statement's table words and the real class files: 21 classes; the members and pool entries that the words name. The judged class is class 1, her method 1. -/
namespace start1
open Jvm.ClassFile
def u (s : String) : CpInfo := .utf8 (stringToUtf16 s)
/-- a pool by its gaps: so many unusable entries, then the entry; so many at the end -/
def gap : Nat → List CpInfo → List CpInfo
  | 0, r => r
  | n + 1, r => .unusable :: gap n r
def poolList (es : List (Nat × CpInfo)) (last : Nat) : List CpInfo := es.foldr (fun e r => gap e.1 (e.2 :: r)) (gap last [])
def pool (es : List (Nat × CpInfo)) (last : Nat) : Array CpInfo := ⟨poolList es last⟩
def fileOf (pool : Array CpInfo) (this : Nat) (attrs : Array Attribute := #[]) (ms : Array MethodInfo := #[]) (fl : Nat := 33) (sup : Nat := 0) (ifs : Array Nat := #[]) (fds : Array FieldInfo := #[]) : ClassFile where
  minorVersion := 0
  majorVersion := 65
  constantPool := pool
  accessFlags := fl
  thisClass := this
  superClass := sup
  interfaces := ifs
  fields := fds
  methods := ms
  attributes := attrs
def plain (name : String) (sup : Option ClassId) : Class where
  name := name
  kind := .ordinary
  loader := none
  accessFlags := 33
  super := sup
  interfaces := #[]
  cf := none
  fields := #[]
  methods := #[]
  instanceTypes := #[]
  staticTypes := #[]
  resolved := #[]
  callSites := []
  init := .initialized
  statics := none
  mirror := none

def pool0 : Array CpInfo := pool [(5, u "<init>"), (0, u "()V"), (1, .class_ 10), (1, u "java/lang/Object")] 113

def k0c0 : Code := { maxStack := 0, maxLocals := 1, code := object_method_1_code, exceptionTable := #[], attributes := #[] }
def k0m0 : Method := { name := "<init>", desc := "()V", sig := { parameters := [], returnType := none }, accessFlags := 1, code := some k0c0 }
/-- java/lang/Object -/
def k0 : Class := { plain "java/lang/Object" none with
  accessFlags := 33
  interfaces := #[]
  cf := some (fileOf pool0 8 #[] #[{ accessFlags := 1, nameIndex := 5, descriptorIndex := 6, attributes := #[] }] 33 0 #[] #[])
  fields := #[]
  methods := #[k0m0]
  instanceTypes := #[]
  staticTypes := #[]
  resolved := Array.replicate 124 none
  statics := none }

def pool1 : Array CpInfo := pool [(2, .class_ 4), (1, u "java/lang/Object"), (0, u "<init>"), (0, u "()V"), (0, .integer 2147483647), (0, .methodref 9 10), (0, .class_ 11), (0, .nameAndType 12 13), (0, u "com/example/tariff/tariff/core/decimal/PlainDecimalIsBoundedPinLaw"), (0, u "fill"), (0, u "([CIICI)V"), (0, .class_ 15), (0, u "java/lang/String"), (0, .methodref 14 17), (0, .nameAndType 5 18), (0, u "([C)V"), (0, .methodref 20 21), (0, .class_ 22), (0, .nameAndType 23 24), (0, u "com/example/tariff/tariff/core/decimal/PlainDecimal"), (0, u "isBounded"), (0, u "(Ljava/lang/String;)Z"), (0, .methodref 9 26), (0, .nameAndType 27 28), (0, u "at"), (0, u "(IIICI)C"), (0, .methodref 9 30), (0, .nameAndType 31 32), (0, u "put"), (0, u "([CIIICI)V"), (2, u "law"), (0, u "(IIIIII)Z")] 5

def k1m0 : Method := { name := "<init>", desc := "()V", sig := { parameters := [], returnType := none }, accessFlags := 2, code := none }
def k1c1 : Code := { maxStack := 5, maxLocals := 17, code := code, exceptionTable := #[], attributes := #[] }
def k1m1 : Method := { name := "law", desc := "(IIIIII)Z", sig := { parameters := [.int, .int, .int, .int, .int, .int], returnType := some .boolean }, accessFlags := 9, code := some k1c1 }
def k1c2 : Code := { maxStack := 4, maxLocals := 5, code := method_3_code, exceptionTable := #[], attributes := #[] }
def k1m2 : Method := { name := "at", desc := "(IIICI)C", sig := { parameters := [.int, .int, .int, .char, .int], returnType := some .char }, accessFlags := 10, code := some k1c2 }
def k1c3 : Code := { maxStack := 7, maxLocals := 6, code := method_4_code, exceptionTable := #[], attributes := #[] }
def k1m3 : Method := { name := "put", desc := "([CIIICI)V", sig := { parameters := [(.array .char), .int, .int, .int, .char, .int], returnType := none }, accessFlags := 10, code := some k1c3 }
def k1c4 : Code := { maxStack := 6, maxLocals := 5, code := method_5_code, exceptionTable := #[], attributes := #[] }
def k1m4 : Method := { name := "fill", desc := "([CIICI)V", sig := { parameters := [(.array .char), .int, .int, .char, .int], returnType := none }, accessFlags := 10, code := some k1c4 }
/-- com/example/tariff/tariff/core/decimal/PlainDecimalIsBoundedPinLaw -/
def k1 : Class := { plain "com/example/tariff/tariff/core/decimal/PlainDecimalIsBoundedPinLaw" (some 0) with
  accessFlags := 49
  interfaces := #[]
  cf := some (fileOf pool1 9 #[] #[{ accessFlags := 2, nameIndex := 5, descriptorIndex := 6, attributes := #[] }, { accessFlags := 9, nameIndex := 35, descriptorIndex := 36, attributes := #[] }, { accessFlags := 10, nameIndex := 27, descriptorIndex := 28, attributes := #[] }, { accessFlags := 10, nameIndex := 31, descriptorIndex := 32, attributes := #[] }, { accessFlags := 10, nameIndex := 12, descriptorIndex := 13, attributes := #[] }] 49 2 #[] #[])
  fields := #[]
  methods := #[k1m0, k1m1, k1m2, k1m3, k1m4]
  instanceTypes := #[]
  staticTypes := #[]
  resolved := Array.replicate 42 none
  statics := none }

def pool2 : Array CpInfo := pool [(1, .class_ 2), (0, u "java/io/Serializable"), (0, .class_ 4), (0, u "java/lang/Object")] 2

/-- java/io/Serializable -/
def k2 : Class := { plain "java/io/Serializable" (some 0) with
  accessFlags := 1537
  interfaces := #[]
  cf := some (fileOf pool2 1 #[] #[] 1537 3 #[] #[])
  fields := #[]
  methods := #[]
  instanceTypes := #[]
  staticTypes := #[]
  resolved := Array.replicate 7 none
  statics := none }

def pool3 : Array CpInfo := pool [(1, .class_ 2), (0, u "java/lang/Comparable"), (0, .class_ 4), (0, u "java/lang/Object")] 7

/-- java/lang/Comparable -/
def k3 : Class := { plain "java/lang/Comparable" (some 0) with
  accessFlags := 1537
  interfaces := #[]
  cf := some (fileOf pool3 1 #[] #[] 1537 3 #[] #[])
  fields := #[]
  methods := #[]
  instanceTypes := #[]
  staticTypes := #[]
  resolved := Array.replicate 12 none
  statics := none }

def pool4 : Array CpInfo := pool [(2, .class_ 4), (1, u "java/lang/CharSequence"), (42, .class_ 48), (0, u "java/lang/CharSequence$1CodePointIterator"), (10, .class_ 60), (0, u "java/lang/CharSequence$1CharIterator"), (5, .class_ 67), (0, u "java/lang/Object")] 63

/-- java/lang/CharSequence -/
def k4 : Class := { plain "java/lang/CharSequence" (some 0) with
  accessFlags := 1537
  interfaces := #[]
  cf := some (fileOf pool4 2 #[.nestMembers #[47, 59]] #[] 1537 66 #[] #[])
  fields := #[]
  methods := #[]
  instanceTypes := #[]
  staticTypes := #[]
  resolved := Array.replicate 131 none
  statics := none }

def pool5 : Array CpInfo := pool [(1, .class_ 2), (0, u "java/lang/constant/Constable"), (0, .class_ 4), (0, u "java/lang/Object")] 6

/-- java/lang/constant/Constable -/
def k5 : Class := { plain "java/lang/constant/Constable" (some 0) with
  accessFlags := 1537
  interfaces := #[]
  cf := some (fileOf pool5 1 #[] #[] 1537 3 #[] #[])
  fields := #[]
  methods := #[]
  instanceTypes := #[]
  staticTypes := #[]
  resolved := Array.replicate 11 none
  statics := none }

def pool6 : Array CpInfo := pool [(1, .class_ 2), (0, u "java/lang/constant/ConstantDesc"), (0, .class_ 4), (0, u "java/lang/Object")] 32

/-- java/lang/constant/ConstantDesc -/
def k6 : Class := { plain "java/lang/constant/ConstantDesc" (some 0) with
  accessFlags := 1537
  interfaces := #[]
  cf := some (fileOf pool6 1 #[] #[] 1537 3 #[] #[])
  fields := #[]
  methods := #[]
  instanceTypes := #[]
  staticTypes := #[]
  resolved := Array.replicate 37 none
  statics := none }

def pool7 : Array CpInfo := pool [(1, .methodref 2 3), (0, .class_ 4), (0, .nameAndType 5 6), (0, u "java/lang/Object"), (0, u "<init>"), (0, u "()V"), (2, .fieldref 10 11), (0, .class_ 12), (0, .nameAndType 13 14), (0, u "java/lang/String"), (0, u "value"), (0, u "[B"), (0, .fieldref 10 16), (0, .nameAndType 17 18), (0, u "coder"), (0, u "B"), (2, u "hash"), (0, u "I"), (2, u "hashIsZero"), (0, u "Z"), (0, .methodref 10 28), (0, .nameAndType 5 29), (0, u "([CIILjava/lang/Void;)V"), (8, .fieldref 10 39), (0, .nameAndType 40 26), (0, u "COMPACT_STRINGS"), (1, .class_ 44), (1, u "java/lang/StringUTF16"), (0, u "compress"), (1, .methodref 42 48), (0, .nameAndType 49 50), (0, u "coderFromArrayLen"), (0, u "([BI)B"), (56, .class_ 109), (1, u "java/lang/StringLatin1"), (32, u "()Z"), (34, .methodref 42 178), (0, .nameAndType 45 179), (0, u "([CII)[B"), (154, u "()I"), (0, .methodref 10 336), (0, .nameAndType 17 337), (0, u "()B"), (25, u "([BI)C"), (27, u "(II)V"), (35, u "(I)C"), (64, .methodref 10 493), (0, .nameAndType 494 142), (0, u "isLatin1"), (0, .methodref 107 496), (0, .nameAndType 497 363), (0, u "charAt"), (3, u "checkIndex"), (3, .methodref 10 506), (0, .nameAndType 507 334), (0, u "length"), (67, .class_ 576), (0, u "java/lang/CharSequence"), (22, u "CASE_INSENSITIVE_ORDER"), (0, u "Ljava/util/Comparator;"), (32, .methodref 10 634), (0, .nameAndType 635 636), (0, u "indexOf"), (0, u "(II)I"), (0, .methodref 107 638), (0, .nameAndType 635 639), (0, u "([BIII)I"), (125, u "(I)I"), (244, u "([C)V"), (42, .fieldref 1054 1055), (0, .class_ 1056), (0, .nameAndType 1057 1058), (0, u "jdk/internal/util/Preconditions"), (0, u "SIOOBE_FORMATTER"), (0, u "Ljava/util/function/BiFunction;"), (0, .methodref 1054 1060), (0, .nameAndType 501 1061), (0, u "(IILjava/util/function/BiFunction;)I"), (39, u "serialPersistentFields"), (0, u "[Ljava/io/ObjectStreamField;"), (0, .class_ 1104), (0, u "java/lang/String$CaseInsensitiveComparator"), (1, .class_ 1107), (0, u "java/io/Serializable"), (0, .class_ 1109), (0, u "java/lang/Comparable"), (0, .class_ 1111), (0, u "java/lang/constant/Constable"), (0, .class_ 1113), (0, u "java/lang/constant/ConstantDesc"), (2, u "serialVersionUID"), (0, u "J"), (3, u "REPL"), (0, u "C"), (2, u "LATIN1"), (1, u "UTF16")] 323

def k7m0 : Method := { name := "<init>", desc := "()V", sig := { parameters := [], returnType := none }, accessFlags := 1, code := none }
def k7c1 : Code := { maxStack := 5, maxLocals := 2, code := jdk_42_method_3_code, exceptionTable := #[], attributes := #[] }
def k7m1 : Method := { name := "<init>", desc := "([C)V", sig := { parameters := [(.array .char)], returnType := none }, accessFlags := 1, code := some k7c1 }
def k7c2 : Code := { maxStack := 2, maxLocals := 1, code := jdk_42_method_54_code, exceptionTable := #[], attributes := #[] }
def k7m2 : Method := { name := "length", desc := "()I", sig := { parameters := [], returnType := some .int }, accessFlags := 1, code := some k7c2 }
def k7c3 : Code := { maxStack := 2, maxLocals := 2, code := jdk_42_method_56_code, exceptionTable := #[], attributes := #[] }
def k7m3 : Method := { name := "charAt", desc := "(I)C", sig := { parameters := [.int], returnType := some .char }, accessFlags := 1, code := some k7c3 }
def k7c4 : Code := { maxStack := 3, maxLocals := 2, code := jdk_42_method_79_code, exceptionTable := #[], attributes := #[] }
def k7m4 : Method := { name := "indexOf", desc := "(I)I", sig := { parameters := [.int], returnType := some .int }, accessFlags := 1, code := some k7c4 }
def k7c5 : Code := { maxStack := 4, maxLocals := 3, code := jdk_42_method_80_code, exceptionTable := #[], attributes := #[] }
def k7m5 : Method := { name := "indexOf", desc := "(II)I", sig := { parameters := [.int, .int], returnType := some .int }, accessFlags := 1, code := some k7c5 }
def k7c6 : Code := { maxStack := 4, maxLocals := 6, code := jdk_42_method_149_code, exceptionTable := #[], attributes := #[] }
def k7m6 : Method := { name := "<init>", desc := "([CIILjava/lang/Void;)V", sig := { parameters := [(.array .char), .int, .int, (.object "java/lang/Void")], returnType := none }, accessFlags := 2, code := some k7c6 }
def k7c7 : Code := { maxStack := 1, maxLocals := 1, code := jdk_42_method_152_code, exceptionTable := #[], attributes := #[] }
def k7m7 : Method := { name := "coder", desc := "()B", sig := { parameters := [], returnType := some .byte }, accessFlags := 0, code := some k7c7 }
def k7c8 : Code := { maxStack := 1, maxLocals := 1, code := jdk_42_method_154_code, exceptionTable := #[], attributes := #[] }
def k7m8 : Method := { name := "isLatin1", desc := "()Z", sig := { parameters := [], returnType := some .boolean }, accessFlags := 0, code := some k7c8 }
def k7c9 : Code := { maxStack := 3, maxLocals := 2, code := jdk_42_method_155_code, exceptionTable := #[], attributes := #[] }
def k7m9 : Method := { name := "checkIndex", desc := "(II)V", sig := { parameters := [.int, .int], returnType := none }, accessFlags := 8, code := some k7c9 }
/-- java/lang/String -/
def k7 : Class := { plain "java/lang/String" (some 0) with
  accessFlags := 49
  interfaces := #[2, 3, 4, 5, 6]
  cf := some (fileOf pool7 10 #[.nestMembers #[1103]] #[{ accessFlags := 1, nameIndex := 5, descriptorIndex := 6, attributes := #[] }, { accessFlags := 1, nameIndex := 5, descriptorIndex := 1010, attributes := #[] }, { accessFlags := 1, nameIndex := 507, descriptorIndex := 334, attributes := #[] }, { accessFlags := 1, nameIndex := 497, descriptorIndex := 427, attributes := #[] }, { accessFlags := 1, nameIndex := 635, descriptorIndex := 765, attributes := #[] }, { accessFlags := 1, nameIndex := 635, descriptorIndex := 636, attributes := #[] }, { accessFlags := 2, nameIndex := 5, descriptorIndex := 29, attributes := #[] }, { accessFlags := 0, nameIndex := 17, descriptorIndex := 337, attributes := #[] }, { accessFlags := 0, nameIndex := 494, descriptorIndex := 142, attributes := #[] }, { accessFlags := 8, nameIndex := 501, descriptorIndex := 391, attributes := #[] }] 49 2 #[1106, 1108, 575, 1110, 1112] #[{ accessFlags := 18, nameIndex := 13, descriptorIndex := 14, attributes := #[] }, { accessFlags := 18, nameIndex := 17, descriptorIndex := 18, attributes := #[] }, { accessFlags := 2, nameIndex := 21, descriptorIndex := 22, attributes := #[] }, { accessFlags := 2, nameIndex := 25, descriptorIndex := 26, attributes := #[] }, { accessFlags := 26, nameIndex := 1116, descriptorIndex := 1117, attributes := #[] }, { accessFlags := 24, nameIndex := 40, descriptorIndex := 26, attributes := #[] }, { accessFlags := 26, nameIndex := 1101, descriptorIndex := 1102, attributes := #[] }, { accessFlags := 26, nameIndex := 1121, descriptorIndex := 1122, attributes := #[] }, { accessFlags := 25, nameIndex := 599, descriptorIndex := 600, attributes := #[] }, { accessFlags := 24, nameIndex := 1125, descriptorIndex := 18, attributes := #[] }, { accessFlags := 24, nameIndex := 1127, descriptorIndex := 18, attributes := #[] }])
  fields := #[{ name := "value", type := (.array .byte), accessFlags := 18, slot := 0, constantValue := 0 }, { name := "coder", type := .byte, accessFlags := 18, slot := 1, constantValue := 0 }, { name := "hash", type := .int, accessFlags := 2, slot := 2, constantValue := 0 }, { name := "hashIsZero", type := .boolean, accessFlags := 2, slot := 3, constantValue := 0 }, { name := "serialVersionUID", type := .long, accessFlags := 26, slot := 0, constantValue := 0 }, { name := "COMPACT_STRINGS", type := .boolean, accessFlags := 24, slot := 1, constantValue := 0 }, { name := "serialPersistentFields", type := (.array (.object "java/io/ObjectStreamField")), accessFlags := 26, slot := 2, constantValue := 0 }, { name := "REPL", type := .char, accessFlags := 26, slot := 3, constantValue := 0 }, { name := "CASE_INSENSITIVE_ORDER", type := (.object "java/util/Comparator"), accessFlags := 25, slot := 4, constantValue := 0 }, { name := "LATIN1", type := .byte, accessFlags := 24, slot := 5, constantValue := 0 }, { name := "UTF16", type := .byte, accessFlags := 24, slot := 6, constantValue := 0 }]
  methods := #[k7m0, k7m1, k7m2, k7m3, k7m4, k7m5, k7m6, k7m7, k7m8, k7m9]
  instanceTypes := #[(.array .byte), .byte, .int, .boolean]
  staticTypes := #[.long, .boolean, (.array (.object "java/io/ObjectStreamField")), .char, (.object "java/util/Comparator"), .byte, .byte]
  resolved := Array.replicate 1451 none
  statics := some 0 }

def pool8 : Array CpInfo := pool [(6, .class_ 8), (1, u "java/lang/Object"), (0, u "<init>"), (0, u "()V"), (1, .class_ 14), (1, u "java/lang/StringUTF16"), (31, u "$assertionsDisabled"), (0, u "Z"), (13, u "HI_BYTE_SHIFT"), (0, u "I"), (2, u "LO_BYTE_SHIFT"), (49, .methodref 12 116), (0, .nameAndType 117 118), (0, u "compress"), (0, u "([CI[BII)I"), (3, u "([CII)[B"), (138, u "coderFromArrayLen"), (0, u "([BI)B"), (106, .class_ 371), (1, u "java/lang/StringUTF16$LinesSpliterator"), (58, u "MAX_LENGTH"), (196, .class_ 628), (0, u "java/lang/StringUTF16$CodePointsSpliterator"), (0, .class_ 630), (0, u "java/lang/StringUTF16$CharsSpliterator")] 4

def k8m0 : Method := { name := "<init>", desc := "()V", sig := { parameters := [], returnType := none }, accessFlags := 0, code := none }
def k8c1 : Code := { maxStack := 2, maxLocals := 2, code := jdk_52_method_15_code, exceptionTable := #[], attributes := #[] }
def k8m1 : Method := { name := "coderFromArrayLen", desc := "([BI)B", sig := { parameters := [(.array .byte), .int], returnType := some .byte }, accessFlags := 8, code := some k8c1 }
def k8c2 : Code := { maxStack := 5, maxLocals := 6, code := jdk_52_method_16_code, exceptionTable := #[], attributes := #[] }
def k8m2 : Method := { name := "compress", desc := "([CII)[B", sig := { parameters := [(.array .char), .int, .int], returnType := some (.array .byte) }, accessFlags := 9, code := some k8c2 }
def k8c3 : Code := { maxStack := 3, maxLocals := 7, code := jdk_52_method_21_code, exceptionTable := #[], attributes := #[] }
def k8m3 : Method := { name := "compress", desc := "([CI[BII)I", sig := { parameters := [(.array .char), .int, (.array .byte), .int, .int], returnType := some .int }, accessFlags := 9, code := some k8c3 }
/-- java/lang/StringUTF16 -/
def k8 : Class := { plain "java/lang/StringUTF16" (some 0) with
  accessFlags := 48
  interfaces := #[]
  cf := some (fileOf pool8 12 #[.nestMembers #[627, 629, 369]] #[{ accessFlags := 0, nameIndex := 9, descriptorIndex := 10, attributes := #[] }, { accessFlags := 8, nameIndex := 261, descriptorIndex := 262, attributes := #[] }, { accessFlags := 9, nameIndex := 117, descriptorIndex := 122, attributes := #[] }, { accessFlags := 9, nameIndex := 117, descriptorIndex := 118, attributes := #[] }] 48 6 #[] #[{ accessFlags := 26, nameIndex := 61, descriptorIndex := 62, attributes := #[] }, { accessFlags := 26, nameIndex := 65, descriptorIndex := 62, attributes := #[] }, { accessFlags := 24, nameIndex := 430, descriptorIndex := 62, attributes := #[] }, { accessFlags := 4120, nameIndex := 46, descriptorIndex := 47, attributes := #[] }])
  fields := #[{ name := "HI_BYTE_SHIFT", type := .int, accessFlags := 26, slot := 0, constantValue := 0 }, { name := "LO_BYTE_SHIFT", type := .int, accessFlags := 26, slot := 1, constantValue := 0 }, { name := "MAX_LENGTH", type := .int, accessFlags := 24, slot := 2, constantValue := 0 }, { name := "$assertionsDisabled", type := .boolean, accessFlags := 4120, slot := 3, constantValue := 0 }]
  methods := #[k8m0, k8m1, k8m2, k8m3]
  instanceTypes := #[]
  staticTypes := #[.int, .int, .int, .boolean]
  resolved := Array.replicate 635 none
  statics := none }

def pool9 : Array CpInfo := pool [(1, .class_ 2), (0, u "com/example/tariff/tariff/core/decimal/PlainDecimal"), (1, .class_ 6), (1, u "java/lang/Object"), (0, u "<init>"), (0, u "()V"), (2, u "NOTATION"), (0, u "Ljava/util/regex/Pattern;"), (12, .methodref 1 26), (0, .nameAndType 27 28), (0, u "pointIndex"), (0, u "(Ljava/lang/String;)I"), (0, .methodref 30 31), (0, .class_ 32), (0, .nameAndType 33 34), (0, u "java/lang/String"), (0, u "charAt"), (0, u "(I)C"), (0, .methodref 30 36), (0, .nameAndType 37 38), (0, u "length"), (0, u "()I"), (0, .methodref 1 40), (0, .nameAndType 41 28), (0, u "integerDigits"), (0, .methodref 1 43), (0, .nameAndType 44 28), (0, u "fractionDigits"), (38, .methodref 30 84), (0, .nameAndType 85 86), (0, u "indexOf"), (0, u "(I)I"), (6, u "MAX_DIGITS"), (0, u "I"), (2, u "BEYOND_THE_BOUND"), (0, u "Ljava/lang/String;"), (4, u "(Ljava/lang/String;)Z"), (1, u "isBounded")] 8

def k9m0 : Method := { name := "<init>", desc := "()V", sig := { parameters := [], returnType := none }, accessFlags := 2, code := none }
def k9c1 : Code := { maxStack := 2, maxLocals := 3, code := prog_15_method_3_code, exceptionTable := #[], attributes := #[] }
def k9m1 : Method := { name := "integerDigits", desc := "(Ljava/lang/String;)I", sig := { parameters := [(.object "java/lang/String")], returnType := some .int }, accessFlags := 9, code := some k9c1 }
def k9c2 : Code := { maxStack := 2, maxLocals := 2, code := prog_15_method_4_code, exceptionTable := #[], attributes := #[] }
def k9m2 : Method := { name := "fractionDigits", desc := "(Ljava/lang/String;)I", sig := { parameters := [(.object "java/lang/String")], returnType := some .int }, accessFlags := 9, code := some k9c2 }
def k9c3 : Code := { maxStack := 2, maxLocals := 1, code := prog_15_method_5_code, exceptionTable := #[], attributes := #[] }
def k9m3 : Method := { name := "isBounded", desc := "(Ljava/lang/String;)Z", sig := { parameters := [(.object "java/lang/String")], returnType := some .boolean }, accessFlags := 9, code := some k9c3 }
def k9c4 : Code := { maxStack := 2, maxLocals := 2, code := prog_15_method_9_code, exceptionTable := #[], attributes := #[] }
def k9m4 : Method := { name := "pointIndex", desc := "(Ljava/lang/String;)I", sig := { parameters := [(.object "java/lang/String")], returnType := some .int }, accessFlags := 10, code := some k9c4 }
/-- com/example/tariff/tariff/core/decimal/PlainDecimal -/
def k9 : Class := { plain "com/example/tariff/tariff/core/decimal/PlainDecimal" (some 0) with
  accessFlags := 49
  interfaces := #[]
  cf := some (fileOf pool9 1 #[] #[{ accessFlags := 2, nameIndex := 7, descriptorIndex := 8, attributes := #[] }, { accessFlags := 9, nameIndex := 41, descriptorIndex := 28, attributes := #[] }, { accessFlags := 9, nameIndex := 44, descriptorIndex := 28, attributes := #[] }, { accessFlags := 9, nameIndex := 105, descriptorIndex := 103, attributes := #[] }, { accessFlags := 10, nameIndex := 27, descriptorIndex := 28, attributes := #[] }] 49 4 #[] #[{ accessFlags := 25, nameIndex := 93, descriptorIndex := 94, attributes := #[] }, { accessFlags := 25, nameIndex := 97, descriptorIndex := 98, attributes := #[] }, { accessFlags := 26, nameIndex := 11, descriptorIndex := 12, attributes := #[] }])
  fields := #[{ name := "MAX_DIGITS", type := .int, accessFlags := 25, slot := 0, constantValue := 0 }, { name := "BEYOND_THE_BOUND", type := (.object "java/lang/String"), accessFlags := 25, slot := 1, constantValue := 0 }, { name := "NOTATION", type := (.object "java/util/regex/Pattern"), accessFlags := 26, slot := 2, constantValue := 0 }]
  methods := #[k9m0, k9m1, k9m2, k9m3, k9m4]
  instanceTypes := #[]
  staticTypes := #[.int, (.object "java/lang/String"), (.object "java/util/regex/Pattern")]
  resolved := Array.replicate 114 none
  statics := none }

def pool10 : Array CpInfo := pool [(1, .class_ 2), (0, u "java/lang/String"), (1, .class_ 6), (1, u "java/lang/Object"), (0, u "<init>"), (0, u "()V"), (0, .methodref 1 10), (0, .nameAndType 11 12), (0, u "checkIndex"), (0, u "(II)V"), (1, .class_ 16), (1, u "java/lang/StringLatin1"), (21, .methodref 39 40), (0, .class_ 41), (0, .nameAndType 42 43), (0, u "java/lang/Math"), (0, u "min"), (0, u "(II)I"), (9, u "([BI)C"), (34, .methodref 14 89), (0, .nameAndType 90 91), (0, u "canEncode"), (0, u "(I)Z"), (0, .methodref 39 93), (0, .nameAndType 94 43), (0, u "max"), (0, .methodref 14 96), (0, .nameAndType 97 98), (0, u "indexOfChar"), (0, u "([BIII)I"), (2, u "indexOf"), (19, u "$assertionsDisabled"), (0, u "Z"), (98, .class_ 223), (1, u "java/lang/StringLatin1$LinesSpliterator"), (28, u "charAt"), (137, .class_ 391), (0, u "java/lang/StringLatin1$CharsSpliterator")] 3

def k10m0 : Method := { name := "<init>", desc := "()V", sig := { parameters := [], returnType := none }, accessFlags := 0, code := none }
def k10c1 : Code := { maxStack := 2, maxLocals := 2, code := jdk_43_method_2_code, exceptionTable := #[], attributes := #[] }
def k10m1 : Method := { name := "charAt", desc := "([BI)C", sig := { parameters := [(.array .byte), .int], returnType := some .char }, accessFlags := 9, code := some k10c1 }
def k10c2 : Code := { maxStack := 2, maxLocals := 1, code := jdk_43_method_4_code, exceptionTable := #[], attributes := #[] }
def k10m2 : Method := { name := "canEncode", desc := "(I)Z", sig := { parameters := [.int], returnType := some .boolean }, accessFlags := 9, code := some k10c2 }
def k10c3 : Code := { maxStack := 4, maxLocals := 4, code := jdk_43_method_22_code, exceptionTable := #[], attributes := #[] }
def k10m3 : Method := { name := "indexOf", desc := "([BIII)I", sig := { parameters := [(.array .byte), .int, .int, .int], returnType := some .int }, accessFlags := 9, code := some k10c3 }
def k10c4 : Code := { maxStack := 2, maxLocals := 6, code := jdk_43_method_23_code, exceptionTable := #[], attributes := #[] }
def k10m4 : Method := { name := "indexOfChar", desc := "([BIII)I", sig := { parameters := [(.array .byte), .int, .int, .int], returnType := some .int }, accessFlags := 10, code := some k10c4 }
/-- java/lang/StringLatin1 -/
def k10 : Class := { plain "java/lang/StringLatin1" (some 0) with
  accessFlags := 48
  interfaces := #[]
  cf := some (fileOf pool10 14 #[.nestMembers #[390, 221]] #[{ accessFlags := 0, nameIndex := 7, descriptorIndex := 8, attributes := #[] }, { accessFlags := 9, nameIndex := 252, descriptorIndex := 53, attributes := #[] }, { accessFlags := 9, nameIndex := 90, descriptorIndex := 91, attributes := #[] }, { accessFlags := 9, nameIndex := 101, descriptorIndex := 98, attributes := #[] }, { accessFlags := 10, nameIndex := 97, descriptorIndex := 98, attributes := #[] }] 48 4 #[] #[{ accessFlags := 4120, nameIndex := 121, descriptorIndex := 122, attributes := #[] }])
  fields := #[{ name := "$assertionsDisabled", type := .boolean, accessFlags := 4120, slot := 0, constantValue := 0 }]
  methods := #[k10m0, k10m1, k10m2, k10m3, k10m4]
  instanceTypes := #[]
  staticTypes := #[.boolean]
  resolved := Array.replicate 395 none
  statics := none }

def pool11 : Array CpInfo := pool [(1, .class_ 2), (0, u "java/lang/Math"), (1, .class_ 6), (1, u "java/lang/Object"), (0, u "<init>"), (0, u "()V"), (89, .class_ 100), (1, u "java/lang/Math$RandomNumberGeneratorHolder"), (71, u "negativeZeroFloatBits"), (0, u "J"), (2, u "negativeZeroDoubleBits"), (21, u "max"), (2, u "min"), (43, u "$assertionsDisabled"), (0, u "Z"), (88, u "(II)I"), (2, u "twoToTheDoubleScaleDown"), (0, u "D"), (4, u "twoToTheDoubleScaleUp"), (9, u "E"), (3, u "PI"), (2, u "TAU"), (2, u "DEGREES_TO_RADIANS"), (0, u "RADIANS_TO_DEGREES")] 94

def k11m0 : Method := { name := "<init>", desc := "()V", sig := { parameters := [], returnType := none }, accessFlags := 2, code := none }
def k11c1 : Code := { maxStack := 2, maxLocals := 2, code := jdk_29_method_65_code, exceptionTable := #[], attributes := #[] }
def k11m1 : Method := { name := "max", desc := "(II)I", sig := { parameters := [.int, .int], returnType := some .int }, accessFlags := 9, code := some k11c1 }
def k11c2 : Code := { maxStack := 2, maxLocals := 2, code := jdk_29_method_69_code, exceptionTable := #[], attributes := #[] }
def k11m2 : Method := { name := "min", desc := "(II)I", sig := { parameters := [.int, .int], returnType := some .int }, accessFlags := 9, code := some k11c2 }
/-- java/lang/Math -/
def k11 : Class := { plain "java/lang/Math" (some 0) with
  accessFlags := 49
  interfaces := #[]
  cf := some (fileOf pool11 1 #[.nestMembers #[98]] #[{ accessFlags := 2, nameIndex := 7, descriptorIndex := 8, attributes := #[] }, { accessFlags := 9, nameIndex := 198, descriptorIndex := 335, attributes := #[] }, { accessFlags := 9, nameIndex := 201, descriptorIndex := 335, attributes := #[] }] 49 4 #[] #[{ accessFlags := 25, nameIndex := 354, descriptorIndex := 339, attributes := #[] }, { accessFlags := 25, nameIndex := 358, descriptorIndex := 339, attributes := #[] }, { accessFlags := 25, nameIndex := 361, descriptorIndex := 339, attributes := #[] }, { accessFlags := 26, nameIndex := 364, descriptorIndex := 339, attributes := #[] }, { accessFlags := 26, nameIndex := 365, descriptorIndex := 339, attributes := #[] }, { accessFlags := 26, nameIndex := 172, descriptorIndex := 173, attributes := #[] }, { accessFlags := 26, nameIndex := 176, descriptorIndex := 173, attributes := #[] }, { accessFlags := 8, nameIndex := 344, descriptorIndex := 339, attributes := #[] }, { accessFlags := 8, nameIndex := 338, descriptorIndex := 339, attributes := #[] }, { accessFlags := 4120, nameIndex := 245, descriptorIndex := 246, attributes := #[] }])
  fields := #[{ name := "E", type := .double, accessFlags := 25, slot := 0, constantValue := 0 }, { name := "PI", type := .double, accessFlags := 25, slot := 1, constantValue := 0 }, { name := "TAU", type := .double, accessFlags := 25, slot := 2, constantValue := 0 }, { name := "DEGREES_TO_RADIANS", type := .double, accessFlags := 26, slot := 3, constantValue := 0 }, { name := "RADIANS_TO_DEGREES", type := .double, accessFlags := 26, slot := 4, constantValue := 0 }, { name := "negativeZeroFloatBits", type := .long, accessFlags := 26, slot := 5, constantValue := 0 }, { name := "negativeZeroDoubleBits", type := .long, accessFlags := 26, slot := 6, constantValue := 0 }, { name := "twoToTheDoubleScaleUp", type := .double, accessFlags := 8, slot := 7, constantValue := 0 }, { name := "twoToTheDoubleScaleDown", type := .double, accessFlags := 8, slot := 8, constantValue := 0 }, { name := "$assertionsDisabled", type := .boolean, accessFlags := 4120, slot := 9, constantValue := 0 }]
  methods := #[k11m0, k11m1, k11m2]
  instanceTypes := #[]
  staticTypes := #[.double, .double, .double, .double, .double, .long, .long, .double, .double, .boolean]
  resolved := Array.replicate 460 none
  statics := none }

def pool12 : Array CpInfo := pool [(2, .class_ 4), (1, u "java/lang/Object"), (0, u "<init>"), (0, u "()V"), (17, .class_ 26), (1, u "jdk/internal/util/Preconditions"), (6, u "checkIndex"), (21, .class_ 56), (0, u "jdk/internal/util/Preconditions$4"), (57, .class_ 115), (0, u "jdk/internal/util/Preconditions$1"), (7, u "SIOOBE_FORMATTER"), (0, u "Ljava/util/function/BiFunction;"), (0, .class_ 126), (0, u "jdk/internal/util/Preconditions$2"), (3, u "AIOOBE_FORMATTER"), (0, .class_ 132), (0, u "jdk/internal/util/Preconditions$3"), (3, u "IOOBE_FORMATTER"), (41, u "(IILjava/util/function/BiFunction;)I")] 15

def k12m0 : Method := { name := "<init>", desc := "()V", sig := { parameters := [], returnType := none }, accessFlags := 1, code := none }
def k12c1 : Code := { maxStack := 3, maxLocals := 3, code := jdk_41_method_11_code, exceptionTable := #[], attributes := #[] }
def k12m1 : Method := { name := "checkIndex", desc := "(IILjava/util/function/BiFunction;)I", sig := { parameters := [.int, .int, (.object "java/util/function/BiFunction")], returnType := some .int }, accessFlags := 9, code := some k12c1 }
/-- jdk/internal/util/Preconditions -/
def k12 : Class := { plain "jdk/internal/util/Preconditions" (some 0) with
  accessFlags := 33
  interfaces := #[]
  cf := some (fileOf pool12 24 #[.nestMembers #[55, 131, 125, 114]] #[{ accessFlags := 1, nameIndex := 5, descriptorIndex := 6, attributes := #[] }, { accessFlags := 9, nameIndex := 33, descriptorIndex := 178, attributes := #[] }] 33 2 #[] #[{ accessFlags := 25, nameIndex := 123, descriptorIndex := 124, attributes := #[] }, { accessFlags := 25, nameIndex := 130, descriptorIndex := 124, attributes := #[] }, { accessFlags := 25, nameIndex := 136, descriptorIndex := 124, attributes := #[] }])
  fields := #[{ name := "SIOOBE_FORMATTER", type := (.object "java/util/function/BiFunction"), accessFlags := 25, slot := 0, constantValue := 0 }, { name := "AIOOBE_FORMATTER", type := (.object "java/util/function/BiFunction"), accessFlags := 25, slot := 1, constantValue := 0 }, { name := "IOOBE_FORMATTER", type := (.object "java/util/function/BiFunction"), accessFlags := 25, slot := 2, constantValue := 0 }]
  methods := #[k12m0, k12m1]
  instanceTypes := #[]
  staticTypes := #[(.object "java/util/function/BiFunction"), (.object "java/util/function/BiFunction"), (.object "java/util/function/BiFunction")]
  resolved := Array.replicate 194 none
  statics := some 1 }

def pool13 : Array CpInfo := pool [(9, u "<init>"), (6, .class_ 18), (1, u "java/lang/Object"), (0, u "()V"), (1, .class_ 23), (1, u "jdk/internal/util/ArraysSupport"), (0, u "LOG2_ARRAY_LONG_INDEX_SCALE"), (0, u "I"), (2, u "U"), (0, u "Ljdk/internal/misc/Unsafe;"), (8, u "BIG_ENDIAN"), (0, u "Z"), (8, u "LOG2_BYTE_BIT_SIZE"), (4, u "LOG2_ARRAY_INT_INDEX_SCALE"), (54, u "JLA"), (0, u "Ljdk/internal/access/JavaLangAccess;"), (11, u "LOG2_ARRAY_BOOLEAN_INDEX_SCALE"), (9, u "LOG2_ARRAY_BYTE_INDEX_SCALE"), (5, u "LOG2_ARRAY_CHAR_INDEX_SCALE"), (5, u "LOG2_ARRAY_SHORT_INDEX_SCALE"), (18, u "LOG2_ARRAY_FLOAT_INDEX_SCALE"), (24, u "LOG2_ARRAY_DOUBLE_INDEX_SCALE"), (89, u "T_BOOLEAN"), (2, u "T_CHAR"), (1, u "T_FLOAT"), (1, u "T_DOUBLE"), (1, u "T_BYTE"), (1, u "T_SHORT"), (1, u "T_INT"), (1, u "T_LONG"), (1, u "SOFT_MAX_ARRAY_LENGTH")] 83

def k13m0 : Method := { name := "<init>", desc := "()V", sig := { parameters := [], returnType := none }, accessFlags := 2, code := none }
/-- jdk/internal/util/ArraysSupport -/
def k13 : Class := { plain "jdk/internal/util/ArraysSupport" (some 0) with
  accessFlags := 33
  interfaces := #[]
  cf := some (fileOf pool13 21 #[] #[{ accessFlags := 2, nameIndex := 9, descriptorIndex := 19, attributes := #[] }] 33 16 #[] #[{ accessFlags := 24, nameIndex := 28, descriptorIndex := 29, attributes := #[] }, { accessFlags := 26, nameIndex := 38, descriptorIndex := 39, attributes := #[] }, { accessFlags := 25, nameIndex := 121, descriptorIndex := 25, attributes := #[] }, { accessFlags := 25, nameIndex := 131, descriptorIndex := 25, attributes := #[] }, { accessFlags := 25, nameIndex := 137, descriptorIndex := 25, attributes := #[] }, { accessFlags := 25, nameIndex := 143, descriptorIndex := 25, attributes := #[] }, { accessFlags := 25, nameIndex := 53, descriptorIndex := 25, attributes := #[] }, { accessFlags := 25, nameIndex := 24, descriptorIndex := 25, attributes := #[] }, { accessFlags := 25, nameIndex := 162, descriptorIndex := 25, attributes := #[] }, { accessFlags := 25, nameIndex := 187, descriptorIndex := 25, attributes := #[] }, { accessFlags := 26, nameIndex := 48, descriptorIndex := 25, attributes := #[] }, { accessFlags := 25, nameIndex := 277, descriptorIndex := 25, attributes := #[] }, { accessFlags := 25, nameIndex := 280, descriptorIndex := 25, attributes := #[] }, { accessFlags := 25, nameIndex := 282, descriptorIndex := 25, attributes := #[] }, { accessFlags := 25, nameIndex := 284, descriptorIndex := 25, attributes := #[] }, { accessFlags := 25, nameIndex := 286, descriptorIndex := 25, attributes := #[] }, { accessFlags := 25, nameIndex := 288, descriptorIndex := 25, attributes := #[] }, { accessFlags := 25, nameIndex := 290, descriptorIndex := 25, attributes := #[] }, { accessFlags := 25, nameIndex := 292, descriptorIndex := 25, attributes := #[] }, { accessFlags := 26, nameIndex := 108, descriptorIndex := 109, attributes := #[] }, { accessFlags := 25, nameIndex := 294, descriptorIndex := 25, attributes := #[] }])
  fields := #[{ name := "U", type := (.object "jdk/internal/misc/Unsafe"), accessFlags := 24, slot := 0, constantValue := 0 }, { name := "BIG_ENDIAN", type := .boolean, accessFlags := 26, slot := 1, constantValue := 0 }, { name := "LOG2_ARRAY_BOOLEAN_INDEX_SCALE", type := .int, accessFlags := 25, slot := 2, constantValue := 0 }, { name := "LOG2_ARRAY_BYTE_INDEX_SCALE", type := .int, accessFlags := 25, slot := 3, constantValue := 0 }, { name := "LOG2_ARRAY_CHAR_INDEX_SCALE", type := .int, accessFlags := 25, slot := 4, constantValue := 0 }, { name := "LOG2_ARRAY_SHORT_INDEX_SCALE", type := .int, accessFlags := 25, slot := 5, constantValue := 0 }, { name := "LOG2_ARRAY_INT_INDEX_SCALE", type := .int, accessFlags := 25, slot := 6, constantValue := 0 }, { name := "LOG2_ARRAY_LONG_INDEX_SCALE", type := .int, accessFlags := 25, slot := 7, constantValue := 0 }, { name := "LOG2_ARRAY_FLOAT_INDEX_SCALE", type := .int, accessFlags := 25, slot := 8, constantValue := 0 }, { name := "LOG2_ARRAY_DOUBLE_INDEX_SCALE", type := .int, accessFlags := 25, slot := 9, constantValue := 0 }, { name := "LOG2_BYTE_BIT_SIZE", type := .int, accessFlags := 26, slot := 10, constantValue := 0 }, { name := "T_BOOLEAN", type := .int, accessFlags := 25, slot := 11, constantValue := 0 }, { name := "T_CHAR", type := .int, accessFlags := 25, slot := 12, constantValue := 0 }, { name := "T_FLOAT", type := .int, accessFlags := 25, slot := 13, constantValue := 0 }, { name := "T_DOUBLE", type := .int, accessFlags := 25, slot := 14, constantValue := 0 }, { name := "T_BYTE", type := .int, accessFlags := 25, slot := 15, constantValue := 0 }, { name := "T_SHORT", type := .int, accessFlags := 25, slot := 16, constantValue := 0 }, { name := "T_INT", type := .int, accessFlags := 25, slot := 17, constantValue := 0 }, { name := "T_LONG", type := .int, accessFlags := 25, slot := 18, constantValue := 0 }, { name := "JLA", type := (.object "jdk/internal/access/JavaLangAccess"), accessFlags := 26, slot := 19, constantValue := 0 }, { name := "SOFT_MAX_ARRAY_LENGTH", type := .int, accessFlags := 25, slot := 20, constantValue := 0 }]
  methods := #[k13m0]
  instanceTypes := #[]
  staticTypes := #[(.object "jdk/internal/misc/Unsafe"), .boolean, .int, .int, .int, .int, .int, .int, .int, .int, .int, .int, .int, .int, .int, .int, .int, .int, .int, (.object "jdk/internal/access/JavaLangAccess"), .int]
  resolved := Array.replicate 378 none
  statics := none }

def pool14 : Array CpInfo := pool [(1, u "java/lang/Cloneable"), (0, .class_ 1), (0, u "java/lang/Object"), (0, .class_ 3)] 3

/-- java/lang/Cloneable -/
def k14 : Class := { plain "java/lang/Cloneable" (some 0) with
  accessFlags := 1537
  interfaces := #[]
  cf := some (fileOf pool14 2 #[] #[] 1537 4 #[] #[])
  fields := #[]
  methods := #[]
  instanceTypes := #[]
  staticTypes := #[]
  resolved := Array.replicate 8 none
  statics := none }

/-- the primitive byte -/
def k15 : Class := { plain "byte" none with kind := .primitive 'B', accessFlags := 0x411 }
/-- [B -/
def k16 : Class := { plain "[B" (some 0) with kind := .array 15 .byte, interfaces := #[14, 2], accessFlags := 1041 }

/-- the primitive char -/
def k17 : Class := { plain "char" none with kind := .primitive 'C', accessFlags := 0x411 }
/-- [C -/
def k18 : Class := { plain "[C" (some 0) with kind := .array 17 .char, interfaces := #[14, 2], accessFlags := 1041 }

/-- the primitive int -/
def k19 : Class := { plain "int" none with kind := .primitive 'I', accessFlags := 0x411 }
/-- [I -/
def k20 : Class := { plain "[I" (some 0) with kind := .array 19 .int, interfaces := #[14, 2], accessFlags := 1041 }

def heap : Heap := #[{ cls := 7, slots := #[.long 0, .int 1, .null, .int 0, .null, .int 0, .int 0], vm := .statics 7 },
  { cls := 12, slots := #[.null, .null, .null], vm := .statics 12 }]
def classes : Array Class := #[k0, k1, k2, k3, k4, k5, k6, k7, k8, k9, k10, k11, k12, k13, k14, k15, k16, k17, k18, k19, k20]
def interned : List (Array UInt16 × Addr) := []
def slotsUsed : Nat := 10
def theMethod : MethodId := ⟨1, 1⟩
def args0 : Array Value := #[.int 5, .int 6, .int 1, .int 2, .int 3, .int 1]
def aboutOver (below : List Frame) : State where
  vm := { classes := classes, interned := interned.toArray }
  heap := heap
  slotsUsed := slotsUsed
  threads := #[{ frames := .invoking theMethod args0 :: below }]
def below0 : List Frame := [.native { method := ⟨0, 0⟩, args := #[] }]
def about1 : State := aboutOver below0
def p0 : Program := .bare "" "" ""
def e0 : Env := launch0.env 0 0 0
theorem w_frames : about1.frames = Frame.invoking theMethod args0 :: below0 := rfl
set_option maxRecDepth 65536 in
theorem w_args : argsFit about1.vm theMethod args0 = true := by decide +kernel
set_option maxRecDepth 65536 in
theorem w_heap : heapFits about1 = true := by decide +kernel
set_option maxRecDepth 65536 in
theorem w_runnable : about1.curStatus? = some .runnable := by decide +kernel
set_option maxRecDepth 65536 in
theorem w_alone : about1.alone = true := by decide +kernel
set_option maxRecDepth 65536 in
theorem w_named : about1.methodNamed? x = some theMethod := by decide +kernel
set_option maxRecDepth 65536 in
theorem w_hears : about1.hears theMethod below0 = true := by decide +kernel
set_option maxRecDepth 65536 in
theorem w_ripe : about1.ripe theMethod args0 below0 = true := by decide +kernel
theorem w_running : about1.status = .running := rfl
set_option maxRecDepth 65536 in
theorem w_room : about1.hasRoom e0.platform room_1 = true :=
  launch0.hasRoom_least _ room_1 (by decide +kernel) (by decide +kernel) (by decide +kernel) (by decide +kernel) (by decide +kernel) (by decide +kernel)
theorem allAtoms_all (ts : List Jvm.Cond) (a : Array Jvm.Value) (st : Jvm.State) : (allAtoms ts).before a st = ts.all (fun c => c.before a st) := by
  induction ts with
  | nil => rfl
  | cons c t ih =>
    show (Jvm.Cond.and c (allAtoms t)).before a st = _
    rw [Jvm.Cond.before_and, ih, List.all_cons]
def words1 : List Jvm.Cond := Jvm.Cond.code x code maxLocals ret :: tables_1
/-- a 'code' word, met by the world's own term for the bytes: nothing is compared byte by byte -/
theorem code_word {y : MethodName} {bytes : ByteArray} {mx : Nat} {rt : Option FieldType} {a : Array Value} {s : State} {m : MethodId} {meth : Method} {c : Code} (h1 : s.methodNamed? y = some m) (h2 : s.vm.method? m = some meth) (h3 : meth.code = some c) (h4 : c.code = bytes)
    (h5 : (c.maxLocals == mx && c.exceptionTable.isEmpty && decide (c.maxStack ≤ mostOperands) && decide (meth.sig.returnType = rt) && !meth.locks && decide (parseMethodDescriptor y.desc = some meth.sig)) = true) : (Jvm.Cond.code y bytes mx rt).before a s = true := by
  simp only [Bool.and_eq_true, beq_iff_eq, Bool.not_eq_true', decide_eq_true_eq] at h5
  obtain ⟨⟨⟨⟨⟨g1, g2⟩, g3⟩, g4⟩, g5⟩, g6⟩ := h5
  simp [Cond.before, Cond.holds, Cond.value, h1, h2, h3, h4, g1, g2, g3, g4, g5, g6]
def isCode : Jvm.Cond → Bool
  | .code _ _ _ _ => true
  | _ => false
theorem all_split {L : List Jvm.Cond} {P : Jvm.Cond → Bool} (h1 : L.all (fun c => isCode c || P c) = true) (h2 : ∀ c ∈ L.filter isCode, P c = true) : L.all P = true := by
  refine List.all_eq_true.mpr fun c hc => ?_
  have h := List.all_eq_true.mp h1 c hc
  rcases Bool.eq_false_or_eq_true (isCode c) with hi | hi
  · exact h2 c (List.mem_filter.mpr ⟨hc, hi⟩)
  · simpa [hi] using h
set_option maxRecDepth 65536 in
theorem w_c0 : (Jvm.Cond.code x code maxLocals ret).before args0 about1 = true := code_word (m := ⟨1, 1⟩) (meth := k1m1) (c := k1c1) (by decide +kernel) rfl rfl rfl (by decide +kernel)
set_option maxRecDepth 65536 in
theorem w_c1 : (Jvm.Cond.code ({ cls := "com/example/tariff/tariff/core/decimal/PlainDecimalIsBoundedPinLaw", name := "fill", desc := "([CIICI)V" } : Jvm.MethodName) method_5_code (5 : Nat) (Option.none : Option Jvm.ClassFile.FieldType)).before args0 about1 = true := code_word (m := ⟨1, 4⟩) (meth := k1m4) (c := k1c4) (by decide +kernel) rfl rfl rfl (by decide +kernel)
set_option maxRecDepth 65536 in
theorem w_c2 : (Jvm.Cond.code ({ cls := "com/example/tariff/tariff/core/decimal/PlainDecimalIsBoundedPinLaw", name := "put", desc := "([CIIICI)V" } : Jvm.MethodName) method_4_code (6 : Nat) (Option.none : Option Jvm.ClassFile.FieldType)).before args0 about1 = true := code_word (m := ⟨1, 3⟩) (meth := k1m3) (c := k1c3) (by decide +kernel) rfl rfl rfl (by decide +kernel)
set_option maxRecDepth 65536 in
theorem w_c3 : (Jvm.Cond.code ({ cls := "com/example/tariff/tariff/core/decimal/PlainDecimalIsBoundedPinLaw", name := "at", desc := "(IIICI)C" } : Jvm.MethodName) method_3_code (5 : Nat) (Option.some Jvm.ClassFile.FieldType.char)).before args0 about1 = true := code_word (m := ⟨1, 2⟩) (meth := k1m2) (c := k1c2) (by decide +kernel) rfl rfl rfl (by decide +kernel)
set_option maxRecDepth 65536 in
theorem w_c4 : (Jvm.Cond.code ({ cls := "java/lang/String", name := "<init>", desc := "([C)V" } : Jvm.MethodName) jdk_42_method_3_code (2 : Nat) (Option.none : Option Jvm.ClassFile.FieldType)).before args0 about1 = true := code_word (m := ⟨7, 1⟩) (meth := k7m1) (c := k7c1) (by decide +kernel) rfl rfl rfl (by decide +kernel)
set_option maxRecDepth 65536 in
theorem w_c5 : (Jvm.Cond.code ({ cls := "java/lang/String", name := "<init>", desc := "([CIILjava/lang/Void;)V" } : Jvm.MethodName) jdk_42_method_149_code (6 : Nat) (Option.none : Option Jvm.ClassFile.FieldType)).before args0 about1 = true := code_word (m := ⟨7, 6⟩) (meth := k7m6) (c := k7c6) (by decide +kernel) rfl rfl rfl (by decide +kernel)
set_option maxRecDepth 65536 in
theorem w_c6 : (Jvm.Cond.code ({ cls := "java/lang/Object", name := "<init>", desc := "()V" } : Jvm.MethodName) object_method_1_code (1 : Nat) (Option.none : Option Jvm.ClassFile.FieldType)).before args0 about1 = true := code_word (m := ⟨0, 0⟩) (meth := k0m0) (c := k0c0) (by decide +kernel) rfl rfl rfl (by decide +kernel)
set_option maxRecDepth 65536 in
theorem w_c7 : (Jvm.Cond.code ({ cls := "java/lang/StringUTF16", name := "compress", desc := "([CII)[B" } : Jvm.MethodName) jdk_52_method_16_code (6 : Nat) (Option.some (Jvm.ClassFile.FieldType.array Jvm.ClassFile.FieldType.byte))).before args0 about1 = true := code_word (m := ⟨8, 2⟩) (meth := k8m2) (c := k8c2) (by decide +kernel) rfl rfl rfl (by decide +kernel)
set_option maxRecDepth 65536 in
theorem w_c8 : (Jvm.Cond.code ({ cls := "java/lang/StringUTF16", name := "compress", desc := "([CI[BII)I" } : Jvm.MethodName) jdk_52_method_21_code (7 : Nat) (Option.some Jvm.ClassFile.FieldType.int)).before args0 about1 = true := code_word (m := ⟨8, 3⟩) (meth := k8m3) (c := k8c3) (by decide +kernel) rfl rfl rfl (by decide +kernel)
set_option maxRecDepth 65536 in
theorem w_c9 : (Jvm.Cond.code ({ cls := "java/lang/StringUTF16", name := "coderFromArrayLen", desc := "([BI)B" } : Jvm.MethodName) jdk_52_method_15_code (2 : Nat) (Option.some Jvm.ClassFile.FieldType.byte)).before args0 about1 = true := code_word (m := ⟨8, 1⟩) (meth := k8m1) (c := k8c1) (by decide +kernel) rfl rfl rfl (by decide +kernel)
set_option maxRecDepth 65536 in
theorem w_c10 : (Jvm.Cond.code ({ cls := "com/example/tariff/tariff/core/decimal/PlainDecimal", name := "isBounded", desc := "(Ljava/lang/String;)Z" } : Jvm.MethodName) prog_15_method_5_code (1 : Nat) (Option.some Jvm.ClassFile.FieldType.boolean)).before args0 about1 = true := code_word (m := ⟨9, 3⟩) (meth := k9m3) (c := k9c3) (by decide +kernel) rfl rfl rfl (by decide +kernel)
set_option maxRecDepth 65536 in
theorem w_c11 : (Jvm.Cond.code ({ cls := "com/example/tariff/tariff/core/decimal/PlainDecimal", name := "integerDigits", desc := "(Ljava/lang/String;)I" } : Jvm.MethodName) prog_15_method_3_code (3 : Nat) (Option.some Jvm.ClassFile.FieldType.int)).before args0 about1 = true := code_word (m := ⟨9, 1⟩) (meth := k9m1) (c := k9c1) (by decide +kernel) rfl rfl rfl (by decide +kernel)
set_option maxRecDepth 65536 in
theorem w_c12 : (Jvm.Cond.code ({ cls := "com/example/tariff/tariff/core/decimal/PlainDecimal", name := "pointIndex", desc := "(Ljava/lang/String;)I" } : Jvm.MethodName) prog_15_method_9_code (2 : Nat) (Option.some Jvm.ClassFile.FieldType.int)).before args0 about1 = true := code_word (m := ⟨9, 4⟩) (meth := k9m4) (c := k9c4) (by decide +kernel) rfl rfl rfl (by decide +kernel)
set_option maxRecDepth 65536 in
theorem w_c13 : (Jvm.Cond.code ({ cls := "java/lang/String", name := "indexOf", desc := "(I)I" } : Jvm.MethodName) jdk_42_method_79_code (2 : Nat) (Option.some Jvm.ClassFile.FieldType.int)).before args0 about1 = true := code_word (m := ⟨7, 4⟩) (meth := k7m4) (c := k7c4) (by decide +kernel) rfl rfl rfl (by decide +kernel)
set_option maxRecDepth 65536 in
theorem w_c14 : (Jvm.Cond.code ({ cls := "java/lang/String", name := "indexOf", desc := "(II)I" } : Jvm.MethodName) jdk_42_method_80_code (3 : Nat) (Option.some Jvm.ClassFile.FieldType.int)).before args0 about1 = true := code_word (m := ⟨7, 5⟩) (meth := k7m5) (c := k7c5) (by decide +kernel) rfl rfl rfl (by decide +kernel)
set_option maxRecDepth 65536 in
theorem w_c15 : (Jvm.Cond.code ({ cls := "java/lang/String", name := "isLatin1", desc := "()Z" } : Jvm.MethodName) jdk_42_method_154_code (1 : Nat) (Option.some Jvm.ClassFile.FieldType.boolean)).before args0 about1 = true := code_word (m := ⟨7, 8⟩) (meth := k7m8) (c := k7c8) (by decide +kernel) rfl rfl rfl (by decide +kernel)
set_option maxRecDepth 65536 in
theorem w_c16 : (Jvm.Cond.code ({ cls := "java/lang/String", name := "length", desc := "()I" } : Jvm.MethodName) jdk_42_method_54_code (1 : Nat) (Option.some Jvm.ClassFile.FieldType.int)).before args0 about1 = true := code_word (m := ⟨7, 2⟩) (meth := k7m2) (c := k7c2) (by decide +kernel) rfl rfl rfl (by decide +kernel)
set_option maxRecDepth 65536 in
theorem w_c17 : (Jvm.Cond.code ({ cls := "java/lang/String", name := "coder", desc := "()B" } : Jvm.MethodName) jdk_42_method_152_code (1 : Nat) (Option.some Jvm.ClassFile.FieldType.byte)).before args0 about1 = true := code_word (m := ⟨7, 7⟩) (meth := k7m7) (c := k7c7) (by decide +kernel) rfl rfl rfl (by decide +kernel)
set_option maxRecDepth 65536 in
theorem w_c18 : (Jvm.Cond.code ({ cls := "java/lang/StringLatin1", name := "indexOf", desc := "([BIII)I" } : Jvm.MethodName) jdk_43_method_22_code (4 : Nat) (Option.some Jvm.ClassFile.FieldType.int)).before args0 about1 = true := code_word (m := ⟨10, 3⟩) (meth := k10m3) (c := k10c3) (by decide +kernel) rfl rfl rfl (by decide +kernel)
set_option maxRecDepth 65536 in
theorem w_c19 : (Jvm.Cond.code ({ cls := "java/lang/StringLatin1", name := "canEncode", desc := "(I)Z" } : Jvm.MethodName) jdk_43_method_4_code (1 : Nat) (Option.some Jvm.ClassFile.FieldType.boolean)).before args0 about1 = true := code_word (m := ⟨10, 2⟩) (meth := k10m2) (c := k10c2) (by decide +kernel) rfl rfl rfl (by decide +kernel)
set_option maxRecDepth 65536 in
theorem w_c20 : (Jvm.Cond.code ({ cls := "java/lang/Math", name := "max", desc := "(II)I" } : Jvm.MethodName) jdk_29_method_65_code (2 : Nat) (Option.some Jvm.ClassFile.FieldType.int)).before args0 about1 = true := code_word (m := ⟨11, 1⟩) (meth := k11m1) (c := k11c1) (by decide +kernel) rfl rfl rfl (by decide +kernel)
set_option maxRecDepth 65536 in
theorem w_c21 : (Jvm.Cond.code ({ cls := "java/lang/Math", name := "min", desc := "(II)I" } : Jvm.MethodName) jdk_29_method_69_code (2 : Nat) (Option.some Jvm.ClassFile.FieldType.int)).before args0 about1 = true := code_word (m := ⟨11, 2⟩) (meth := k11m2) (c := k11c2) (by decide +kernel) rfl rfl rfl (by decide +kernel)
set_option maxRecDepth 65536 in
theorem w_c22 : (Jvm.Cond.code ({ cls := "java/lang/StringLatin1", name := "indexOfChar", desc := "([BIII)I" } : Jvm.MethodName) jdk_43_method_23_code (6 : Nat) (Option.some Jvm.ClassFile.FieldType.int)).before args0 about1 = true := code_word (m := ⟨10, 4⟩) (meth := k10m4) (c := k10c4) (by decide +kernel) rfl rfl rfl (by decide +kernel)
set_option maxRecDepth 65536 in
theorem w_c23 : (Jvm.Cond.code ({ cls := "java/lang/String", name := "charAt", desc := "(I)C" } : Jvm.MethodName) jdk_42_method_56_code (2 : Nat) (Option.some Jvm.ClassFile.FieldType.char)).before args0 about1 = true := code_word (m := ⟨7, 3⟩) (meth := k7m3) (c := k7c3) (by decide +kernel) rfl rfl rfl (by decide +kernel)
set_option maxRecDepth 65536 in
theorem w_c24 : (Jvm.Cond.code ({ cls := "java/lang/StringLatin1", name := "charAt", desc := "([BI)C" } : Jvm.MethodName) jdk_43_method_2_code (2 : Nat) (Option.some Jvm.ClassFile.FieldType.char)).before args0 about1 = true := code_word (m := ⟨10, 1⟩) (meth := k10m1) (c := k10c1) (by decide +kernel) rfl rfl rfl (by decide +kernel)
set_option maxRecDepth 65536 in
theorem w_c25 : (Jvm.Cond.code ({ cls := "java/lang/String", name := "checkIndex", desc := "(II)V" } : Jvm.MethodName) jdk_42_method_155_code (2 : Nat) (Option.none : Option Jvm.ClassFile.FieldType)).before args0 about1 = true := code_word (m := ⟨7, 9⟩) (meth := k7m9) (c := k7c9) (by decide +kernel) rfl rfl rfl (by decide +kernel)
set_option maxRecDepth 65536 in
theorem w_c26 : (Jvm.Cond.code ({ cls := "jdk/internal/util/Preconditions", name := "checkIndex", desc := "(IILjava/util/function/BiFunction;)I" } : Jvm.MethodName) jdk_41_method_11_code (3 : Nat) (Option.some Jvm.ClassFile.FieldType.int)).before args0 about1 = true := code_word (m := ⟨12, 1⟩) (meth := k12m1) (c := k12c1) (by decide +kernel) rfl rfl rfl (by decide +kernel)
set_option maxRecDepth 65536 in
theorem w_c27 : (Jvm.Cond.code ({ cls := "com/example/tariff/tariff/core/decimal/PlainDecimal", name := "fractionDigits", desc := "(Ljava/lang/String;)I" } : Jvm.MethodName) prog_15_method_4_code (2 : Nat) (Option.some Jvm.ClassFile.FieldType.int)).before args0 about1 = true := code_word (m := ⟨9, 2⟩) (meth := k9m2) (c := k9c2) (by decide +kernel) rfl rfl rfl (by decide +kernel)
def codes1 : List Jvm.Cond := [Jvm.Cond.code x code maxLocals ret, Jvm.Cond.code ({ cls := "com/example/tariff/tariff/core/decimal/PlainDecimalIsBoundedPinLaw", name := "fill", desc := "([CIICI)V" } : Jvm.MethodName) method_5_code (5 : Nat) (Option.none : Option Jvm.ClassFile.FieldType), Jvm.Cond.code ({ cls := "com/example/tariff/tariff/core/decimal/PlainDecimalIsBoundedPinLaw", name := "put", desc := "([CIIICI)V" } : Jvm.MethodName) method_4_code (6 : Nat) (Option.none : Option Jvm.ClassFile.FieldType), Jvm.Cond.code ({ cls := "com/example/tariff/tariff/core/decimal/PlainDecimalIsBoundedPinLaw", name := "at", desc := "(IIICI)C" } : Jvm.MethodName) method_3_code (5 : Nat) (Option.some Jvm.ClassFile.FieldType.char), Jvm.Cond.code ({ cls := "java/lang/String", name := "<init>", desc := "([C)V" } : Jvm.MethodName) jdk_42_method_3_code (2 : Nat) (Option.none : Option Jvm.ClassFile.FieldType), Jvm.Cond.code ({ cls := "java/lang/String", name := "<init>", desc := "([CIILjava/lang/Void;)V" } : Jvm.MethodName) jdk_42_method_149_code (6 : Nat) (Option.none : Option Jvm.ClassFile.FieldType), Jvm.Cond.code ({ cls := "java/lang/Object", name := "<init>", desc := "()V" } : Jvm.MethodName) object_method_1_code (1 : Nat) (Option.none : Option Jvm.ClassFile.FieldType), Jvm.Cond.code ({ cls := "java/lang/StringUTF16", name := "compress", desc := "([CII)[B" } : Jvm.MethodName) jdk_52_method_16_code (6 : Nat) (Option.some (Jvm.ClassFile.FieldType.array Jvm.ClassFile.FieldType.byte)), Jvm.Cond.code ({ cls := "java/lang/StringUTF16", name := "compress", desc := "([CI[BII)I" } : Jvm.MethodName) jdk_52_method_21_code (7 : Nat) (Option.some Jvm.ClassFile.FieldType.int), Jvm.Cond.code ({ cls := "java/lang/StringUTF16", name := "coderFromArrayLen", desc := "([BI)B" } : Jvm.MethodName) jdk_52_method_15_code (2 : Nat) (Option.some Jvm.ClassFile.FieldType.byte), Jvm.Cond.code ({ cls := "com/example/tariff/tariff/core/decimal/PlainDecimal", name := "isBounded", desc := "(Ljava/lang/String;)Z" } : Jvm.MethodName) prog_15_method_5_code (1 : Nat) (Option.some Jvm.ClassFile.FieldType.boolean), Jvm.Cond.code ({ cls := "com/example/tariff/tariff/core/decimal/PlainDecimal", name := "integerDigits", desc := "(Ljava/lang/String;)I" } : Jvm.MethodName) prog_15_method_3_code (3 : Nat) (Option.some Jvm.ClassFile.FieldType.int), Jvm.Cond.code ({ cls := "com/example/tariff/tariff/core/decimal/PlainDecimal", name := "pointIndex", desc := "(Ljava/lang/String;)I" } : Jvm.MethodName) prog_15_method_9_code (2 : Nat) (Option.some Jvm.ClassFile.FieldType.int), Jvm.Cond.code ({ cls := "java/lang/String", name := "indexOf", desc := "(I)I" } : Jvm.MethodName) jdk_42_method_79_code (2 : Nat) (Option.some Jvm.ClassFile.FieldType.int), Jvm.Cond.code ({ cls := "java/lang/String", name := "indexOf", desc := "(II)I" } : Jvm.MethodName) jdk_42_method_80_code (3 : Nat) (Option.some Jvm.ClassFile.FieldType.int), Jvm.Cond.code ({ cls := "java/lang/String", name := "isLatin1", desc := "()Z" } : Jvm.MethodName) jdk_42_method_154_code (1 : Nat) (Option.some Jvm.ClassFile.FieldType.boolean), Jvm.Cond.code ({ cls := "java/lang/String", name := "length", desc := "()I" } : Jvm.MethodName) jdk_42_method_54_code (1 : Nat) (Option.some Jvm.ClassFile.FieldType.int), Jvm.Cond.code ({ cls := "java/lang/String", name := "coder", desc := "()B" } : Jvm.MethodName) jdk_42_method_152_code (1 : Nat) (Option.some Jvm.ClassFile.FieldType.byte), Jvm.Cond.code ({ cls := "java/lang/StringLatin1", name := "indexOf", desc := "([BIII)I" } : Jvm.MethodName) jdk_43_method_22_code (4 : Nat) (Option.some Jvm.ClassFile.FieldType.int), Jvm.Cond.code ({ cls := "java/lang/StringLatin1", name := "canEncode", desc := "(I)Z" } : Jvm.MethodName) jdk_43_method_4_code (1 : Nat) (Option.some Jvm.ClassFile.FieldType.boolean), Jvm.Cond.code ({ cls := "java/lang/Math", name := "max", desc := "(II)I" } : Jvm.MethodName) jdk_29_method_65_code (2 : Nat) (Option.some Jvm.ClassFile.FieldType.int), Jvm.Cond.code ({ cls := "java/lang/Math", name := "min", desc := "(II)I" } : Jvm.MethodName) jdk_29_method_69_code (2 : Nat) (Option.some Jvm.ClassFile.FieldType.int), Jvm.Cond.code ({ cls := "java/lang/StringLatin1", name := "indexOfChar", desc := "([BIII)I" } : Jvm.MethodName) jdk_43_method_23_code (6 : Nat) (Option.some Jvm.ClassFile.FieldType.int), Jvm.Cond.code ({ cls := "java/lang/String", name := "charAt", desc := "(I)C" } : Jvm.MethodName) jdk_42_method_56_code (2 : Nat) (Option.some Jvm.ClassFile.FieldType.char), Jvm.Cond.code ({ cls := "java/lang/StringLatin1", name := "charAt", desc := "([BI)C" } : Jvm.MethodName) jdk_43_method_2_code (2 : Nat) (Option.some Jvm.ClassFile.FieldType.char), Jvm.Cond.code ({ cls := "java/lang/String", name := "checkIndex", desc := "(II)V" } : Jvm.MethodName) jdk_42_method_155_code (2 : Nat) (Option.none : Option Jvm.ClassFile.FieldType), Jvm.Cond.code ({ cls := "jdk/internal/util/Preconditions", name := "checkIndex", desc := "(IILjava/util/function/BiFunction;)I" } : Jvm.MethodName) jdk_41_method_11_code (3 : Nat) (Option.some Jvm.ClassFile.FieldType.int), Jvm.Cond.code ({ cls := "com/example/tariff/tariff/core/decimal/PlainDecimal", name := "fractionDigits", desc := "(Ljava/lang/String;)I" } : Jvm.MethodName) prog_15_method_4_code (2 : Nat) (Option.some Jvm.ClassFile.FieldType.int)]
set_option maxRecDepth 65536 in
theorem codes_eq : words1.filter isCode = codes1 := rfl
theorem w_codes : ∀ c ∈ words1.filter isCode, c.before args0 about1 = true := by
  rw [codes_eq]
  intro c hc
  simp only [codes1, List.mem_cons, List.not_mem_nil, or_false] at hc
  rcases hc with rfl | rfl | rfl | rfl | rfl | rfl | rfl | rfl | rfl | rfl | rfl | rfl | rfl | rfl | rfl | rfl | rfl | rfl | rfl | rfl | rfl | rfl | rfl | rfl | rfl | rfl | rfl | rfl
  · exact w_c0
  · exact w_c1
  · exact w_c2
  · exact w_c3
  · exact w_c4
  · exact w_c5
  · exact w_c6
  · exact w_c7
  · exact w_c8
  · exact w_c9
  · exact w_c10
  · exact w_c11
  · exact w_c12
  · exact w_c13
  · exact w_c14
  · exact w_c15
  · exact w_c16
  · exact w_c17
  · exact w_c18
  · exact w_c19
  · exact w_c20
  · exact w_c21
  · exact w_c22
  · exact w_c23
  · exact w_c24
  · exact w_c25
  · exact w_c26
  · exact w_c27
set_option maxRecDepth 65536 in
theorem w_t1 : (words1.take 24).all (fun c => isCode c || c.before args0 about1) = true := by decide +kernel
set_option maxRecDepth 65536 in
theorem w_t2 : ((words1.drop 24).take 24).all (fun c => isCode c || c.before args0 about1) = true := by decide +kernel
set_option maxRecDepth 65536 in
theorem w_t3 : (((words1.drop 24).drop 24).take 24).all (fun c => isCode c || c.before args0 about1) = true := by decide +kernel
set_option maxRecDepth 65536 in
theorem w_t4 : ((((words1.drop 24).drop 24).drop 24).take 24).all (fun c => isCode c || c.before args0 about1) = true := by decide +kernel
set_option maxRecDepth 65536 in
theorem w_t5 : ((((words1.drop 24).drop 24).drop 24).drop 24).all (fun c => isCode c || c.before args0 about1) = true := by decide +kernel
theorem w_tables : (allAtoms (Jvm.Cond.code x code maxLocals ret :: tables_1)).before args0 about1 = true := by
  rw [allAtoms_all]
  show words1.all (fun c => c.before args0 about1) = true
  refine all_split ?_ w_codes
  rw [← List.take_append_drop 24 words1, List.all_append, w_t1, ← List.take_append_drop 24 (words1.drop 24), List.all_append, w_t2, ← List.take_append_drop 24 ((words1.drop 24).drop 24), List.all_append, w_t3, ← List.take_append_drop 24 (((words1.drop 24).drop 24).drop 24), List.all_append, w_t4, w_t5]
  rfl
set_option maxRecDepth 65536 in
theorem w_rest : rest_1_c.before args0 about1 = true := by decide +kernel
set_option maxRecDepth 65536 in
theorem w_case : (Jvm.Cond.and given_1 narrow_1).before args0 about1 = true := by decide +kernel
theorem w_applies : (headSpec (Jvm.Cond.code x code maxLocals ret :: tables_1) room_1).applies x e0.platform about1 = true :=
  (Spec.applies_iff w_frames).mpr ⟨w_running, w_runnable, w_alone, w_named, w_hears, w_ripe, w_room, w_tables⟩
theorem atStart : AtStart classFile x code maxLocals ret World_1 tables_1 room_1 Calls_1 rest_1 Pre_1 launch0 p0 e0 about1 theMethod args0 below0 :=
  ⟨lists_1, trivial, launch0.admits_env _ _ _, launch0.least_env, fairChoices_fair.cas, fairChoices_fair.clock, w_frames, w_args, w_heap, w_applies, trivial, w_rest, w_case⟩
end start1
theorem witness_1 : WitnessClaimed_1 := ⟨start1.p0, start1.e0, start1.about1, start1.theMethod, start1.args0, start1.below0, start1.atStart⟩
end Jvm.Pilot.@@N@@
