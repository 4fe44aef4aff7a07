import JvmDerived
import JvmDerived.Pilot.@@N@@Statement
import JvmDerived.Pilot.@@N@@Code
set_option linter.unusedVariables false
set_option linter.unusedSimpArgs false
/- laws to paste: Road.backV, Road.lenW, Road.chN (cut by pick.py; bodies as the Statement names them) -/
namespace Jvm.Pilot.@@N@@
namespace StrChars
open Jvm Sem ClassFile Op Lib Jvm.Stand Jvm.Free.XT Jvm.Free.ALB Jvm.Free.JM Jvm.Free
open Jvm.Lib.Cold (StaticIs)
/-- a char array whose places are chars -/
def Ch (a : Addr) (A : Cell) (U : State) : Prop := Arr .char a A U ∧ Typed .char A
theorem Ch.mv {a : Addr} {A : Cell} {U U' : State} (h : Ch a A U) (hal : U.vm.Alike U'.vm) (hh : U'.heap = U.heap) : Ch a A U' := ⟨h.1.mv hal hh, h.2⟩
theorem Ch.keep {a : Addr} {A : Cell} {U U' : State} (h : Ch a A U) (hal : U.vm.Alike U'.vm) (hk : U'.heap[a]? = some A) : Ch a A U' := ⟨h.1.keep hal hk, h.2⟩
/-- what place i of a char[]'s cell holds -/
def cv (A : Cell) (i : Nat) : Int32 := match A.slots[i]? with | some (.int x) => x | _ => 0
theorem Ch.get {a : Addr} {A : Cell} {U : State} (h : Ch a A U) {i : Nat} (hi : i < A.slots.size) : A.slots[i]? = some (.int (cv A i)) := by
  have e := Array.getElem?_eq_getElem hi
  have f := h.2 i _ e
  unfold cv; rw [e]
  generalize A.slots[i] = v at f
  cases v <;> simp [fits] at f ⊢
/-- the byte that i2b leaves of a char -/
def lo8 (x : Int32) : Int32 := x.toInt8.toInt32
theorem fits_lo8 (y : Int32) : fits .byte (.int (lo8 y)) = true := by
  have h1 := y.toInt8.le_toInt
  have h2 := y.toInt8.toInt_lt
  simp only [lo8, fits, Bool.and_eq_true, decide_eq_true_eq, Int32.le_iff_toInt_le, Int8.toInt_toInt32, show (-128 : Int32).toInt = -128 from by decide, show (127 : Int32).toInt = 127 from by decide]
  omega
/-- A' is A but that each place j of lo .. hi - 1 holds f j -/
def Laid (A A' : Cell) (lo hi : Nat) (f : Nat → Value) : Prop := A'.cls = A.cls ∧ A'.vm = A.vm ∧ A'.slots.size = A.slots.size ∧ ∀ i, A'.slots[i]? = if lo ≤ i ∧ i < hi then some (f i) else A.slots[i]?
theorem Laid.zero (A : Cell) (lo : Nat) (f : Nat → Value) : Laid A A lo (lo + 0) f := ⟨rfl, rfl, rfl, fun i => by rw [if_neg (by omega)]⟩
theorem Laid.step {A Ak : Cell} {lo k : Nat} {f : Nat → Value} {v : Value} (h : Laid A Ak lo k f) (hlo : lo ≤ k) (hk : k < Ak.slots.size) (hv : v = f k) : Laid A (Ak.setSlot k v) lo (k + 1) f := by
  refine ⟨h.1, h.2.1, by simpa [Cell.setSlot] using h.2.2.1, fun i => ?_⟩
  by_cases e : k = i
  · subst e; rw [Cell.slots_setSlot_self v hk, if_pos (by omega), hv]
  · rw [Cell.slots_setSlot_ne v e, h.2.2.2 i]
    by_cases q : lo ≤ i ∧ i < k
    · rw [if_pos q, if_pos (by omega)]
    · rw [if_neg q, if_neg (by omega)]
def U16 : String := "java/lang/StringUTF16"
namespace Cmp5
def yN : MethodName := ⟨"java/lang/StringUTF16", "compress", "([CI[BII)I"⟩
abbrev yB : ByteArray := jdk_52_method_21_code
theorem d0 : decode yB 0 = .ok (.iconst 0, 1) := by decide +kernel
theorem d1 : decode yB 1 = .ok (.istore 5, 2) := by decide +kernel
theorem d3 : decode yB 3 = .ok (.iload 5, 2) := by decide +kernel
theorem d5 : decode yB 5 = .ok (.iload 4, 2) := by decide +kernel
theorem d7 : decode yB 7 = .ok (.if_icmp (.ge) 37, 3) := by decide +kernel
theorem d10 : decode yB 10 = .ok (.aload_n 0, 1) := by decide +kernel
theorem d11 : decode yB 11 = .ok (.iload_n 1, 1) := by decide +kernel
theorem d12 : decode yB 12 = .ok (.caload, 1) := by decide +kernel
theorem d13 : decode yB 13 = .ok (.istore 6, 2) := by decide +kernel
theorem d15 : decode yB 15 = .ok (.iload 6, 2) := by decide +kernel
theorem d17 : decode yB 17 = .ok (.sipush 255, 3) := by decide +kernel
theorem d20 : decode yB 20 = .ok (.if_icmp (.le) 6, 3) := by decide +kernel
theorem d26 : decode yB 26 = .ok (.aload_n 2, 1) := by decide +kernel
theorem d27 : decode yB 27 = .ok (.iload_n 3, 1) := by decide +kernel
theorem d28 : decode yB 28 = .ok (.iload 6, 2) := by decide +kernel
theorem d30 : decode yB 30 = .ok (.i2b, 1) := by decide +kernel
theorem d31 : decode yB 31 = .ok (.bastore, 1) := by decide +kernel
theorem d32 : decode yB 32 = .ok (.iinc 1 1, 3) := by decide +kernel
theorem d35 : decode yB 35 = .ok (.iinc 3 1, 3) := by decide +kernel
theorem d38 : decode yB 38 = .ok (.iinc 5 1, 3) := by decide +kernel
theorem d41 : decode yB 41 = .ok (.goto (-38), 3) := by decide +kernel
theorem d44 : decode yB 44 = .ok (.iload 4, 2) := by decide +kernel
theorem d46 : decode yB 46 = .ok (.ireturn, 1) := by decide +kernel
def site : List Cond := []
def tab : Cond := tabOf yN yB 7 (some .int) site
def P (b : Addr) (A : Cell) (d : Addr) (B : Cell) (o q len : Nat) (args : Array Value) (s : State) : Prop := args = #[.ref b, .int (Int32.ofNat o), .ref d, .int (Int32.ofNat q), .int (Int32.ofNat len)] ∧ Ch b A s ∧ Arr .byte d B s ∧ b ≠ d ∧ o + len ≤ A.slots.size ∧ q + len ≤ B.slots.size ∧ ∀ i, i < len → ¬ 255 < cv A (o + i)
def E (b : Addr) (A : Cell) (d : Addr) (B : Cell) (o q len : Nat) (r : Option Value) (s u : State) : Prop := r = some (.int (Int32.ofNat len)) ∧ ∃ B', Put d B' s u ∧ Laid B B' q (q + len) (fun j => Value.int (lo8 (cv A (o + (j - q)))))
/-- no char of the range above 255: len; the places written hold each char's low byte -/
theorem law (l : Launch) (b : Addr) (A : Cell) (d : Addr) (B : Cell) (o q len : Nat) : Law l yN 5 5 0 0 yB 7 (some .int) site (P b A d B o q len) (E b A d B o q len) (copyLocs d q len) 0 0 := by
  refine Law.of_walk (plainFor_of_name (by decide +kernel)) (by decide +kernel) (by decide +kernel) (by decide) (fun _ _ h => by rw [h.1]; rfl) (fun _ U U' hal hh h => ⟨h.1, h.2.1.mv hal hh, h.2.2.1.mv hal hh, h.2.2.2⟩) (fun r U U' V V' h1 hal h2 h => ⟨h.1, h.2.elim fun B' q => ⟨B', q.1.mv h1 h2, q.2⟩⟩) ?_
  intro p e s m args below meth c s₁ X0 hexec hbytes hml hret hlk hnm hown hh0 W hP
  obtain ⟨rfl, hA, hB, hne, l1, l2, hp⟩ := hP
  have c1 : Steps p.tables e below (s₁.setTop (entryFrame m #[.ref b, .int (Int32.ofNat o), .ref d, .int (Int32.ofNat q), .int (Int32.ofNat len)] 7)) (s₁.setTop (mkF m 0 #[.val (.ref b), .val (.int (Int32.ofNat o)), .val (.ref d), .val (.int (Int32.ofNat q)), .val (.int (Int32.ofNat len)), .unset, .unset] [])) := entry rfl
  have hA0 := hA.1.mv X0.warmed.alike hh0
  have hB0 := hB.mv X0.warmed.alike hh0
  have a31 := hA.1.2.2.2
  have c2 : Steps p.tables e below (s₁.setTop (entryFrame m #[.ref b, .int (Int32.ofNat o), .ref d, .int (Int32.ofNat q), .int (Int32.ofNat len)] 7)) (s₁.setTop (mkF m 3 #[.val (.ref b), .val (.int (Int32.ofNat o)), .val (.ref d), .val (.int (Int32.ofNat q)), .val (.int (Int32.ofNat len)), .val (.int 0), .unset] [])) := c1.trans (by
    refine iconstV X0.here hexec rfl 0 (hb hbytes d0) (by decide) ?_
    refine XS.istore X0.here hexec rfl (hb hbytes d1) rfl rfl ?_
    exact Steps.refl _)
  have loop : ∀ (r i : Nat), i + r = len → ∀ (z : Slot), (z = .unset ∨ ∃ w, z = .val w ∧ w.category = 1) → ∀ (Tl : State) (Bk : Cell), Stand p l e { frames := 0, locals := 0, cells := 0, slots := 0 } s m #[.ref b, .int (Int32.ofNat o), .ref d, .int (Int32.ofNat q), .int (Int32.ofNat len)] below meth c Tl ([] ++ copyLocs d q i) 0 0 → Put d Bk s₁ Tl → Laid B Bk q (q + i) (fun j => Value.int (lo8 (cv A (o + (j - q))))) →
      Steps p.tables e below (s₁.setTop (entryFrame m #[.ref b, .int (Int32.ofNat o), .ref d, .int (Int32.ofNat q), .int (Int32.ofNat len)] 7)) (Tl.setTop (mkF m 3 #[.val (.ref b), .val (.int (Int32.ofNat (o + i))), .val (.ref d), .val (.int (Int32.ofNat (q + i))), .val (.int (Int32.ofNat len)), .val (.int (Int32.ofNat i)), z] [])) → ∃ (T' : State) (B' : Cell) (z' : Slot), Stand p l e { frames := 0, locals := 0, cells := 0, slots := 0 } s m #[.ref b, .int (Int32.ofNat o), .ref d, .int (Int32.ofNat q), .int (Int32.ofNat len)] below meth c T' ([] ++ copyLocs d q len) 0 0 ∧ Put d B' s₁ T' ∧ Laid B B' q (q + len) (fun j => Value.int (lo8 (cv A (o + (j - q))))) ∧
      Steps p.tables e below (s₁.setTop (entryFrame m #[.ref b, .int (Int32.ofNat o), .ref d, .int (Int32.ofNat q), .int (Int32.ofNat len)] 7)) (T'.setTop (mkF m 3 #[.val (.ref b), .val (.int (Int32.ofNat (o + len))), .val (.ref d), .val (.int (Int32.ofNat (q + len))), .val (.int (Int32.ofNat len)), .val (.int (Int32.ofNat len)), z'] [])) := by
    intro r
    induction r with
    | zero =>
      intro i hi z hz Tl Bk Xl pl fl cl
      have hil : i = len := by omega
      rw [hil] at Xl fl cl
      exact ⟨Tl, Bk, z, Xl, pl, fl, cl⟩
    | succ r ih =>
      intro i hi z hz Tl Bk Xl pl fl cl
      have all := X0.warmed.alike.symm.trans Xl.warmed.alike
      have hAl := hA0.keep all (pl.other hne hA0.1)
      have hBk := hB0.like all pl.1 fl.1 fl.2.1 fl.2.2.1
      have hlt : q + i < Bk.slots.size := by rw [fl.2.2.1]; omega
      have c3 : Steps p.tables e below (s₁.setTop (entryFrame m #[.ref b, .int (Int32.ofNat o), .ref d, .int (Int32.ofNat q), .int (Int32.ofNat len)] 7)) (Tl.setTop (mkF m 12 #[.val (.ref b), .val (.int (Int32.ofNat (o + i))), .val (.ref d), .val (.int (Int32.ofNat (q + i))), .val (.int (Int32.ofNat len)), .val (.int (Int32.ofNat i)), z] [.int (Int32.ofNat (o + i)), .ref b])) := cl.trans (by
        refine XS.iload Xl.here hexec rfl (hb hbytes d3) rfl ?_
        refine XS.iload Xl.here hexec rfl (hb hbytes d5) rfl ?_
        refine XS.icmpNo Xl.here hexec rfl (hb hbytes d7) rfl (ii_ge_f (lt32 (by omega) (by omega))) ?_
        refine XS.aloadN Xl.here hexec rfl (hb hbytes d10) rfl rfl ?_
        refine XS.iloadN Xl.here hexec rfl (hb hbytes d11) rfl ?_
        exact Steps.refl _)
      have c4 : Steps p.tables e below (s₁.setTop (entryFrame m #[.ref b, .int (Int32.ofNat o), .ref d, .int (Int32.ofNat q), .int (Int32.ofNat len)] 7)) (Tl.setTop (mkF m 13 #[.val (.ref b), .val (.int (Int32.ofNat (o + i))), .val (.ref d), .val (.int (Int32.ofNat (q + i))), .val (.int (Int32.ofNat len)), .val (.int (Int32.ofNat i)), z] [.int (cv A (o + i))])) := c3.trans (by
        refine Xl.aget hexec hAl rfl (hA.get (i := o + i) (by omega)) rfl rfl (hb hbytes d12) ?_
        exact Steps.refl _)
      have c5 : Steps p.tables e below (s₁.setTop (entryFrame m #[.ref b, .int (Int32.ofNat o), .ref d, .int (Int32.ofNat q), .int (Int32.ofNat len)] 7)) (Tl.setTop (mkF m 15 #[.val (.ref b), .val (.int (Int32.ofNat (o + i))), .val (.ref d), .val (.int (Int32.ofNat (q + i))), .val (.int (Int32.ofNat len)), .val (.int (Int32.ofNat i)), .val (.int (cv A (o + i)))] [])) := c4.trans (by
        refine XS.istoreS Xl.here hexec rfl (hb hbytes d13) rfl rfl hz ?_
        exact Steps.refl _)
      have c6 : Steps p.tables e below (s₁.setTop (entryFrame m #[.ref b, .int (Int32.ofNat o), .ref d, .int (Int32.ofNat q), .int (Int32.ofNat len)] 7)) (Tl.setTop (mkF m 31 #[.val (.ref b), .val (.int (Int32.ofNat (o + i))), .val (.ref d), .val (.int (Int32.ofNat (q + i))), .val (.int (Int32.ofNat len)), .val (.int (Int32.ofNat i)), .val (.int (cv A (o + i)))] [.int (lo8 (cv A (o + i))), .int (Int32.ofNat (q + i)), .ref d])) := c5.trans (by
        refine XS.iload Xl.here hexec rfl (hb hbytes d15) rfl ?_
        refine sipushV Xl.here hexec rfl 255 (hb hbytes d17) (by decide) ?_
        refine XS.icmpYes Xl.here hexec rfl (pc0 := 20) rfl (hb hbytes d20) rfl (ii_le_t (hp i (by omega))) (by decide) rfl ?_
        refine XS.aloadN Xl.here hexec rfl (hb hbytes d26) rfl rfl ?_
        refine XS.iloadN Xl.here hexec rfl (hb hbytes d27) rfl ?_
        refine XS.iload Xl.here hexec rfl (hb hbytes d28) rfl ?_
        refine i2b Xl.here hexec rfl (hb hbytes d30) rfl ?_
        exact Steps.refl _)
      obtain ⟨T7, X7, p7, st7⟩ := Xl.aput hexec hBk rfl hlt rfl (fits_lo8 (cv A (o + i))) (g := (mkF m 31 #[.val (.ref b), .val (.int (Int32.ofNat (o + i))), .val (.ref d), .val (.int (Int32.ofNat (q + i))), .val (.int (Int32.ofNat len)), .val (.int (Int32.ofNat i)), .val (.int (cv A (o + i)))] [.int (lo8 (cv A (o + i))), .int (Int32.ofNat (q + i)), .ref d])) rfl (rest := []) rfl (hb hbytes d31)
      have c8 : Steps p.tables e below (s₁.setTop (entryFrame m #[.ref b, .int (Int32.ofNat o), .ref d, .int (Int32.ofNat q), .int (Int32.ofNat len)] 7)) (T7.setTop (mkF m 32 #[.val (.ref b), .val (.int (Int32.ofNat (o + i))), .val (.ref d), .val (.int (Int32.ofNat (q + i))), .val (.int (Int32.ofNat len)), .val (.int (Int32.ofNat i)), .val (.int (cv A (o + i)))] [])) := c6.trans (st7 _ (Steps.refl _))
      have c9 : Steps p.tables e below (s₁.setTop (entryFrame m #[.ref b, .int (Int32.ofNat o), .ref d, .int (Int32.ofNat q), .int (Int32.ofNat len)] 7)) (T7.setTop (mkF m 3 #[.val (.ref b), .val (.int (Int32.ofNat (o + i) + 1)), .val (.ref d), .val (.int (Int32.ofNat (q + i) + 1)), .val (.int (Int32.ofNat len)), .val (.int (Int32.ofNat i + 1)), .val (.int (cv A (o + i)))] [])) := c8.trans (by
        refine iincV X7.here hexec rfl 1 (hb hbytes d32) (by decide) rfl rfl ?_
        refine iincV X7.here hexec rfl 1 (hb hbytes d35) (by decide) rfl rfl ?_
        refine iincV X7.here hexec rfl 1 (hb hbytes d38) (by decide) rfl rfl ?_
        refine XS.goto X7.here hexec rfl (pc0 := 41) rfl (hb hbytes d41) (by decide) rfl ?_
        exact Steps.refl _)
      have c10 : Steps p.tables e below (s₁.setTop (entryFrame m #[.ref b, .int (Int32.ofNat o), .ref d, .int (Int32.ofNat q), .int (Int32.ofNat len)] 7)) (T7.setTop (mkF m 3 #[.val (.ref b), .val (.int (Int32.ofNat (o + (i + 1)))), .val (.ref d), .val (.int (Int32.ofNat (q + (i + 1)))), .val (.int (Int32.ofNat len)), .val (.int (Int32.ofNat (i + 1))), .val (.int (cv A (o + i)))] [])) := by
        have := c9
        rw [succ32, succ32, succ32] at this
        exact this
      exact ih (i + 1) (by omega) _ (Or.inr ⟨_, rfl, rfl⟩) T7 _ (by rw [copyLocs_step, ← List.append_assoc]; exact X7) (pl.trans p7) (fl.step (by omega) hlt (by simp)) c10
  obtain ⟨T9, B9, z9, X9, p9, f9, g9⟩ := loop len 0 (by omega) .unset (Or.inl rfl) s₁ B (by simpa [copyLocs] using X0) ⟨hB0.1, fun _ _ => rfl, rfl⟩ (Laid.zero _ _ _) c2
  have c11 : Steps p.tables e below (s₁.setTop (entryFrame m #[.ref b, .int (Int32.ofNat o), .ref d, .int (Int32.ofNat q), .int (Int32.ofNat len)] 7)) (T9.setTop (mkF m 46 #[.val (.ref b), .val (.int (Int32.ofNat (o + len))), .val (.ref d), .val (.int (Int32.ofNat (q + len))), .val (.int (Int32.ofNat len)), .val (.int (Int32.ofNat len)), z9] [.int (Int32.ofNat len)])) := g9.trans (by
    refine XS.iload X9.here hexec rfl (hb hbytes d3) rfl ?_
    refine XS.iload X9.here hexec rfl (hb hbytes d5) rfl ?_
    refine XS.icmpYes X9.here hexec rfl (pc0 := 7) rfl (hb hbytes d7) rfl (ii_ge_t (nlt32 (by omega) (Nat.le_refl _))) (by decide) rfl ?_
    refine XS.iload X9.here hexec rfl (hb hbytes d44) rfl ?_
    exact Steps.refl _)
  exact ⟨T9, some (.int (Int32.ofNat len)), _, _, _, X9, by simp, rfl, rfl, (fun h => by cases h), ⟨rfl, B9, p9.from hh0, f9⟩, fun fs hl => c11.trans (X9.ireturnOut hexec hret rfl (Or.inl rfl) (hb hbytes d46) hl)⟩
end Cmp5
namespace Cmp3
def yN : MethodName := ⟨"java/lang/StringUTF16", "compress", "([CII)[B"⟩
abbrev yB : ByteArray := jdk_52_method_16_code
theorem d0 : decode yB 0 = .ok (.iload_n 2, 1) := by decide +kernel
theorem d1 : decode yB 1 = .ok (.newarray .byte, 2) := by decide +kernel
theorem d3 : decode yB 3 = .ok (.astore_n 3, 1) := by decide +kernel
theorem d4 : decode yB 4 = .ok (.aload_n 0, 1) := by decide +kernel
theorem d5 : decode yB 5 = .ok (.iload_n 1, 1) := by decide +kernel
theorem d6 : decode yB 6 = .ok (.aload_n 3, 1) := by decide +kernel
theorem d7 : decode yB 7 = .ok (.iconst 0, 1) := by decide +kernel
theorem d8 : decode yB 8 = .ok (.iload_n 2, 1) := by decide +kernel
theorem d9 : decode yB 9 = .ok (.invokestatic 115, 3) := by decide +kernel
theorem d12 : decode yB 12 = .ok (.istore 4, 2) := by decide +kernel
theorem d14 : decode yB 14 = .ok (.iload 4, 2) := by decide +kernel
theorem d16 : decode yB 16 = .ok (.iload_n 2, 1) := by decide +kernel
theorem d17 : decode yB 17 = .ok (.if_icmp (.eq) 40, 3) := by decide +kernel
theorem d57 : decode yB 57 = .ok (.aload_n 3, 1) := by decide +kernel
theorem d58 : decode yB 58 = .ok (.areturn, 1) := by decide +kernel
def site : List Cond := [.arrayClass .byte, Cmp5.tab] ++ staticW U16 115 Cmp5.yN
def tab : Cond := tabOf yN yB 6 (some (.array .byte)) site
def P (b : Addr) (A : Cell) (o len : Nat) (args : Array Value) (s : State) : Prop := args = #[.ref b, .int (Int32.ofNat o), .int (Int32.ofNat len)] ∧ Ch b A s ∧ o + len ≤ A.slots.size ∧ len ≤ 536870912 ∧ ∀ i, i < len → ¬ 255 < cv A (o + i)
def E (b : Addr) (A : Cell) (o len : Nat) (r : Option Value) (s u : State) : Prop := NewArr .byte "[B" len (fun j => .int (lo8 (cv A (o + j)))) r s u ∧ u.heap.size = s.heap.size + 1
/-- no char of the range above 255: a new byte[] of their low bytes -/
theorem law (l : Launch) (b : Addr) (A : Cell) (o len : Nat) : Law l yN 3 3 1 18 yB 6 (some (.array .byte)) site (P b A o len) (E b A o len) [] 1 len := by
  refine Law.of_walk (plainFor_of_name (by decide +kernel)) (by decide +kernel) (by decide +kernel) (by decide) (fun _ _ h => by rw [h.1]; rfl) (fun _ U U' hal hh h => ⟨h.1, h.2.1.mv hal hh, h.2.2⟩) (fun r U U' V V' h1 hal h2 h => ⟨NewArr.mv r U U' V V' h1 hal h2 h.1, by rw [h1, h2]; exact h.2⟩) ?_
  intro p e s m args below meth c s₁ X0 hexec hbytes hml hret hlk hnm hown hh0 W hP
  obtain ⟨rfl, hA, l1, l2, hp⟩ := hP
  have a31 := hA.1.2.2.2
  have c1 : Steps p.tables e below (s₁.setTop (entryFrame m #[.ref b, .int (Int32.ofNat o), .int (Int32.ofNat len)] 6)) (s₁.setTop (mkF m 0 #[.val (.ref b), .val (.int (Int32.ofNat o)), .val (.int (Int32.ofNat len)), .unset, .unset, .unset] [])) := entry rfl
  have c2 : Steps p.tables e below (s₁.setTop (entryFrame m #[.ref b, .int (Int32.ofNat o), .int (Int32.ofNat len)] 6)) (s₁.setTop (mkF m 1 #[.val (.ref b), .val (.int (Int32.ofNat o)), .val (.int (Int32.ofNat len)), .unset, .unset, .unset] [.int (Int32.ofNat len)])) := c1.trans (by
    refine XS.iloadN X0.here hexec rfl (hb hbytes d0) rfl ?_
    exact Steps.refl _)
  obtain ⟨T3, B3, X3, ba3, bs3, bv3, bh3, bf3, st3⟩ := X0.anew hexec (atype := .byte) (wk W (.arrayClass .byte)) rfl (by show len * 1 ≤ _; omega) (by omega) (g := (mkF m 1 #[.val (.ref b), .val (.int (Int32.ofNat o)), .val (.int (Int32.ofNat len)), .unset, .unset, .unset] [.int (Int32.ofNat len)])) rfl (hb hbytes d1) (rest := []) rfl (Nat.le_refl _) (by show 0 + len ≤ len; omega)
  rw [hh0] at ba3 st3
  have kp3 : XT.Kept s T3 := (XT.Kept.of_eq hh0).push bh3
  have hA3 := hA.keep X3.warmed.alike (kp3 _ _ hA.1.1)
  have hne : b ≠ s.heap.size := hA.1.ne
  have c4 : Steps p.tables e below (s₁.setTop (entryFrame m #[.ref b, .int (Int32.ofNat o), .int (Int32.ofNat len)] 6)) (T3.setTop (mkF m 3 #[.val (.ref b), .val (.int (Int32.ofNat o)), .val (.int (Int32.ofNat len)), .unset, .unset, .unset] [.ref s.heap.size])) := c2.trans (st3 _ (Steps.refl _))
  have c5 : Steps p.tables e below (s₁.setTop (entryFrame m #[.ref b, .int (Int32.ofNat o), .int (Int32.ofNat len)] 6)) (T3.setTop (mkF m 9 #[.val (.ref b), .val (.int (Int32.ofNat o)), .val (.int (Int32.ofNat len)), .val (.ref s.heap.size), .unset, .unset] [.int (Int32.ofNat len), .int 0, .ref s.heap.size, .int (Int32.ofNat o), .ref b])) := c4.trans (by
    refine XS.astoreN X3.here hexec rfl (hb hbytes d3) rfl rfl rfl ?_
    refine XS.aloadN X3.here hexec rfl (hb hbytes d4) rfl rfl ?_
    refine XS.iloadN X3.here hexec rfl (hb hbytes d5) rfl ?_
    refine XS.aloadN X3.here hexec rfl (hb hbytes d6) rfl rfl ?_
    refine iconstV X3.here hexec rfl 0 (hb hbytes d7) (by decide) ?_
    refine XS.iloadN X3.here hexec rfl (hb hbytes d8) rfl ?_
    exact Steps.refl _)
  obtain ⟨v6, T6, X6, E6, g6⟩ := X3.callS hexec (Cmp5.law l b A s.heap.size B3 o 0 len) hown (wks W (staticW U16 115 Cmp5.yN)) (wk W Cmp5.tab) (W := 0) (Nat.le_of_ble_eq_true rfl) (Nat.le_of_ble_eq_true rfl) (Nat.le_refl _) (by show 0 + len + 0 ≤ len; omega) (g := (mkF m 9 #[.val (.ref b), .val (.int (Int32.ofNat o)), .val (.int (Int32.ofNat len)), .val (.ref s.heap.size), .unset, .unset] [.int (Int32.ofNat len), .int (Int32.ofNat 0), .ref s.heap.size, .int (Int32.ofNat o), .ref b])) rfl (by rw [hml]; rfl) c5 (argsL := [.ref b, .int (Int32.ofNat o), .ref s.heap.size, .int (Int32.ofNat 0), .int (Int32.ofNat len)]) (rest := []) rfl rfl (by show 2 * 0 + 0 ≤ _; decide) (hb hbytes d9) (⟨rfl, hA3, ba3, hne, l1, by rw [bs3]; simp, hp⟩)
  obtain ⟨rfl, B6, p6, f6⟩ := E6
  have c7 : Steps p.tables e below (s₁.setTop (entryFrame m #[.ref b, .int (Int32.ofNat o), .int (Int32.ofNat len)] 6)) (T6.setTop (mkF m 12 #[.val (.ref b), .val (.int (Int32.ofNat o)), .val (.int (Int32.ofNat len)), .val (.ref s.heap.size), .unset, .unset] [.int (Int32.ofNat len)])) := g6
  have c8 : Steps p.tables e below (s₁.setTop (entryFrame m #[.ref b, .int (Int32.ofNat o), .int (Int32.ofNat len)] 6)) (T6.setTop (mkF m 58 #[.val (.ref b), .val (.int (Int32.ofNat o)), .val (.int (Int32.ofNat len)), .val (.ref s.heap.size), .val (.int (Int32.ofNat len)), .unset] [.ref s.heap.size])) := c7.trans (by
    refine XS.istore X6.here hexec rfl (hb hbytes d12) rfl rfl ?_
    refine XS.iload X6.here hexec rfl (hb hbytes d14) rfl ?_
    refine XS.iloadN X6.here hexec rfl (hb hbytes d16) rfl ?_
    refine XS.icmpYes X6.here hexec rfl (pc0 := 17) rfl (hb hbytes d17) rfl (ii_eq_t rfl) (by decide) rfl ?_
    refine XS.aloadN X6.here hexec rfl (hb hbytes d57) rfl rfl ?_
    exact Steps.refl _)
  have X8 := X6.wide (L' := []) (cells' := 1) (slots' := len) (fun x hx hlt => by
    simp only [List.nil_append, copyLocs, List.mem_map, List.mem_range] at hx
    obtain ⟨i, -, rfl⟩ := hx
    exact absurd hlt (Nat.lt_irrefl _)) (Nat.le_refl _) (by omega)
  exact ⟨T6, some (.ref s.heap.size), _, _, _, X8, rfl, rfl, rfl, (fun h => by cases h), ⟨⟨rfl, B6, ba3.like (X3.warmed.alike.symm.trans X6.warmed.alike) p6.1 f6.1 f6.2.1 f6.2.2.1, f6.2.1.trans bv3, by rw [X6.warmed.alike.findClass, f6.1]; exact bf3, by rw [f6.2.2.1, bs3]; simp, fun j hj => by rw [f6.2.2.2 j, if_pos (by omega)]; rfl, kp3.put p6 (Nat.le_refl _)⟩, by rw [p6.2.2, bh3, hh0]; simp⟩, fun fs hl => c8.trans (X8.areturnOut hexec rfl hret rfl (hb hbytes d58) hl)⟩
end Cmp3
namespace CodL
def yN : MethodName := ⟨"java/lang/StringUTF16", "coderFromArrayLen", "([BI)B"⟩
abbrev yB : ByteArray := jdk_52_method_15_code
theorem d0 : decode yB 0 = .ok (.iload_n 1, 1) := by decide +kernel
theorem d1 : decode yB 1 = .ok (.aload_n 0, 1) := by decide +kernel
theorem d2 : decode yB 2 = .ok (.arraylength, 1) := by decide +kernel
theorem d3 : decode yB 3 = .ok (.isub, 1) := by decide +kernel
theorem d4 : decode yB 4 = .ok (.bipush 31, 2) := by decide +kernel
theorem d6 : decode yB 6 = .ok (.iushr, 1) := by decide +kernel
theorem d7 : decode yB 7 = .ok (.i2b, 1) := by decide +kernel
theorem d8 : decode yB 8 = .ok (.ireturn, 1) := by decide +kernel
def site : List Cond := []
def tab : Cond := tabOf yN yB 2 (some .byte) site
def P (d : Addr) (B : Cell) (args : Array Value) (s : State) : Prop := args = #[.ref d, .int (Int32.ofNat B.slots.size)] ∧ Arr .byte d B s
def E (r : Option Value) (s u : State) : Prop := XT.PureE (some (.int 0)) r s u
/-- an array as long as the number of chars: LATIN1 -/
theorem law (l : Launch) (d : Addr) (B : Cell) : Law l yN 2 2 0 0 yB 2 (some .byte) site (P d B) E [] 0 0 := by
  refine Law.of_walk (plainFor_of_name (by decide +kernel)) (by decide +kernel) (by decide +kernel) (by decide) (fun _ _ h => by rw [h.1]; rfl) (fun _ U U' hal hh h => ⟨h.1, h.2.mv hal hh⟩) (fun r U U' V V' h1 hal h2 h => XT.PureE.mv r U U' V V' h1 hal h2 h) ?_
  intro p e s m args below meth c s₁ X0 hexec hbytes hml hret hlk hnm hown hh0 W hP
  obtain ⟨rfl, hB⟩ := hP
  have hB0 := hB.mv X0.warmed.alike hh0
  have c1 : Steps p.tables e below (s₁.setTop (entryFrame m #[.ref d, .int (Int32.ofNat B.slots.size)] 2)) (s₁.setTop (mkF m 0 #[.val (.ref d), .val (.int (Int32.ofNat B.slots.size))] [])) := entry rfl
  have c2 : Steps p.tables e below (s₁.setTop (entryFrame m #[.ref d, .int (Int32.ofNat B.slots.size)] 2)) (s₁.setTop (mkF m 2 #[.val (.ref d), .val (.int (Int32.ofNat B.slots.size))] [.ref d, .int (Int32.ofNat B.slots.size)])) := c1.trans (by
    refine XS.iloadN X0.here hexec rfl (hb hbytes d0) rfl ?_
    refine XS.aloadN X0.here hexec rfl (hb hbytes d1) rfl rfl ?_
    exact Steps.refl _)
  have c3 : Steps p.tables e below (s₁.setTop (entryFrame m #[.ref d, .int (Int32.ofNat B.slots.size)] 2)) (s₁.setTop (mkF m 8 #[.val (.ref d), .val (.int (Int32.ofNat B.slots.size))] [.int (lo8 (ushr (Int32.ofNat B.slots.size - Int32.ofNat B.slots.size) 31))])) := c2.trans (by
    refine X0.alen hexec hB0 rfl rfl (hb hbytes d2) ?_
    refine XS.isub X0.here hexec rfl (hb hbytes d3) rfl ?_
    refine bipushV X0.here hexec rfl 31 (hb hbytes d4) (by decide) ?_
    refine iushr X0.here hexec rfl (hb hbytes d6) rfl ?_
    refine i2b X0.here hexec rfl (hb hbytes d7) rfl ?_
    exact Steps.refl _)
  have e0 : lo8 (ushr (Int32.ofNat B.slots.size - Int32.ofNat B.slots.size) 31) = 0 := by rw [Int32.sub_self]; decide
  rw [e0] at c3
  exact ⟨s₁, some (.int 0), _, _, _, X0, rfl, rfl, rfl, (fun h => by cases h), ⟨rfl, hh0⟩, fun fs hl => c3.trans (X0.ireturnOut hexec hret rfl (Or.inr (Or.inr (Or.inl rfl))) (hb hbytes d8) hl)⟩
end CodL
/-- the String at a is Latin-1 over a new byte[] (the heap's one new cell): the low bytes of the len chars of A from o on; every cell but a is kept -/
def Got (a : Addr) (D : Cell) (fV fC : Field) (A : Cell) (o len : Nat) (r : Option Value) (s u : State) : Prop := r = none ∧ ∃ D' V : Cell, Blank "java/lang/String" a D' u ∧ Same D D' [fV.slot, fC.slot] ∧ D'.slots[fV.slot]? = some (.ref s.heap.size) ∧ D'.slots[fC.slot]? = some (.int 0) ∧ Arr .byte s.heap.size V u ∧ V.vm = .none ∧ u.vm.findClass "[B" = some V.cls ∧ V.slots.size = len ∧ (∀ j, j < len → V.slots[j]? = some (.int (lo8 (cv A (o + j))))) ∧ (∀ (y : Addr) (c : Cell), y ≠ a → s.heap[y]? = some c → u.heap[y]? = some c) ∧ u.heap.size = s.heap.size + 1
theorem Got.mv {a : Addr} {D A : Cell} {fV fC : Field} {o len : Nat} : ∀ r (U U' V V' : State), U'.heap = U.heap → V.vm.Alike V'.vm → V'.heap = V.heap → Got a D fV fC A o len r U V → Got a D fV fC A o len r U' V' :=
  fun r U U' V V' h1 hal h2 ⟨e0, D', X, a1, a2, a3, a4, a5, a6, a7, a8, a9, a10, a11⟩ => ⟨e0, D', X, a1.mv hal h2, a2, by rw [h1]; exact a3, a4, by rw [h1]; exact a5.mv hal h2, a6, by rw [hal.findClass]; exact a7, a8, a9, by rw [h1, h2]; exact a10, by rw [h1, h2]; exact a11⟩
namespace New4
def yN : MethodName := ⟨"java/lang/String", "<init>", "([CIILjava/lang/Void;)V"⟩
abbrev yB : ByteArray := jdk_42_method_149_code
theorem d0 : decode yB 0 = .ok (.aload_n 0, 1) := by decide +kernel
theorem d1 : decode yB 1 = .ok (.invokespecial 1, 3) := by decide +kernel
theorem d4 : decode yB 4 = .ok (.iload_n 3, 1) := by decide +kernel
theorem d5 : decode yB 5 = .ok (.ifCond (.ne) 22, 3) := by decide +kernel
theorem d27 : decode yB 27 = .ok (.getstatic 38, 3) := by decide +kernel
theorem d30 : decode yB 30 = .ok (.ifCond (.eq) 28, 3) := by decide +kernel
theorem d33 : decode yB 33 = .ok (.aload_n 1, 1) := by decide +kernel
theorem d34 : decode yB 34 = .ok (.iload_n 2, 1) := by decide +kernel
theorem d35 : decode yB 35 = .ok (.iload_n 3, 1) := by decide +kernel
theorem d36 : decode yB 36 = .ok (.invokestatic 177, 3) := by decide +kernel
theorem d39 : decode yB 39 = .ok (.astore 5, 2) := by decide +kernel
theorem d41 : decode yB 41 = .ok (.aload_n 0, 1) := by decide +kernel
theorem d42 : decode yB 42 = .ok (.aload 5, 2) := by decide +kernel
theorem d44 : decode yB 44 = .ok (.iload_n 3, 1) := by decide +kernel
theorem d45 : decode yB 45 = .ok (.invokestatic 47, 3) := by decide +kernel
theorem d48 : decode yB 48 = .ok (.putfield 15, 3) := by decide +kernel
theorem d51 : decode yB 51 = .ok (.aload_n 0, 1) := by decide +kernel
theorem d52 : decode yB 52 = .ok (.aload 5, 2) := by decide +kernel
theorem d54 : decode yB 54 = .ok (.putfield 9, 3) := by decide +kernel
theorem d57 : decode yB 57 = .ok (.return_, 1) := by decide +kernel
def site : List Cond := [.fieldLink "java/lang/String" 38 "java/lang/String" "COMPACT_STRINGS" "Z", Cmp3.tab, CodL.tab, .laysFinal "java/lang/String" "java/lang/String" "value" "[B", .fieldLink "java/lang/String" 9 "java/lang/String" "value" "[B", .laysFinal "java/lang/String" "java/lang/String" "coder" "B", .fieldLink "java/lang/String" 15 "java/lang/String" "coder" "B"] ++ objW "java/lang/String" 1 ++ staticW "java/lang/String" 177 Cmp3.yN ++ staticW "java/lang/String" 47 CodL.yN
def tab : Cond := tabOf yN yB 6 none site
def P (a : Addr) (D : Cell) (fV fC : Field) (b : Addr) (A : Cell) (z : Int32) (o len : Nat) (args : Array Value) (s : State) : Prop := args = #[.ref a, .ref b, .int (Int32.ofNat o), .int (Int32.ofNat len), .null] ∧ Blank "java/lang/String" a D s ∧ Found "java/lang/String" "value" "[B" fV s ∧ Found "java/lang/String" "coder" "B" fC s ∧ Ch b A s ∧ StaticIs s "java/lang/String" "COMPACT_STRINGS" "Z" (.int z) ∧ ¬ z = 0 ∧ 0 < len ∧ o + len ≤ A.slots.size ∧ len ≤ 536870912 ∧ ∀ i, i < len → ¬ 255 < cv A (o + i)
def E (a : Addr) (D : Cell) (fV fC : Field) (A : Cell) (o len : Nat) (r : Option Value) (s u : State) : Prop := Got a D fV fC A o len r s u
/-- len > 0, no char of the range above 255: a Latin-1 String of their low bytes -/
theorem law (l : Launch) (a : Addr) (D : Cell) (fV fC : Field) (b : Addr) (A : Cell) (z : Int32) (o len : Nat) : Law l yN 5 4 2 35 yB 6 none site (P a D fV fC b A z o len) (E a D fV fC A o len) [⟨a, fC.slot⟩, ⟨a, fV.slot⟩] 1 len := by
  refine Law.of_walk (plainFor_of_name (by decide +kernel)) (by decide +kernel) (by decide +kernel) (by decide) (fun _ _ h => by rw [h.1]; rfl) (fun _ U U' hal hh h => ⟨h.1, h.2.1.mv hal hh, h.2.2.1.al hal, h.2.2.2.1.al hal, h.2.2.2.2.1.mv hal hh, h.2.2.2.2.2.1.there hal hh, h.2.2.2.2.2.2⟩) (fun r U U' V V' h1 hal h2 h => Got.mv r U U' V V' h1 hal h2 h) ?_
  intro p e s m args below meth c s₁ X0 hexec hbytes hml hret hlk hnm hown hh0 W hP
  obtain ⟨rfl, hB, f1, f2, hA, s1, hz, l0, l1, l2, hp⟩ := hP
  have a31 := hA.1.2.2.2
  have c1 : Steps p.tables e below (s₁.setTop (entryFrame m #[.ref a, .ref b, .int (Int32.ofNat o), .int (Int32.ofNat len), .null] 6)) (s₁.setTop (mkF m 0 #[.val (.ref a), .val (.ref b), .val (.int (Int32.ofNat o)), .val (.int (Int32.ofNat len)), .val .null, .unset] [])) := entry rfl
  have c2 : Steps p.tables e below (s₁.setTop (entryFrame m #[.ref a, .ref b, .int (Int32.ofNat o), .int (Int32.ofNat len), .null] 6)) (s₁.setTop (mkF m 1 #[.val (.ref a), .val (.ref b), .val (.int (Int32.ofNat o)), .val (.int (Int32.ofNat len)), .val .null, .unset] [.ref a])) := c1.trans (by
    refine XS.aloadN X0.here hexec rfl (hb hbytes d0) rfl rfl ?_
    exact Steps.refl _)
  obtain ⟨T3, X3, q3, st3⟩ := X0.oinit hexec hown (wks W (objW "java/lang/String" 1)) (g := (mkF m 1 #[.val (.ref a), .val (.ref b), .val (.int (Int32.ofNat o)), .val (.int (Int32.ofNat len)), .val .null, .unset] [.ref a])) rfl (by rw [hml]; rfl) (rest := []) rfl (hb hbytes d1) (W := 0) (by show 2 * 0 + 0 ≤ _; decide) (Nat.le_of_ble_eq_true rfl) (Nat.le_of_ble_eq_true rfl)
  have hh3 := q3.trans hh0
  have c4 : Steps p.tables e below (s₁.setTop (entryFrame m #[.ref a, .ref b, .int (Int32.ofNat o), .int (Int32.ofNat len), .null] 6)) (T3.setTop (mkF m 27 #[.val (.ref a), .val (.ref b), .val (.int (Int32.ofNat o)), .val (.int (Int32.ofNat len)), .val .null, .unset] [])) := (c2.trans (st3 _ (Steps.refl _))).trans (by
    refine XS.iloadN X3.here hexec rfl (hb hbytes d4) rfl ?_
    refine XS.ifYes X3.here hexec rfl (pc0 := 5) rfl (hb hbytes d5) rfl (i0_ne_t (nz32 (by omega) l0)) (by decide) rfl ?_
    exact Steps.refl _)
  obtain ⟨T5, X5, q5, st5⟩ := X3.sget hexec hown (wk W (.fieldLink "java/lang/String" 38 "java/lang/String" "COMPACT_STRINGS" "Z")) s1 (fun _ _ h => by rw [hh3]; exact h) (g := (mkF m 27 #[.val (.ref a), .val (.ref b), .val (.int (Int32.ofNat o)), .val (.int (Int32.ofNat len)), .val .null, .unset] [])) rfl (hb hbytes d27)
  have hh5 := q5.trans hh3
  have c6 : Steps p.tables e below (s₁.setTop (entryFrame m #[.ref a, .ref b, .int (Int32.ofNat o), .int (Int32.ofNat len), .null] 6)) (T5.setTop (mkF m 30 #[.val (.ref a), .val (.ref b), .val (.int (Int32.ofNat o)), .val (.int (Int32.ofNat len)), .val .null, .unset] [.int z])) := c4.trans (st5 _ (Steps.refl _))
  have c7 : Steps p.tables e below (s₁.setTop (entryFrame m #[.ref a, .ref b, .int (Int32.ofNat o), .int (Int32.ofNat len), .null] 6)) (T5.setTop (mkF m 36 #[.val (.ref a), .val (.ref b), .val (.int (Int32.ofNat o)), .val (.int (Int32.ofNat len)), .val .null, .unset] [.int (Int32.ofNat len), .int (Int32.ofNat o), .ref b])) := c6.trans (by
    refine XS.ifNo X5.here hexec rfl (hb hbytes d30) rfl (i0_eq_f hz) ?_
    refine XS.aloadN X5.here hexec rfl (hb hbytes d33) rfl rfl ?_
    refine XS.iloadN X5.here hexec rfl (hb hbytes d34) rfl ?_
    refine XS.iloadN X5.here hexec rfl (hb hbytes d35) rfl ?_
    exact Steps.refl _)
  obtain ⟨v8, T8, X8, E8, g8⟩ := X5.callS hexec (Cmp3.law l b A o len) hown (wks W (staticW "java/lang/String" 177 Cmp3.yN)) (wk W Cmp3.tab) (W := 0) (Nat.le_of_ble_eq_true rfl) (Nat.le_of_ble_eq_true rfl) (Nat.le_refl _) (by show 0 + len ≤ len; omega) (g := (mkF m 36 #[.val (.ref a), .val (.ref b), .val (.int (Int32.ofNat o)), .val (.int (Int32.ofNat len)), .val .null, .unset] [.int (Int32.ofNat len), .int (Int32.ofNat o), .ref b])) rfl (by rw [hml]; rfl) c7 (argsL := [.ref b, .int (Int32.ofNat o), .int (Int32.ofNat len)]) (rest := []) rfl rfl (by show 2 * 0 + 0 ≤ _; decide) (hb hbytes d36) (⟨rfl, hA.mv X5.warmed.alike hh5, l1, l2, hp⟩)
  obtain ⟨e8, z8⟩ := E8
  obtain ⟨rfl, N, n1, n2, n3, n4, n5, n6⟩ := NewArr.mv _ T5 s _ _ hh5.symm (Vm.Alike.refl _) rfl e8
  rw [hh5] at z8
  have hB1 := hB.keep X8.warmed.alike (n6 _ _ hB.1)
  have hne : s.heap.size ≠ a := (Nat.ne_of_lt (Array.getElem?_eq_some_iff.mp hB.1).1).symm
  have c9 : Steps p.tables e below (s₁.setTop (entryFrame m #[.ref a, .ref b, .int (Int32.ofNat o), .int (Int32.ofNat len), .null] 6)) (T8.setTop (mkF m 39 #[.val (.ref a), .val (.ref b), .val (.int (Int32.ofNat o)), .val (.int (Int32.ofNat len)), .val .null, .unset] [.ref s.heap.size])) := g8
  have c10 : Steps p.tables e below (s₁.setTop (entryFrame m #[.ref a, .ref b, .int (Int32.ofNat o), .int (Int32.ofNat len), .null] 6)) (T8.setTop (mkF m 45 #[.val (.ref a), .val (.ref b), .val (.int (Int32.ofNat o)), .val (.int (Int32.ofNat len)), .val .null, .val (.ref s.heap.size)] [.int (Int32.ofNat N.slots.size), .ref s.heap.size, .ref a])) := by
    have hc : Steps p.tables e below (s₁.setTop (entryFrame m #[.ref a, .ref b, .int (Int32.ofNat o), .int (Int32.ofNat len), .null] 6)) (T8.setTop (mkF m 45 #[.val (.ref a), .val (.ref b), .val (.int (Int32.ofNat o)), .val (.int (Int32.ofNat len)), .val .null, .val (.ref s.heap.size)] [.int (Int32.ofNat len), .ref s.heap.size, .ref a])) := c9.trans (by
      refine XS.astore X8.here hexec rfl (hb hbytes d39) rfl rfl rfl ?_
      refine XS.aloadN X8.here hexec rfl (hb hbytes d41) rfl rfl ?_
      refine XS.aload X8.here hexec rfl (hb hbytes d42) rfl rfl ?_
      refine XS.iloadN X8.here hexec rfl (hb hbytes d44) rfl ?_
      exact Steps.refl _)
    rw [n4]; exact hc
  obtain ⟨v11, T11, X11, E11, g11⟩ := X8.callS hexec (CodL.law l s.heap.size N) hown (wks W (staticW "java/lang/String" 47 CodL.yN)) (wk W CodL.tab) (W := 1) (Nat.le_of_ble_eq_true rfl) (Nat.le_of_ble_eq_true rfl) (Nat.le_refl _) (by show 0 + len + 0 ≤ len; omega) (g := (mkF m 45 #[.val (.ref a), .val (.ref b), .val (.int (Int32.ofNat o)), .val (.int (Int32.ofNat len)), .val .null, .val (.ref s.heap.size)] [.int (Int32.ofNat N.slots.size), .ref s.heap.size, .ref a])) rfl (by rw [hml]; rfl) c10 (argsL := [.ref s.heap.size, .int (Int32.ofNat N.slots.size)]) (rest := [.ref a]) rfl rfl (by show 2 * 0 + (1 + 0) ≤ _; decide) (hb hbytes d45) (⟨rfl, n1⟩)
  obtain ⟨rfl, q11⟩ := E11
  have hB11 := hB1.mv (X8.warmed.alike.symm.trans X11.warmed.alike) q11
  have c12 : Steps p.tables e below (s₁.setTop (entryFrame m #[.ref a, .ref b, .int (Int32.ofNat o), .int (Int32.ofNat len), .null] 6)) (T11.setTop (mkF m 48 #[.val (.ref a), .val (.ref b), .val (.int (Int32.ofNat o)), .val (.int (Int32.ofNat len)), .val .null, .val (.ref s.heap.size)] [.int 0, .ref a])) := g11
  obtain ⟨T13, X13, p13, bl13, sl13, st13⟩ := X11.finit hexec hown (wk W (.fieldLink "java/lang/String" 15 "java/lang/String" "coder" "B")) (Or.inr ⟨_, (wk W (.laysFinal "java/lang/String" "java/lang/String" "coder" "B"))⟩) (Or.inl ⟨rfl, hnm⟩) f2 (Or.inl rfl) hB11 (t := .byte) (by decide +kernel) rfl (g := (mkF m 48 #[.val (.ref a), .val (.ref b), .val (.int (Int32.ofNat o)), .val (.int (Int32.ofNat len)), .val .null, .val (.ref s.heap.size)] [.int 0, .ref a])) rfl (rest := []) rfl (hb hbytes d48)
  have c14 : Steps p.tables e below (s₁.setTop (entryFrame m #[.ref a, .ref b, .int (Int32.ofNat o), .int (Int32.ofNat len), .null] 6)) (T13.setTop (mkF m 54 #[.val (.ref a), .val (.ref b), .val (.int (Int32.ofNat o)), .val (.int (Int32.ofNat len)), .val .null, .val (.ref s.heap.size)] [.ref s.heap.size, .ref a])) := (c12.trans (st13 _ (Steps.refl _))).trans (by
    refine XS.aloadN X13.here hexec rfl (hb hbytes d51) rfl rfl ?_
    refine XS.aload X13.here hexec rfl (hb hbytes d52) rfl rfl ?_
    exact Steps.refl _)
  obtain ⟨T15, X15, p15, bl15, sl15, st15⟩ := X13.finit hexec hown (wk W (.fieldLink "java/lang/String" 9 "java/lang/String" "value" "[B")) (Or.inr ⟨_, (wk W (.laysFinal "java/lang/String" "java/lang/String" "value" "[B"))⟩) (Or.inl ⟨rfl, hnm⟩) f1 (Or.inl rfl) bl13 (t := (.array .byte)) (by decide +kernel) rfl (g := (mkF m 54 #[.val (.ref a), .val (.ref b), .val (.int (Int32.ofNat o)), .val (.int (Int32.ofNat len)), .val .null, .val (.ref s.heap.size)] [.ref s.heap.size, .ref a])) rfl (rest := []) rfl (hb hbytes d54)
  have c16 : Steps p.tables e below (s₁.setTop (entryFrame m #[.ref a, .ref b, .int (Int32.ofNat o), .int (Int32.ofNat len), .null] 6)) (T15.setTop (mkF m 57 #[.val (.ref a), .val (.ref b), .val (.int (Int32.ofNat o)), .val (.int (Int32.ofNat len)), .val .null, .val (.ref s.heap.size)] [])) := c14.trans (st15 _ (Steps.refl _))
  have ap := apart (Or.inr ⟨_, (wk W (.laysFinal "java/lang/String" "java/lang/String" "value" "[B"))⟩) (Or.inr ⟨_, (wk W (.laysFinal "java/lang/String" "java/lang/String" "coder" "B"))⟩) f1 f2 (t₁ := .array .byte) (t₂ := .byte) (by decide +kernel) (by decide +kernel) (by decide)
  have al := X8.warmed.alike.symm.trans X15.warmed.alike
  have n7 : T11.heap[s.heap.size]? = some N := by rw [q11]; exact n1.1
  exact ⟨T15, none, _, _, _, X15, by simp, rfl, by omega, (fun _ => rfl), ⟨rfl, _, N, bl15, ((Same.refl D _).set _ (by simp)).set _ (by simp), sl15, (Cell.slots_setSlot_ne _ ap).trans sl13, n1.keep al (p15.other hne (p13.other hne n7)), n2, by rw [al.findClass]; exact n3, n4, n5, fun y c h1 h2 => p15.other h1 (p13.other h1 (by rw [q11]; exact n6 y c h2)), by rw [p15.2.2, p13.2.2, q11]; exact z8⟩, fun fs hl => c16.trans (X15.returnOut hexec hret (hb hbytes d57) hl)⟩
end New4
namespace New1
def yN : MethodName := ⟨"java/lang/String", "<init>", "([C)V"⟩
abbrev yB : ByteArray := jdk_42_method_3_code
theorem d0 : decode yB 0 = .ok (.aload_n 0, 1) := by decide +kernel
theorem d1 : decode yB 1 = .ok (.aload_n 1, 1) := by decide +kernel
theorem d2 : decode yB 2 = .ok (.iconst 0, 1) := by decide +kernel
theorem d3 : decode yB 3 = .ok (.aload_n 1, 1) := by decide +kernel
theorem d4 : decode yB 4 = .ok (.arraylength, 1) := by decide +kernel
theorem d5 : decode yB 5 = .ok (.aconst_null, 1) := by decide +kernel
theorem d6 : decode yB 6 = .ok (.invokespecial 27, 3) := by decide +kernel
theorem d9 : decode yB 9 = .ok (.return_, 1) := by decide +kernel
def site : List Cond := [New4.tab] ++ initW "java/lang/String" 27 New4.yN
def tab : Cond := tabOf yN yB 2 none site
def P (a : Addr) (D : Cell) (fV fC : Field) (b : Addr) (A : Cell) (z : Int32) (args : Array Value) (s : State) : Prop := args = #[.ref a, .ref b] ∧ Blank "java/lang/String" a D s ∧ Found "java/lang/String" "value" "[B" fV s ∧ Found "java/lang/String" "coder" "B" fC s ∧ Ch b A s ∧ StaticIs s "java/lang/String" "COMPACT_STRINGS" "Z" (.int z) ∧ ¬ z = 0 ∧ 0 < A.slots.size ∧ A.slots.size ≤ 536870912 ∧ ∀ i, i < A.slots.size → ¬ 255 < cv A i
def E (a : Addr) (D : Cell) (fV fC : Field) (A : Cell) (r : Option Value) (s u : State) : Prop := Got a D fV fC A 0 A.slots.size r s u
/-- new String(chars), not empty, no char above 255: a Latin-1 String of their low bytes -/
theorem law (l : Launch) (a : Addr) (D : Cell) (fV fC : Field) (b : Addr) (A : Cell) (z : Int32) : Law l yN 2 1 3 52 yB 2 none site (P a D fV fC b A z) (E a D fV fC A) [⟨a, fC.slot⟩, ⟨a, fV.slot⟩] 1 A.slots.size := by
  refine Law.of_walk (plainFor_of_name (by decide +kernel)) (by decide +kernel) (by decide +kernel) (by decide) (fun _ _ h => by rw [h.1]; rfl) (fun _ U U' hal hh h => ⟨h.1, h.2.1.mv hal hh, h.2.2.1.al hal, h.2.2.2.1.al hal, h.2.2.2.2.1.mv hal hh, h.2.2.2.2.2.1.there hal hh, h.2.2.2.2.2.2⟩) (fun r U U' V V' h1 hal h2 h => Got.mv r U U' V V' h1 hal h2 h) ?_
  intro p e s m args below meth c s₁ X0 hexec hbytes hml hret hlk hnm hown hh0 W hP
  obtain ⟨rfl, hB, f1, f2, hA, s1, hz, l0, l2, hp⟩ := hP
  have c1 : Steps p.tables e below (s₁.setTop (entryFrame m #[.ref a, .ref b] 2)) (s₁.setTop (mkF m 0 #[.val (.ref a), .val (.ref b)] [])) := entry rfl
  have c2 : Steps p.tables e below (s₁.setTop (entryFrame m #[.ref a, .ref b] 2)) (s₁.setTop (mkF m 6 #[.val (.ref a), .val (.ref b)] [.null, .int (Int32.ofNat A.slots.size), .int 0, .ref b, .ref a])) := c1.trans (by
    refine XS.aloadN X0.here hexec rfl (hb hbytes d0) rfl rfl ?_
    refine XS.aloadN X0.here hexec rfl (hb hbytes d1) rfl rfl ?_
    refine iconstV X0.here hexec rfl 0 (hb hbytes d2) (by decide) ?_
    refine XS.aloadN X0.here hexec rfl (hb hbytes d3) rfl rfl ?_
    refine X0.alen hexec (hA.1.mv X0.warmed.alike hh0) rfl rfl (hb hbytes d4) ?_
    refine XS.aconstNull X0.here hexec rfl (hb hbytes d5) ?_
    exact Steps.refl _)
  obtain ⟨v3, T3, X3, E3, g3⟩ := X0.callN hexec (New4.law l a D fV fC b A z 0 A.slots.size) rfl hown (wks W (initW "java/lang/String" 27 New4.yN)) (W New4.tab (by simp only [site, List.mem_cons, List.mem_append, true_or, or_true])) (W := 0) (Nat.le_of_ble_eq_true rfl) (Nat.le_of_ble_eq_true rfl) (Nat.le_refl _) (by show 0 + A.slots.size ≤ A.slots.size; omega) (g := (mkF m 6 #[.val (.ref a), .val (.ref b)] [.null, .int (Int32.ofNat A.slots.size), .int (Int32.ofNat 0), .ref b, .ref a])) rfl (by rw [hml]; rfl) c2 (argsL := [.ref b, .int (Int32.ofNat 0), .int (Int32.ofNat A.slots.size), .null]) (rest := []) rfl rfl (by show 2 * 0 + 0 ≤ _; decide) (hb hbytes d6) (⟨rfl, hB.mv X0.warmed.alike hh0, f1.al X0.warmed.alike, f2.al X0.warmed.alike, hA.mv X0.warmed.alike hh0, s1.there X0.warmed.alike hh0, hz, l0, by omega, l2, fun i hi => by rw [Nat.zero_add]; exact hp i hi⟩)
  have e0 := Got.mv _ s₁ s _ _ hh0.symm (Vm.Alike.refl _) rfl E3
  obtain rfl := e0.1
  have c4 : Steps p.tables e below (s₁.setTop (entryFrame m #[.ref a, .ref b] 2)) (T3.setTop (mkF m 9 #[.val (.ref a), .val (.ref b)] [])) := g3
  exact ⟨T3, none, _, _, _, X3, by simp, rfl, by omega, (fun _ => rfl), e0, fun fs hl => c4.trans (X3.returnOut hexec hret (hb hbytes d9) hl)⟩
theorem pays {l : Launch} {R : Room} {p : Program} {e : Env} {below : List Frame} {s : State} {sargs : Array Value} {len W : Nat} (a : Addr) (D : Cell) (fV fC : Field) (b : Addr) (A : Cell) (z : Int32) (htab : tab.before sargs s = true) (hfr : 4 ≤ R.frames) (hlo : W + 65 ≤ R.locals) :
    Back l R p e below s sargs yN len W (fun A₁ a₁ => A₁.cells + 1 ≤ R.cells ∧ A₁.slots + A.slots.size ≤ R.slots ∧ P a D fV fC b A z a₁ A₁.U) (fun A₁ _ v₁ B₁ => E a D fV fC A v₁ A₁.U B₁.U ∧ B₁.locs = A₁.locs ++ [⟨a, fC.slot⟩, ⟨a, fV.slot⟩] ∧ B₁.cells = A₁.cells + 1 ∧ B₁.slots = A₁.slots + A.slots.size) :=
  (law l a D fV fC b A z).pays htab hfr (by omega)
end New1
/-- the byte, read back as charAt reads it, is the char -/
theorem lo8_mask {x : Int32} (h0 : ¬ x < 0) (h1 : ¬ 255 < x) : lo8 x &&& 255 = x := by
  have t : ∀ k : Fin 256, lo8 (Int32.ofNat k.val) &&& 255 = Int32.ofNat k.val := by decide +kernel
  rw [Int32.lt_iff_toInt_lt] at h0 h1
  have e0 : (0 : Int32).toInt = 0 := rfl
  have e1 : (255 : Int32).toInt = 255 := rfl
  obtain ⟨k, hk⟩ : ∃ k : Nat, x.toInt = k := ⟨x.toInt.toNat, by omega⟩
  have hx : x = Int32.ofNat k := Int32.toInt_inj.mp (by rw [hk, Int32.toInt_ofNat_small (by omega)])
  rw [hx]
  exact t ⟨k, by omega⟩
end StrChars
namespace StrChars.Road
open Jvm Sem ClassFile Op Lib Jvm.Stand Jvm.Free Jvm.Free.XT
open Jvm.Lib.Cold (StaticIs)
abbrev ST : String := "java/lang/String"
/-- every table word that New1's law asks, flat -/
abbrev words : List Jvm.Cond := [.code New1.yN New1.yB 2 none, .initialized ST, .methodLink ST 27 New4.yN, .instanceMethod New4.yN,
  .code New4.yN New4.yB 6 none, .fieldLink ST 38 ST "COMPACT_STRINGS" "Z", .laysFinal ST ST "value" "[B", .fieldLink ST 9 ST "value" "[B", .laysFinal ST ST "coder" "B", .fieldLink ST 15 ST "coder" "B",
  .methodLink ST 1 Lib.objectInit, .instanceMethod Lib.objectInit, .code Lib.objectInit ⟨#[0xb1]⟩ 1 none, .methodLink ST 177 Cmp3.yN, .static Cmp3.yN, .methodLink ST 47 CodL.yN, .static CodL.yN,
  .code Cmp3.yN Cmp3.yB 6 (some (.array .byte)), .initialized U16, .arrayClass .byte, .methodLink U16 115 Cmp5.yN, .static Cmp5.yN, .code Cmp5.yN Cmp5.yB 7 (some .int), .code CodL.yN CodL.yB 2 (some .byte)]
theorem tab_of {a : Array Value} {s : State} (h : ∀ w ∈ words, w.before a s = true) : New1.tab.before a s = true := by
  have h5 : Cmp5.tab.before a s = true := unparts (wk h (.code Cmp5.yN Cmp5.yB 7 (some .int))) (wks h (.initialized Cmp5.yN.cls :: Cmp5.site))
  have hc : CodL.tab.before a s = true := unparts (wk h (.code CodL.yN CodL.yB 2 (some .byte))) (wks h (.initialized CodL.yN.cls :: CodL.site))
  have q5 : ∀ w ∈ Cmp5.tab :: words, w.before a s = true := fun w hw => (List.mem_cons.mp hw).elim (fun e => e ▸ h5) (h w)
  have h3 : Cmp3.tab.before a s = true := unparts (wk q5 (.code Cmp3.yN Cmp3.yB 6 (some (.array .byte)))) (wks q5 (.initialized Cmp3.yN.cls :: Cmp3.site))
  have q3 : ∀ w ∈ Cmp3.tab :: CodL.tab :: words, w.before a s = true := fun w hw => (List.mem_cons.mp hw).elim (fun e => e ▸ h3) fun hw => (List.mem_cons.mp hw).elim (fun e => e ▸ hc) (h w)
  have h4 : New4.tab.before a s = true := unparts (wk q3 (.code New4.yN New4.yB 6 none)) (wks q3 (.initialized New4.yN.cls :: New4.site))
  have q4 : ∀ w ∈ New4.tab :: words, w.before a s = true := fun w hw => (List.mem_cons.mp hw).elim (fun e => e ▸ h4) (h w)
  exact unparts (wk q4 (.code New1.yN New1.yB 2 none)) (wks q4 (.initialized New1.yN.cls :: New1.site))
/-- the words ride from the start Z to the walk's own state -/
theorem moved {Z s : State} {a0 args : Array Value} (hZ : Z.Warmed39 s.vm) (hw : ∀ d ∈ words, d.before a0 Z = true) : ∀ d ∈ words, d.before args s = true := fun d hd => by
  have q := hw d hd
  have t : ∀ d ∈ words, d = .arrayClass .byte ∨ (d.onTables && d.keepsFace) = true := by decide +kernel
  rcases t d hd with rfl | t
  · exact RoadKit.mvA hZ q
  · exact RoadKit.mv hZ q t
/-- WHAT COMES BACK, over the tables of the start Z: h the heap at the call, h' behind it -/
def Q (Z : State) (x : Addr) (A : Cell) (h : Heap) (v : Option Value) (h' : Heap) (L : List Loc) : Prop := v = none ∧ (∀ y ∈ L, y.base = x) ∧ RoadKit.Keep h h' [x] ∧ h'.size = h.size + 1 ∧ RoadKit.Exa Z h' x ST ∧ RoadKit.Fld Z h' x ST "value" "[B" (.ref h.size) ∧ RoadKit.Fld Z h' x ST "coder" "B" (.int 0) ∧
  (∃ V : Cell, RoadKit.Arr Z h' h.size V .byte ∧ V.vm = .none ∧ Z.vm.findClass "[B" = some V.cls ∧ V.slots.size = A.slots.size ∧ ∀ j, j < A.slots.size → V.slots[j]? = some (.int (lo8 (cv A j)))) ∧
  ∀ (O n d : String) (w : Value), RoadKit.Fld Z h x O n d w → RoadKit.slotOf Z O n d ≠ RoadKit.slotOf Z ST "value" "[B" → RoadKit.slotOf Z O n d ≠ RoadKit.slotOf Z ST "coder" "B" → RoadKit.Fld Z h' x O n d w
/-- **new String(chars) AT A CALL, IN THE ROAD'S FORM**: for specialBack behind newO: x the fresh String, b the char[] with the cell A -/
theorem back {p : Program} {l : Launch} {e : Env} {R : Room} {s : State} {args : Array Value} {below : List Frame} {len W : Nat} {Z : State} {a0 : Array Value} {h : Heap} (hZ : Z.Warmed39 s.vm) (hw : ∀ d ∈ words, d.before a0 Z = true) {kI : Nat} (wi : (Jvm.Cond.instantiable ST kI).before a0 Z = true)
    {x b : Addr} {A : Cell} {z : Int32} {v0 c0 : Value} (E : RoadKit.Exa Z h x ST) (V : RoadKit.Fld Z h x ST "value" "[B" v0) (C : RoadKit.Fld Z h x ST "coder" "B" c0) (K : RoadKit.Arr Z h b A .char) (hty : Typed .char A) (S : RoadKit.Sta Z h ST "COMPACT_STRINGS" "Z" (.int z)) (hz : ¬ z = 0)
    (l0 : 0 < A.slots.size) (l2 : A.slots.size ≤ 536870912) (hp : ∀ i, i < A.slots.size → ¬ 255 < cv A i) (hfr : 4 ≤ R.frames) (hlo : W + 65 ≤ R.locals) :
    Back l R p e below s args New1.yN len W (fun P a => a = #[.ref x, .ref b] ∧ P.U.heap = h ∧ P.cells + 1 ≤ R.cells ∧ P.slots + A.slots.size ≤ R.slots)
      (fun P _ v B => ∃ L, Q Z x A h v B.U.heap L ∧ B.locs = P.locs ++ L ∧ B.cells = P.cells + 1 ∧ B.slots = P.slots + A.slots.size) := by
  intro m meth c P g ig mk a X hg hsize hdg hW hn hp'
  obtain ⟨rfl, rfl, r1, r2⟩ := hp'
  have al : Z.vm.Alike P.U.vm := hZ.alike.trans X.warmed.alike
  obtain ⟨D, cfV, kV, iV, fV, hD, gV, stV, knV, obV, asV, slV⟩ := id V
  obtain ⟨D', cfC, kC, iC, fC, hD', gC, stC, -, -, asC, slC⟩ := id C
  cases hD.symm.trans hD'
  obtain ⟨D2, kD, e1, e2, e3, e4, e5⟩ := id E
  cases hD.symm.trans e1
  obtain ⟨c2, k2, i1, i2, i3, -⟩ := Cond.instantiable_spec wi
  cases e2.symm.trans i1
  cases e3.symm.trans i2
  obtain ⟨kU, u1, u2⟩ := al.2.2 _ _ e3
  have hB : Blank ST x D P.U := ⟨hD, ⟨knV, fun q hq => by rw [hq] at obV; cases obV⟩, by rw [al.findClass]; exact e2, kU, u1, by rw [u2]; exact i3, by rw [u2]; exact e5 i3⟩
  have F1 : Found ST "value" "[B" fV P.U := ⟨SBG.found_only al ⟨cfV, kV, iV, gV⟩, stV⟩
  have F2 : Found ST "coder" "B" fC P.U := ⟨SBG.found_only al ⟨cfC, kC, iC, gC⟩, stC⟩
  have hA : Ch b A P.U := ⟨⟨K.1, State.isArrayOf_alike al K.2.1, K.2.2, by omega⟩, hty⟩
  have hS : StaticIs P.U ST "COMPACT_STRINGS" "Z" (.int z) := by
    obtain ⟨cfS, iS, kS, fS, st, cS, t1, t2, t3, t4, t5, t6, t7⟩ := S
    exact StaticIs.there (s := { Z with heap := P.U.heap }) ⟨cfS, iS, kS, fS, st, cS, t1, t2, t3, t4, t5, (fun q => by rw [q] at t6; cases t6), t7⟩ al rfl
  obtain ⟨v, B, X', ⟨⟨hv, E', V', q1, q2, q3, q4, q5, q6, q7, q8, q9, q10, q11⟩, hl, hc, hs⟩, st⟩ := New1.pays x D fV fC b A z (tab_of (moved hZ hw)) hfr hlo m meth c P g ig mk _ X hg hsize hdg hW hn ⟨r1, r2, rfl, hB, F1, F2, hA, hS, hz, l0, l2, hp⟩
  have al' : Z.vm.Alike B.U.vm := hZ.alike.trans X'.warmed.alike
  have hsz : E'.slots.size = D.slots.size := by
    obtain ⟨-, -, -, kB, w1, w2, w3⟩ := q1
    obtain ⟨kB', y1, y2⟩ := al'.2.2 _ _ e3
    rw [q2.2.1] at w1
    cases w1.symm.trans y1
    rw [w3, e5 i3, y2]
  refine ⟨v, B, X', ⟨_, ⟨hv, ?_, ⟨by omega, fun y cy hy hn' => q10 y cy (by simpa using hn') hy, fun y cy hy => ?_⟩, q11, ⟨E', _, q1.1, by rw [q2.2.1]; exact e2, by rw [q2.2.1]; exact e3, by rw [q2.1]; exact obV, fun _ => by rw [hsz]; exact e5 i3⟩,
    ⟨E', cfV, kV, iV, fV, q1.1, gV, stV, by rw [q2.1]; exact knV, by rw [q2.1]; exact obV, by rw [q2.2.1]; exact asV, q3⟩, ⟨E', cfC, kC, iC, fC, q1.1, gC, stC, by rw [q2.1]; exact knV, by rw [q2.1]; exact obV, by rw [q2.2.1]; exact asC, q4⟩,
    ⟨V', ⟨q5.1, State.isArrayOf_alike al'.symm q5.2.1, q5.2.2.1⟩, q6, by rw [← al'.findClass]; exact q7, q8, fun j hj => by have := q9 j hj; rwa [Nat.zero_add] at this⟩, fun O n d w F n1 n2 => ?_⟩, hl, hc, hs⟩, st⟩
  · intro y hy
    simp only [List.mem_cons, List.not_mem_nil, or_false] at hy
    rcases hy with rfl | rfl <;> rfl
  · by_cases q : y = x
    · subst q
      cases hD.symm.trans hy
      exact ⟨E', q1.1, q2.2.1, q2.1, hsz⟩
    · exact ⟨cy, q10 y cy q hy, rfl, rfl, rfl⟩
  · obtain ⟨D3, cf, k, i, f, g1, g2, g3, g4, g5, g6, g7⟩ := F
    cases hD.symm.trans g1
    simp only [RoadKit.slotOf, g2, gV, gC, Option.map_some, Option.getD_some] at n1 n2
    exact ⟨E', cf, k, i, f, q1.1, g2, g3, by rw [q2.1]; exact g4, by rw [q2.1]; exact g5, by rw [q2.2.1]; exact g6, by rw [q2.2.2 f.slot (by simp [n1, n2])]; exact g7⟩
end StrChars.Road
namespace StrChars.Road
open Jvm Sem ClassFile Op Lib Jvm.Stand Jvm.Free Jvm.Free.XT
/-- WHAT COMES BACK, the byte[] as a list of values -/
def QA (Z : State) (x : Addr) (zn : Int32) (cs : List Int32) (h : Heap) (v : Option Value) (h' : Heap) (L : List Loc) : Prop := v = none ∧ (∀ y ∈ L, y.base = x) ∧ RoadKit.Keep h h' [x] ∧ h'.size = h.size + 1 ∧ RoadKit.Exa Z h' x ST ∧ RoadKit.Fld Z h' x ST "value" "[B" (.ref h.size) ∧ RoadKit.Fld Z h' x ST "coder" "B" (.int 0) ∧
  (∃ kb, Z.vm.findClass "[B" = some kb ∧ RoadKit.Arv Z h' h.size kb .byte zn (cs.map fun c => .int (lo8 c)) (.int 0)) ∧
  ∀ (O n d : String) (w : Value), RoadKit.Fld Z h x O n d w → RoadKit.slotOf Z O n d ≠ RoadKit.slotOf Z ST "value" "[B" → RoadKit.slotOf Z O n d ≠ RoadKit.slotOf Z ST "coder" "B" → RoadKit.Fld Z h' x O n d w
/-- **new String(chars) AT A CALL, THE ARRAYS AS LISTS**: the char[] at b holds cs, not empty, no char above 255 -/
theorem backArv {p : Program} {l : Launch} {e : Env} {R : Room} {s : State} {args : Array Value} {below : List Frame} {len W : Nat} {Z : State} {a0 : Array Value} {h : Heap} (hZ : Z.Warmed39 s.vm) (hw : ∀ d ∈ words, d.before a0 Z = true) {kI : Nat} (wi : (Jvm.Cond.instantiable ST kI).before a0 Z = true)
    {x b : Addr} {k : ClassId} {zn z : Int32} {cs : List Int32} {dv v0 c0 : Value} (E : RoadKit.Exa Z h x ST) (V : RoadKit.Fld Z h x ST "value" "[B" v0) (C : RoadKit.Fld Z h x ST "coder" "B" c0) (K : RoadKit.Arv Z h b k .char zn (cs.map Value.int) dv) (S : RoadKit.Sta Z h ST "COMPACT_STRINGS" "Z" (.int z)) (hz : ¬ z = 0)
    (hlen : zn.toNatClampNeg = cs.length) (h0 : 0 < cs.length) (hbig : cs.length ≤ 536870912) (hall : ∀ c ∈ cs, ¬ 255 < c) (hfr : 4 ≤ R.frames) (hlo : W + 65 ≤ R.locals) :
    Back l R p e below s args New1.yN len W (fun P a => a = #[.ref x, .ref b] ∧ P.U.heap = h ∧ P.cells + 1 ≤ R.cells ∧ P.slots + cs.length ≤ R.slots)
      (fun P _ v B => ∃ L, QA Z x zn cs h v B.U.heap L ∧ B.locs = P.locs ++ L ∧ B.cells = P.cells + 1 ∧ B.slots = P.slots + cs.length) := by
  obtain ⟨A, K1, K2, K3, K4, K5, K6⟩ := K
  have e : A.slots.size = cs.length := K3.trans hlen
  have hat : ∀ (i : Nat) (hi : i < cs.length), A.slots[i]? = some (.int cs[i]) := fun i hi => by rw [K5 i (by omega)]; simp [List.getD_eq_getElem?_getD, hi]
  have hcv : ∀ (i : Nat) (hi : i < cs.length), cv A i = cs[i] := fun i hi => by unfold cv; rw [hat i hi]
  have hty : Typed .char A := fun i v hv => by
    have hi : i < A.slots.size := (Array.getElem?_eq_some_iff.mp hv).1
    have q := K5 i hi
    rw [hv] at q
    rw [Option.some.inj q]
    exact K6 i hi
  refine Back.mono (back hZ hw wi E V C K1 hty S hz (by omega) (by omega) (fun i hi => by rw [hcv i (by omega)]; exact hall _ (List.getElem_mem _)) hfr hlo) (fun P a hp => ⟨hp.1, hp.2.1, hp.2.2.1, by rw [e]; exact hp.2.2.2⟩) (fun P a v B hp hq => ?_)
  obtain ⟨L, ⟨q1, q2, q3, q4, q5, q6, q7, ⟨V', v1, v2, v3, v4, v5⟩, q9⟩, hl, hc, hs⟩ := hq
  refine ⟨L, ⟨q1, q2, q3, q4, q5, q6, q7, ⟨V'.cls, v3, V', v1, rfl, by rw [v4, e, hlen], K4, fun i hi => ?_, fun i hi => ?_⟩, q9⟩, hl, hc, by rw [hs, e]⟩
  · have hi' : i < cs.length := by omega
    rw [v5 i (by omega), hcv i hi']; simp [List.getD_eq_getElem?_getD, hi']
  · have hi' : i < cs.length := by omega
    simp only [List.getD_eq_getElem?_getD, List.getElem?_map, List.getElem?_eq_getElem hi', Option.map_some, Option.getD_some]
    exact fits_lo8 _
end StrChars.Road
namespace StrChars.Road
open Jvm Sem ClassFile Op Lib Jvm.Stand Jvm.Free Jvm.Free.XT
/-- WHAT COMES BACK, in the writer's own shape -/
def QV (Z : State) (x : Addr) (N : Int32) (bs : List Int32) (h : Heap) (n0 : Nat) (v : Option Value) (h' : Heap) (L : List Loc) : Prop := v = none ∧ RoadKit.Fr n0 L ∧ RoadKit.Keep h h' [x] ∧ RoadKit.Exa Z h' x ST ∧ RoadKit.Fld Z h' x ST "coder" "B" (.int 0) ∧
  ∃ (t : Addr) (kb : ClassId), n0 ≤ t ∧ h.size ≤ t ∧ ¬ t = x ∧ RoadKit.Fld Z h' x ST "value" "[B" (.ref t) ∧ RoadKit.Arv Z h' t kb .byte N (bs.map Value.int) (.int 0)
/-- **new String(chars) AT A CALL, FOR THE WRITER**: a char[] of n known ints, each 0 to 255 -/
theorem backV {p : Program} {l : Launch} {e : Env} {R : Room} {s : State} {args : Array Value} {below : List Frame} {len W : Nat} {Z : State} {a0 : Array Value} {h : Heap} (hZ : Z.Warmed39 s.vm) (hw : ∀ d ∈ words, d.before a0 Z = true) {kI : Nat} (wi : (Jvm.Cond.instantiable ST kI).before a0 Z = true)
    {x b : Addr} {kC : ClassId} {cs bs : List Int32} {d v0 c0 : Value} {z N : Int32} {n n0 : Nat} (hx0 : n0 ≤ x) (hh0 : n0 ≤ h.size) (E : RoadKit.Exa Z h x ST) (V : RoadKit.Fld Z h x ST "value" "[B" v0) (C : RoadKit.Fld Z h x ST "coder" "B" c0) (K : RoadKit.Arv Z h b kC .char N (cs.map Value.int) d) (S : RoadKit.Sta Z h ST "COMPACT_STRINGS" "Z" (.int z)) (hz : ¬ z = 0)
    (hn : cs.length = n) (hN : N = Int32.ofNat n) (l0 : 0 < n) (l2 : n ≤ 4000) (hp : ∀ c ∈ cs, ¬ c < 0 ∧ ¬ (255 : Int32) < c) (hb : bs = cs.map (fun c => c.toInt8.toInt32)) (hfr : 4 ≤ R.frames) (hlo : W + 65 ≤ R.locals) :
    Back l R p e below s args (⟨"java/lang/String", "<init>", "([C)V"⟩ : MethodName) len W (fun P a => a = #[.ref x, .ref b] ∧ P.U.heap = h ∧ P.cells + 1 ≤ R.cells ∧ P.slots + n ≤ R.slots)
      (fun P _ v B => ∃ L, QV Z x N bs h n0 v B.U.heap L ∧ B.locs = P.locs ++ L ∧ B.cells = P.cells + 1 ∧ B.slots = P.slots + n) := by
  subst hn hN hb
  refine Back.mono (backArv hZ hw wi E V C K S hz (n32 (by omega)) l0 (by omega) (fun c hc => (hp c hc).2) hfr hlo) (fun P a hp => hp) (fun P a v B hp hq => ?_)
  obtain ⟨L, ⟨q1, q2, q3, q4, q5, q6, q7, ⟨kb, v1, v2⟩, q9⟩, hl, hc, hs⟩ := hq
  exact ⟨L, ⟨q1, fun y hy => by rw [q2 y hy]; exact hx0, q3, q5, q7, h.size, kb, hh0, Nat.le_refl _, Nat.ne_of_gt E.lt, q6, by rw [List.map_map]; exact v2⟩, hl, hc, hs⟩
end StrChars.Road
namespace StrChars
open Jvm Sem ClassFile Op Lib Jvm.Stand Jvm.Free.XT Jvm.Free.ALB Jvm.Free.JM Jvm.Free
open Jvm.Lib.Cold (StaticIs)
def hi8 (x : Int32) : Int32 := lo8 (x >>> ((8 : Int32) &&& 31))
/-- what StringUTF16.getChar makes of two bytes -/
def pairCh (u v : Int32) : Int32 := (((u &&& 255) <<< ((0 : Int32) &&& 31)) ||| ((v &&& 255) <<< ((8 : Int32) &&& 31))).toUInt32.toUInt16.toUInt32.toInt32
theorem shr0 (c : Int32) : c >>> ((0 : Int32) &&& 31) = c := by
  have e : ((0 : Int32) &&& 31) = 0 := by decide
  rw [e]
  apply Int32.toBitVec_inj.mp
  rw [Int32.toBitVec_shiftRight]
  have e1 : ((0 : Int32).toBitVec.smod 32) = 0#32 := by decide
  rw [e1, BitVec.sshiftRight_eq']
  exact BitVec.sshiftRight_zero
theorem lo8_and (x : Int32) : (lo8 x &&& 255).toBitVec.toNat = x.toBitVec.toNat % 256 := by
  have h : (lo8 x).toBitVec = (x.toBitVec.signExtend 8).signExtend 32 := by rw [lo8, Int8.toBitVec_toInt32, Int32.toBitVec_toInt8]
  rw [Int32.toBitVec_and, BitVec.toNat_and, h]
  have e : ((x.toBitVec.signExtend 8).signExtend 32).toNat % 256 = x.toBitVec.toNat % 256 := by
    rw [BitVec.toNat_signExtend]
    have hlt := x.toBitVec.isLt
    simp only [BitVec.toNat_setWidth, BitVec.toNat_signExtend]
    split <;> split <;> omega
  rw [← e]
  exact Nat.and_two_pow_sub_one_eq_mod _ 8
theorem pair_says {c : Int32} (h0 : ¬ c < 0) (h1 : ¬ 65535 < c) : pairCh (lo8 c) (hi8 c) = c := by
  rw [Int32.lt_iff_toInt_lt] at h0 h1
  have e0 : (0 : Int32).toInt = 0 := rfl
  have e1 : (65535 : Int32).toInt = 65535 := rfl
  have hc : c.toInt = c.toBitVec.toNat := by
    have := c.toBitVec.isLt
    have e : c.toInt = c.toBitVec.toInt := rfl
    rw [e] at h0 h1
    rw [e]
    rw [BitVec.toInt_eq_toNat_cond] at h0 h1 ⊢
    split at h0 <;> split <;> omega
  have hn : c.toBitVec.toNat < 65536 := by omega
  have a1 := lo8_and c
  have a2 : (hi8 c &&& 255).toBitVec.toNat = c.toBitVec.toNat / 256 := by
    rw [hi8, lo8_and]
    have e : ((8 : Int32) &&& 31) = 8 := by decide
    rw [e, Int32.toBitVec_shiftRight]
    have e2 : ((8 : Int32).toBitVec.smod 32) = 8#32 := by decide
    rw [e2, BitVec.sshiftRight_eq', BitVec.toNat_sshiftRight_of_msb_false (by rw [BitVec.msb_eq_false_iff_two_mul_lt]; omega)]
    show c.toBitVec.toNat >>> 8 % 256 = _
    rw [Nat.shiftRight_eq_div_pow]
    omega
  unfold pairCh
  apply Int32.toBitVec_inj.mp
  apply BitVec.eq_of_toNat_eq
  have f0 : ((0 : Int32) &&& 31) = 0 := by decide
  have f8 : ((8 : Int32) &&& 31) = 8 := by decide
  rw [f0, f8]
  have g : (((lo8 c &&& 255) <<< (0 : Int32)) ||| ((hi8 c &&& 255) <<< (8 : Int32))).toBitVec.toNat = c.toBitVec.toNat := by
    rw [Int32.toBitVec_or, Int32.toBitVec_shiftLeft, Int32.toBitVec_shiftLeft]
    have s0 : ((0 : Int32).toBitVec.smod 32) = 0#32 := by decide
    have s8 : ((8 : Int32).toBitVec.smod 32) = 8#32 := by decide
    rw [s0, s8, BitVec.toNat_or]
    simp only [BitVec.shiftLeft_eq', BitVec.toNat_shiftLeft, a1, a2]
    show (c.toBitVec.toNat % 256) <<< 0 % 2 ^ 32 ||| (c.toBitVec.toNat / 256) <<< 8 % 2 ^ 32 = _
    rw [Nat.shiftLeft_zero, Nat.mod_eq_of_lt (show c.toBitVec.toNat % 256 < 2 ^ 32 by omega), Nat.mod_eq_of_lt (show (c.toBitVec.toNat / 256) <<< 8 < 2 ^ 32 by rw [Nat.shiftLeft_eq]; omega), Nat.or_comm, ← Nat.shiftLeft_add_eq_or_of_lt (by omega), Nat.shiftLeft_eq]
    omega
  show BitVec.toNat (((((lo8 c &&& 255) <<< (0 : Int32)) ||| ((hi8 c &&& 255) <<< (8 : Int32))).toBitVec.setWidth 16).setWidth 32) = _
  rw [BitVec.toNat_setWidth, BitVec.toNat_setWidth, g]
  omega
end StrChars
namespace StrChars
open Jvm Sem ClassFile Op Lib Jvm.Stand Jvm.Free.XT Jvm.Free.ALB Jvm.Free.JM Jvm.Free
open Jvm.Lib.Cold (StaticIs)
theorem shr1 {n : Nat} (h : 2 * n < 2 ^ 31) : Int32.ofNat (2 * n) >>> ((1 : Int32) &&& 31) = Int32.ofNat n := by
  have e : ((1 : Int32) &&& 31) = 1 := by decide
  rw [e]
  apply Int32.toBitVec_inj.mp
  rw [Int32.toBitVec_shiftRight]
  have e1 : ((1 : Int32).toBitVec.smod 32) = 1#32 := by decide
  have hm : (BitVec.ofNat 32 (2 * n)).toNat = 2 * n := by rw [BitVec.toNat_ofNat, Nat.mod_eq_of_lt (by omega)]
  rw [e1, BitVec.sshiftRight_eq']
  apply BitVec.eq_of_toNat_eq
  show ((BitVec.ofNat 32 (2 * n)).sshiftRight 1).toNat = (BitVec.ofNat 32 n).toNat
  rw [BitVec.toNat_sshiftRight_of_msb_false (by rw [BitVec.msb_eq_false_iff_two_mul_lt, hm]; omega), hm, BitVec.toNat_ofNat, Nat.shiftRight_eq_div_pow]
  omega
/-- charAt's cast of a byte read back -/
def chr8 (u : Int32) : Int32 := (u &&& 255).toUInt32.toUInt16.toUInt32.toInt32
theorem chr8_lo8 {c : Int32} (h0 : ¬ c < 0) (h1 : ¬ 255 < c) : chr8 (lo8 c) = c := by
  have t : ∀ k : Fin 256, (Int32.ofNat k.val).toUInt32.toUInt16.toUInt32.toInt32 = Int32.ofNat k.val := by decide +kernel
  unfold chr8
  rw [lo8_mask h0 h1]
  rw [Int32.lt_iff_toInt_lt] at h0 h1
  have e0 : (0 : Int32).toInt = 0 := rfl
  have e1 : (255 : Int32).toInt = 255 := rfl
  obtain ⟨k, hk⟩ : ∃ k : Nat, c.toInt = k := ⟨c.toInt.toNat, by omega⟩
  have hx : c = Int32.ofNat k := Int32.toInt_inj.mp (by rw [hk, Int32.toInt_ofNat_small (by omega)])
  rw [hx]
  exact t ⟨k, by omega⟩
theorem narrow_ch {c : Int32} (h0 : ¬ c < 0) (h1 : ¬ 65535 < c) : narrow .char (.int c) = .int c := by
  have q : narrow .char (.int (pairCh (lo8 c) (hi8 c))) = .int (pairCh (lo8 c) (hi8 c)) := narrow_c _
  rwa [pair_says h0 h1] at q
/-- the array's cell V codes the n chars f 0 .. f (n - 1) by the coder cd, as the JDK does: coder 1 just where some char is above 255 -/
def Cod (cd : Int32) (n : Nat) (f : Nat → Int32) (V : Cell) : Prop := (cd = 0 ∧ V.slots.size = n ∧ ∀ j, j < n → V.slots[j]? = some (.int (lo8 (f j))) ∧ ¬ 255 < f j) ∨ (cd = 1 ∧ V.slots.size = 2 * n ∧ (∀ j, j < n → V.slots[2 * j]? = some (.int (lo8 (f j))) ∧ V.slots[2 * j + 1]? = some (.int (hi8 (f j)))) ∧ ∃ j, j < n ∧ 255 < f j)
theorem Cod.cd {cd : Int32} {n : Nat} {f : Nat → Int32} {V : Cell} (h : Cod cd n f V) : cd = 0 ∨ cd = 1 := h.imp (fun q => q.1) fun q => q.1
theorem Cod.len {cd : Int32} {n : Nat} {f : Nat → Int32} {V : Cell} (h : Cod cd n f V) (hs : V.slots.size < 2 ^ 31) : Int32.ofNat V.slots.size >>> (cd &&& 31) = Int32.ofNat n := by
  rcases h with ⟨rfl, h, -⟩ | ⟨rfl, h, -⟩
  · rw [shr0, h]
  · rw [h, shr1 (by omega)]
/-- **x is a String of the n chars f 0 .. f (n - 1)**, Latin-1 or UTF-16; its array at t has the cell V -/
def Txt (x t : Addr) (V : Cell) (cd : Int32) (n : Nat) (f : Nat → Int32) (U : State) : Prop := Exact "java/lang/String" x U ∧ Has x "java/lang/String" "value" "[B" (.ref t) U ∧ Has x "java/lang/String" "coder" "B" (.int cd) U ∧ XT.Arr .byte t V U ∧ Cod cd n f V ∧ ∀ j, j < n → ¬ f j < 0 ∧ ¬ 65535 < f j
theorem Txt.mv {x t : Addr} {V : Cell} {cd : Int32} {n : Nat} {f : Nat → Int32} {U U' : State} (h : Txt x t V cd n f U) (hal : U.vm.Alike U'.vm) (hh : U'.heap = U.heap) : Txt x t V cd n f U' := ⟨h.1.mv hal hh, h.2.1.mv hal hh, h.2.2.1.mv hal hh, h.2.2.2.1.mv hal hh, h.2.2.2.2⟩
namespace Cdr
def yN : MethodName := ⟨"java/lang/String", "coder", "()B"⟩
abbrev yB : ByteArray := jdk_42_method_152_code
theorem d0 : decode yB 0 = .ok (.getstatic 38, 3) := by decide +kernel
theorem d3 : decode yB 3 = .ok (.ifCond (.eq) 10, 3) := by decide +kernel
theorem d6 : decode yB 6 = .ok (.aload_n 0, 1) := by decide +kernel
theorem d7 : decode yB 7 = .ok (.getfield 15, 3) := by decide +kernel
theorem d10 : decode yB 10 = .ok (.goto 4, 3) := by decide +kernel
theorem d14 : decode yB 14 = .ok (.ireturn, 1) := by decide +kernel
def site : List Cond := [.fieldLink "java/lang/String" 38 "java/lang/String" "COMPACT_STRINGS" "Z", .fieldLink "java/lang/String" 15 "java/lang/String" "coder" "B"]
def tab : Cond := tabOf yN yB 1 (some .byte) site
def P (x : Addr) (cd z : Int32) (args : Array Value) (s : State) : Prop := args = #[.ref x] ∧ Has x "java/lang/String" "coder" "B" (.int cd) s ∧ (cd = 0 ∨ cd = 1) ∧ StaticIs s "java/lang/String" "COMPACT_STRINGS" "Z" (.int z) ∧ ¬ z = 0
def E (cd : Int32) (r : Option Value) (s u : State) : Prop := XT.PureE (some (.int cd)) r s u
theorem law (l : Launch) (x : Addr) (cd z : Int32) : Law l yN 1 0 0 0 yB 1 (some .byte) site (P x cd z) (E cd) [] 0 0 := by
  refine Law.of_walk (plainFor_of_name (by decide +kernel)) (by decide +kernel) (by decide +kernel) (by decide) (fun _ _ h => by rw [h.1]; rfl) (fun _ U U' hal hh h => ⟨h.1, h.2.1.mv hal hh, h.2.2.1, h.2.2.2.1.there hal hh, h.2.2.2.2⟩) (fun r U U' V V' h1 hal h2 h => XT.PureE.mv r U U' V V' h1 hal h2 h) ?_
  intro p e s m args below meth c s₁ X0 hexec hbytes hml hret hlk hnm hown hh0 W hP
  obtain ⟨rfl, hx, hc, s1, hz⟩ := hP
  have c1 : Steps p.tables e below (s₁.setTop (entryFrame m #[.ref x] 1)) (s₁.setTop (mkF m 0 #[.val (.ref x)] [])) := entry rfl
  obtain ⟨T2, X2, q2, st2⟩ := X0.sget hexec hown (wk W (.fieldLink "java/lang/String" 38 "java/lang/String" "COMPACT_STRINGS" "Z")) s1 (fun _ _ h => by rw [hh0]; exact h) (g := (mkF m 0 #[.val (.ref x)] [])) rfl (hb hbytes d0)
  have hh2 := q2.trans hh0
  have c3 : Steps p.tables e below (s₁.setTop (entryFrame m #[.ref x] 1)) (T2.setTop (mkF m 7 #[.val (.ref x)] [.ref x])) := (c1.trans (st2 _ (Steps.refl _))).trans (by
    refine XS.ifNo X2.here hexec rfl (hb hbytes d3) rfl (i0_eq_f hz) ?_
    refine XS.aloadN X2.here hexec rfl (hb hbytes d6) rfl rfl ?_
    exact Steps.refl _)
  obtain ⟨T4, X4, q4, st4⟩ := X2.hget hexec hown (wk W (.fieldLink "java/lang/String" 15 "java/lang/String" "coder" "B")) (hx.mv X2.warmed.alike hh2) (g := (mkF m 7 #[.val (.ref x)] [.ref x])) rfl (rest := []) rfl (hb hbytes d7)
  have c5 : Steps p.tables e below (s₁.setTop (entryFrame m #[.ref x] 1)) (T4.setTop (mkF m 14 #[.val (.ref x)] [.int cd])) := (c3.trans (st4 _ (Steps.refl _))).trans (by
    refine XS.goto X4.here hexec rfl (pc0 := 10) rfl (hb hbytes d10) (by decide) rfl ?_
    exact Steps.refl _)
  exact ⟨T4, some (.int cd), _, _, _, X4, rfl, rfl, rfl, (fun h => by cases h), ⟨rfl, q4.trans hh2⟩, fun fs hl => c5.trans (X4.ireturnOut hexec hret (by rcases hc with rfl | rfl <;> rfl) (Or.inr (Or.inr (Or.inl rfl))) (hb hbytes d14) hl)⟩
end Cdr
namespace Len
def yN : MethodName := ⟨"java/lang/String", "length", "()I"⟩
abbrev yB : ByteArray := jdk_42_method_54_code
theorem d0 : decode yB 0 = .ok (.aload_n 0, 1) := by decide +kernel
theorem d1 : decode yB 1 = .ok (.getfield 9, 3) := by decide +kernel
theorem d4 : decode yB 4 = .ok (.arraylength, 1) := by decide +kernel
theorem d5 : decode yB 5 = .ok (.aload_n 0, 1) := by decide +kernel
theorem d6 : decode yB 6 = .ok (.invokevirtual 335, 3) := by decide +kernel
theorem d9 : decode yB 9 = .ok (.ishr, 1) := by decide +kernel
theorem d10 : decode yB 10 = .ok (.ireturn, 1) := by decide +kernel
def site : List Cond := [.fieldLink "java/lang/String" 9 "java/lang/String" "value" "[B", Cdr.tab] ++ virtW "java/lang/String" 335 "java/lang/String" Cdr.yN Cdr.yN
def tab : Cond := tabOf yN yB 1 (some .int) site
def P (x t : Addr) (V : Cell) (cd : Int32) (n : Nat) (f : Nat → Int32) (z : Int32) (args : Array Value) (s : State) : Prop := args = #[.ref x] ∧ Txt x t V cd n f s ∧ StaticIs s "java/lang/String" "COMPACT_STRINGS" "Z" (.int z) ∧ ¬ z = 0
def E (n : Nat) (r : Option Value) (s u : State) : Prop := XT.PureE (some (.int (Int32.ofNat n))) r s u
/-- length() of a String of n chars, in either coding -/
theorem law (l : Launch) (x t : Addr) (V : Cell) (cd : Int32) (n : Nat) (f : Nat → Int32) (z : Int32) : Law l yN 1 0 1 13 yB 1 (some .int) site (P x t V cd n f z) (E n) [] 0 0 := by
  refine Law.of_walk (plainFor_of_name (by decide +kernel)) (by decide +kernel) (by decide +kernel) (by decide) (fun _ _ h => by rw [h.1]; rfl) (fun _ U U' hal hh h => ⟨h.1, h.2.1.mv hal hh, h.2.2.1.there hal hh, h.2.2.2⟩) (fun r U U' V V' h1 hal h2 h => XT.PureE.mv r U U' V V' h1 hal h2 h) ?_
  intro p e s m args below meth c s₁ X0 hexec hbytes hml hret hlk hnm hown hh0 W hP
  obtain ⟨rfl, hx, s1, hz⟩ := hP
  have v31 := hx.2.2.2.1.2.2.2
  have c1 : Steps p.tables e below (s₁.setTop (entryFrame m #[.ref x] 1)) (s₁.setTop (mkF m 1 #[.val (.ref x)] [.ref x])) := Steps.trans (entry rfl) (by
    show Steps p.tables e below (s₁.setTop (mkF m 0 #[.val (.ref x)] [])) _
    refine XS.aloadN X0.here hexec rfl (hb hbytes d0) rfl rfl ?_
    exact Steps.refl _)
  obtain ⟨T2, X2, q2, st2⟩ := X0.hget hexec hown (wk W (.fieldLink "java/lang/String" 9 "java/lang/String" "value" "[B")) (hx.mv X0.warmed.alike hh0).2.1 (g := (mkF m 1 #[.val (.ref x)] [.ref x])) rfl (rest := []) rfl (hb hbytes d1)
  have hh2 := q2.trans hh0
  have hx2 := hx.mv X2.warmed.alike hh2
  have c3 : Steps p.tables e below (s₁.setTop (entryFrame m #[.ref x] 1)) (T2.setTop (mkF m 6 #[.val (.ref x)] [.ref x, .int (Int32.ofNat V.slots.size)])) := (c1.trans (st2 _ (Steps.refl _))).trans (by
    refine X2.alen hexec hx2.2.2.2.1 rfl rfl (hb hbytes d4) ?_
    refine XS.aloadN X2.here hexec rfl (hb hbytes d5) rfl rfl ?_
    exact Steps.refl _)
  obtain ⟨v4, T4, X4, E4, g4⟩ := X2.callV hexec (Cdr.law l x cd z) hown (wks W (virtW "java/lang/String" 335 "java/lang/String" Cdr.yN Cdr.yN)) rfl (by decide) (wk W Cdr.tab) (W := 1) (Nat.le_of_ble_eq_true rfl) (Nat.le_of_ble_eq_true rfl) (Nat.le_refl _) (Nat.le_refl _) (hx2.1.fc X2.warmed.alike) hx2.1.is (g := (mkF m 6 #[.val (.ref x)] [.ref x, .int (Int32.ofNat V.slots.size)])) rfl (by rw [hml]; rfl) c3 (argsL := []) (rest := [.int (Int32.ofNat V.slots.size)]) rfl rfl (by show 2 * 0 + (1 + 0) ≤ _; decide) (hb hbytes d6) (⟨rfl, hx2.2.2.1, hx.2.2.2.2.1.cd, s1.there X2.warmed.alike hh2, hz⟩)
  obtain ⟨rfl, q4⟩ := E4
  have c5 : Steps p.tables e below (s₁.setTop (entryFrame m #[.ref x] 1)) (T4.setTop (mkF m 10 #[.val (.ref x)] [.int (Int32.ofNat V.slots.size >>> (cd &&& 31))])) := Steps.trans g4 (by
    refine ishr X4.here hexec rfl (hb hbytes d9) rfl ?_
    exact Steps.refl _)
  rw [hx.2.2.2.2.1.len v31] at c5
  exact ⟨T4, some (.int (Int32.ofNat n)), _, _, _, X4, rfl, rfl, rfl, (fun h => by cases h), ⟨rfl, q4.trans hh2⟩, fun fs hl => c5.trans (X4.ireturnOut hexec hret rfl (Or.inl rfl) (hb hbytes d10) hl)⟩
theorem pays {l : Launch} {R : Room} {p : Program} {e : Env} {below : List Frame} {s : State} {sargs : Array Value} {len W : Nat} (x t : Addr) (V : Cell) (cd : Int32) (n : Nat) (f : Nat → Int32) (z : Int32) (htab : tab.before sargs s = true) (hfr : 2 ≤ R.frames) (hlo : W + 25 ≤ R.locals) :
    Back l R p e below s sargs yN len W (fun A₁ a₁ => A₁.cells + 0 ≤ R.cells ∧ A₁.slots + 0 ≤ R.slots ∧ P x t V cd n f z a₁ A₁.U) (fun A₁ _ v₁ B₁ => E n v₁ A₁.U B₁.U ∧ B₁.locs = A₁.locs ++ [] ∧ B₁.cells = A₁.cells + 0 ∧ B₁.slots = A₁.slots + 0) :=
  (law l x t V cd n f z).pays htab hfr (by omega)
end Len
namespace IsL
def yN : MethodName := ⟨"java/lang/String", "isLatin1", "()Z"⟩
abbrev yB : ByteArray := jdk_42_method_154_code
theorem d0 : decode yB 0 = .ok (.getstatic 38, 3) := by decide +kernel
theorem d3 : decode yB 3 = .ok (.ifCond (.eq) 14, 3) := by decide +kernel
theorem d6 : decode yB 6 = .ok (.aload_n 0, 1) := by decide +kernel
theorem d7 : decode yB 7 = .ok (.getfield 15, 3) := by decide +kernel
theorem d10 : decode yB 10 = .ok (.ifCond (.ne) 7, 3) := by decide +kernel
theorem d13 : decode yB 13 = .ok (.iconst 1, 1) := by decide +kernel
theorem d14 : decode yB 14 = .ok (.goto 4, 3) := by decide +kernel
theorem d17 : decode yB 17 = .ok (.iconst 0, 1) := by decide +kernel
theorem d18 : decode yB 18 = .ok (.ireturn, 1) := by decide +kernel
def site : List Cond := [.fieldLink "java/lang/String" 38 "java/lang/String" "COMPACT_STRINGS" "Z", .fieldLink "java/lang/String" 15 "java/lang/String" "coder" "B"]
def tab : Cond := tabOf yN yB 1 (some .boolean) site
def P (x : Addr) (cd z : Int32) (args : Array Value) (s : State) : Prop := args = #[.ref x] ∧ Has x "java/lang/String" "coder" "B" (.int cd) s ∧ (cd = 0 ∨ cd = 1) ∧ StaticIs s "java/lang/String" "COMPACT_STRINGS" "Z" (.int z) ∧ ¬ z = 0
def E (cd : Int32) (r : Option Value) (s u : State) : Prop := XT.PureE (some (.int (1 - cd))) r s u
theorem law (l : Launch) (x : Addr) (cd z : Int32) : Law l yN 1 0 0 0 yB 1 (some .boolean) site (P x cd z) (E cd) [] 0 0 := by
  refine Law.of_walk (plainFor_of_name (by decide +kernel)) (by decide +kernel) (by decide +kernel) (by decide) (fun _ _ h => by rw [h.1]; rfl) (fun _ U U' hal hh h => ⟨h.1, h.2.1.mv hal hh, h.2.2.1, h.2.2.2.1.there hal hh, h.2.2.2.2⟩) (fun r U U' V V' h1 hal h2 h => XT.PureE.mv r U U' V V' h1 hal h2 h) ?_
  intro p e s m args below meth c s₁ X0 hexec hbytes hml hret hlk hnm hown hh0 W hP
  obtain ⟨rfl, hx, hc, s1, hz⟩ := hP
  have c1 : Steps p.tables e below (s₁.setTop (entryFrame m #[.ref x] 1)) (s₁.setTop (mkF m 0 #[.val (.ref x)] [])) := entry rfl
  obtain ⟨T2, X2, q2, st2⟩ := X0.sget hexec hown (wk W (.fieldLink "java/lang/String" 38 "java/lang/String" "COMPACT_STRINGS" "Z")) s1 (fun _ _ h => by rw [hh0]; exact h) (g := (mkF m 0 #[.val (.ref x)] [])) rfl (hb hbytes d0)
  have hh2 := q2.trans hh0
  have c3 : Steps p.tables e below (s₁.setTop (entryFrame m #[.ref x] 1)) (T2.setTop (mkF m 7 #[.val (.ref x)] [.ref x])) := (c1.trans (st2 _ (Steps.refl _))).trans (by
    refine XS.ifNo X2.here hexec rfl (hb hbytes d3) rfl (i0_eq_f hz) ?_
    refine XS.aloadN X2.here hexec rfl (hb hbytes d6) rfl rfl ?_
    exact Steps.refl _)
  obtain ⟨T4, X4, q4, st4⟩ := X2.hget hexec hown (wk W (.fieldLink "java/lang/String" 15 "java/lang/String" "coder" "B")) (hx.mv X2.warmed.alike hh2) (g := (mkF m 7 #[.val (.ref x)] [.ref x])) rfl (rest := []) rfl (hb hbytes d7)
  have c5 : Steps p.tables e below (s₁.setTop (entryFrame m #[.ref x] 1)) (T4.setTop (mkF m 10 #[.val (.ref x)] [.int cd])) := c3.trans (st4 _ (Steps.refl _))
  have c6 : Steps p.tables e below (s₁.setTop (entryFrame m #[.ref x] 1)) (T4.setTop (mkF m 18 #[.val (.ref x)] [.int (1 - cd)])) := by
    rcases hc with rfl | rfl
    · exact c5.trans (by
        refine XS.ifNo X4.here hexec rfl (hb hbytes d10) rfl (i0_ne_f rfl) ?_
        refine iconstV X4.here hexec rfl 1 (hb hbytes d13) (by decide) ?_
        refine XS.goto X4.here hexec rfl (pc0 := 14) rfl (hb hbytes d14) (by decide) rfl ?_
        exact Steps.refl _)
    · exact c5.trans (by
        refine XS.ifYes X4.here hexec rfl (pc0 := 10) rfl (hb hbytes d10) rfl (i0_ne_t (by decide)) (by decide) rfl ?_
        refine iconstV X4.here hexec rfl 0 (hb hbytes d17) (by decide) ?_
        exact Steps.refl _)
  exact ⟨T4, some (.int (1 - cd)), _, _, _, X4, rfl, rfl, rfl, (fun h => by cases h), ⟨rfl, q4.trans hh2⟩, fun fs hl => c6.trans (X4.ireturnOut hexec hret (by rcases hc with rfl | rfl <;> rfl) (Or.inr (Or.inl rfl)) (hb hbytes d18) hl)⟩
end IsL
namespace LChA
def yN : MethodName := ⟨"java/lang/StringLatin1", "charAt", "([BI)C"⟩
abbrev yB : ByteArray := jdk_43_method_2_code
theorem d0 : decode yB 0 = .ok (.iload_n 1, 1) := by decide +kernel
theorem d1 : decode yB 1 = .ok (.aload_n 0, 1) := by decide +kernel
theorem d2 : decode yB 2 = .ok (.arraylength, 1) := by decide +kernel
theorem d3 : decode yB 3 = .ok (.invokestatic 9, 3) := by decide +kernel
theorem d6 : decode yB 6 = .ok (.aload_n 0, 1) := by decide +kernel
theorem d7 : decode yB 7 = .ok (.iload_n 1, 1) := by decide +kernel
theorem d8 : decode yB 8 = .ok (.baload, 1) := by decide +kernel
theorem d9 : decode yB 9 = .ok (.sipush 255, 3) := by decide +kernel
theorem d12 : decode yB 12 = .ok (.iand, 1) := by decide +kernel
theorem d13 : decode yB 13 = .ok (.i2c, 1) := by decide +kernel
theorem d14 : decode yB 14 = .ok (.ireturn, 1) := by decide +kernel
def site : List Cond := [JO.Str_checkIndex.tab] ++ staticW "java/lang/StringLatin1" 9 JO.Str_checkIndex.yN
def tab : Cond := tabOf yN yB 2 (some .char) site
def P (t : Addr) (V : Cell) (i : Nat) (u : Int32) (fm : Value) (args : Array Value) (s : State) : Prop := args = #[.ref t, .int (Int32.ofNat i)] ∧ XT.Arr .byte t V s ∧ V.slots[i]? = some (.int u) ∧ (StaticIs s "jdk/internal/util/Preconditions" "SIOOBE_FORMATTER" "Ljava/util/function/BiFunction;" fm ∧ fm.isRef = true)
def E (u : Int32) (r : Option Value) (s w : State) : Prop := XT.PureE (some (.int (chr8 u))) r s w
theorem law (l : Launch) (t : Addr) (V : Cell) (i : Nat) (u : Int32) (fm : Value) : Law l yN 2 2 2 27 yB 2 (some .char) site (P t V i u fm) (E u) [] 0 0 := by
  refine Law.of_walk (plainFor_of_name (by decide +kernel)) (by decide +kernel) (by decide +kernel) (by decide) (fun _ _ h => by rw [h.1]; rfl) (fun _ U U' hal hh h => ⟨h.1, h.2.1.mv hal hh, h.2.2.1, h.2.2.2.1.there hal hh, h.2.2.2.2⟩) (fun r U U' V V' h1 hal h2 h => XT.PureE.mv r U U' V V' h1 hal h2 h) ?_
  intro p e s m args below meth c s₁ X0 hexec hbytes hml hret hlk hnm hown hh0 W hP
  obtain ⟨rfl, hV, hu, s1, rf⟩ := hP
  have v31 := hV.2.2.2
  have hi : i < V.slots.size := (Array.getElem?_eq_some_iff.mp hu).1
  have c1 : Steps p.tables e below (s₁.setTop (entryFrame m #[.ref t, .int (Int32.ofNat i)] 2)) (s₁.setTop (mkF m 0 #[.val (.ref t), .val (.int (Int32.ofNat i))] [])) := entry rfl
  have c2 : Steps p.tables e below (s₁.setTop (entryFrame m #[.ref t, .int (Int32.ofNat i)] 2)) (s₁.setTop (mkF m 3 #[.val (.ref t), .val (.int (Int32.ofNat i))] [.int (Int32.ofNat V.slots.size), .int (Int32.ofNat i)])) := c1.trans (by
    refine XS.iloadN X0.here hexec rfl (hb hbytes d0) rfl ?_
    refine XS.aloadN X0.here hexec rfl (hb hbytes d1) rfl rfl ?_
    refine X0.alen hexec (hV.mv X0.warmed.alike hh0) rfl rfl (hb hbytes d2) ?_
    exact Steps.refl _)
  obtain ⟨v3, T3, X3, E3, g3⟩ := X0.callS hexec (JO.Str_checkIndex.law l (Int32.ofNat i) (Int32.ofNat V.slots.size) fm) hown (wks W (staticW "java/lang/StringLatin1" 9 JO.Str_checkIndex.yN)) (wk W JO.Str_checkIndex.tab) (W := 0) (Nat.le_of_ble_eq_true rfl) (Nat.le_of_ble_eq_true rfl) (Nat.le_refl _) (Nat.le_refl _) (g := (mkF m 3 #[.val (.ref t), .val (.int (Int32.ofNat i))] [.int (Int32.ofNat V.slots.size), .int (Int32.ofNat i)])) rfl (by rw [hml]; rfl) c2 (argsL := [.int (Int32.ofNat i), .int (Int32.ofNat V.slots.size)]) (rest := []) rfl rfl (by show 2 * 0 + 0 ≤ _; decide) (hb hbytes d3) (⟨rfl, rf, s1.there X0.warmed.alike hh0, Int32.ofNat_not_neg (by omega), lt32 v31 hi⟩)
  obtain ⟨rfl, q3⟩ := E3
  have hh3 := q3.trans hh0
  have c4 : Steps p.tables e below (s₁.setTop (entryFrame m #[.ref t, .int (Int32.ofNat i)] 2)) (T3.setTop (mkF m 14 #[.val (.ref t), .val (.int (Int32.ofNat i))] [.int (chr8 u)])) := Steps.trans g3 (by
    refine XS.aloadN X3.here hexec rfl (hb hbytes d6) rfl rfl ?_
    refine XS.iloadN X3.here hexec rfl (hb hbytes d7) rfl ?_
    refine X3.aget hexec (hV.mv X3.warmed.alike hh3) rfl hu rfl rfl (hb hbytes d8) ?_
    refine sipushV X3.here hexec rfl 255 (hb hbytes d9) (by decide) ?_
    refine XS.iand X3.here hexec rfl (hb hbytes d12) rfl ?_
    refine i2c X3.here hexec rfl (hb hbytes d13) rfl ?_
    exact Steps.refl _)
  exact ⟨T3, some (.int (chr8 u)), _, _, _, X3, rfl, rfl, rfl, (fun h => by cases h), ⟨rfl, hh3⟩, fun fs hl => c4.trans (X3.ireturnOut hexec hret (narrow_c _) (Or.inr (Or.inr (Or.inr (Or.inl rfl)))) (hb hbytes d14) hl)⟩
end LChA
end StrChars
namespace StrChars.Road
open Jvm Sem ClassFile Op Lib Jvm.Stand Jvm.Free Jvm.Free.XT
open Jvm.Lib.Cold (StaticIs)
theorem consq {a : Array Value} {s : State} {c : Jvm.Cond} {L : List Jvm.Cond} (h0 : c.before a s = true) (h : ∀ w ∈ L, w.before a s = true) : ∀ w ∈ c :: L, w.before a s = true := fun w hw => (List.mem_cons.mp hw).elim (fun e => e ▸ h0) (h w)
/-- the words of String.length(), either coding -/
abbrev wordsLen : List Jvm.Cond := [.code Len.yN Len.yB 1 (some .int), .initialized ST, .fieldLink ST 9 ST "value" "[B", .fieldLink ST 38 ST "COMPACT_STRINGS" "Z", .fieldLink ST 15 ST "coder" "B", .code Cdr.yN Cdr.yB 1 (some .byte), .methodLink ST 335 Cdr.yN, .declares Cdr.yN, .selects ST Cdr.yN Cdr.yN, .instanceMethod Cdr.yN]
theorem tabLen_of {a : Array Value} {s : State} (h : ∀ w ∈ wordsLen, w.before a s = true) : Len.tab.before a s = true := by
  have hc : Cdr.tab.before a s = true := unparts (wk h (.code Cdr.yN Cdr.yB 1 (some .byte))) (wks h (.initialized Cdr.yN.cls :: Cdr.site))
  have q := consq hc h
  exact unparts (wk q (.code Len.yN Len.yB 1 (some .int))) (wks q (.initialized Len.yN.cls :: Len.site))
theorem movedLen {Z s : State} {a0 args : Array Value} (hZ : Z.Warmed39 s.vm) (hw : ∀ d ∈ wordsLen, d.before a0 Z = true) : ∀ d ∈ wordsLen, d.before args s = true := fun d hd => by
  have q := hw d hd
  have t : ∀ d ∈ wordsLen, d = .arrayClass .byte ∨ (d.onTables && d.keepsFace) = true := by decide +kernel
  rcases t d hd with rfl | t
  · exact RoadKit.mvA hZ q
  · exact RoadKit.mv hZ q t
/-- the bytes of the chars cs, low before high -/
def wideBytes : List Int32 → List Value
  | [] => []
  | c :: cs => .int (lo8 c) :: .int (hi8 c) :: wideBytes cs
theorem wide_lo (d : Value) : ∀ (cs : List Int32) (j : Nat), j < cs.length → (wideBytes cs).getD (2 * j) d = .int (lo8 (cs.getD j 0))
  | [], j, h => absurd h (Nat.not_lt_zero j)
  | c :: cs, 0, _ => rfl
  | c :: cs, j + 1, h => by
    have q := wide_lo d cs j (by simpa using h)
    rw [show 2 * (j + 1) = 2 * j + 1 + 1 from by omega]
    simpa [wideBytes] using q
theorem wide_hi (d : Value) : ∀ (cs : List Int32) (j : Nat), j < cs.length → (wideBytes cs).getD (2 * j + 1) d = .int (hi8 (cs.getD j 0))
  | [], j, h => absurd h (Nat.not_lt_zero j)
  | c :: cs, 0, _ => rfl
  | c :: cs, j + 1, h => by
    have q := wide_hi d cs j (by simpa using h)
    rw [show 2 * (j + 1) + 1 = 2 * j + 1 + 1 + 1 from by omega]
    simpa [wideBytes] using q
theorem low_at (d : Value) (cs : List Int32) (j : Nat) (h : j < cs.length) : (cs.map fun c => Value.int (lo8 c)).getD j d = .int (lo8 (cs.getD j 0)) := by
  simp [List.getD_eq_getElem?_getD, h]
/-- an array of N2 bytes vs codes the chars cs by the coder cd -/
def CodA (cs : List Int32) (cd N2 : Int32) (vs : List Value) : Prop := (cd = 0 ∧ N2 = Int32.ofNat cs.length ∧ vs = (cs.map fun c => Value.int (lo8 c)) ∧ ∀ c ∈ cs, ¬ 255 < c) ∨ (cd = 1 ∧ N2 = Int32.ofNat (2 * cs.length) ∧ vs = wideBytes cs ∧ ∃ c ∈ cs, 255 < c)
theorem CodA.cod {cs : List Int32} {cd N2 : Int32} {vs : List Value} {V : Cell} (h : CodA cs cd N2 vs) (hn : 2 * cs.length < 2 ^ 31) (hs : V.slots.size = N2.toNatClampNeg) (hv : RoadKit.Has V vs (.int 0)) : Cod cd cs.length (fun j => cs.getD j 0) V := by
  rcases h with ⟨rfl, rfl, rfl, h⟩ | ⟨rfl, rfl, rfl, c, hc, hw⟩
  · rw [n32 (by omega)] at hs
    exact Or.inl ⟨rfl, hs, fun j hj => ⟨by rw [hv j (by omega), low_at _ _ _ hj], by
      have e : cs.getD j 0 = cs[j] := by simp [List.getD_eq_getElem?_getD, hj]
      show ¬ 255 < cs.getD j 0
      rw [e]; exact h _ (List.getElem_mem _)⟩⟩
  · rw [n32 (by omega)] at hs
    obtain ⟨j, hj, rfl⟩ := List.getElem_of_mem hc
    exact Or.inr ⟨rfl, hs, fun j hj => ⟨by rw [hv _ (by omega), wide_lo _ _ _ hj], by rw [hv _ (by omega), wide_hi _ _ _ hj]⟩, j, hj, by
      have e : cs.getD j 0 = cs[j] := by simp [List.getD_eq_getElem?_getD, hj]
      show 255 < cs.getD j 0
      rw [e]; exact hw⟩
/-- an object of exactly java/lang/String, its two fields found: as the laws ask it -/
theorem strObj {Z U : State} {a0 : Array Value} {kI : Nat} (wi : (Jvm.Cond.instantiable ST kI).before a0 Z = true) (al : Z.vm.Alike U.vm) {x : Addr} {v0 c0 : Value} (E : RoadKit.Exa Z U.heap x ST) (V : RoadKit.Fld Z U.heap x ST "value" "[B" v0) (C : RoadKit.Fld Z U.heap x ST "coder" "B" c0) :
    ∃ (D : Cell) (fV fC : Field), Blank ST x D U ∧ Found ST "value" "[B" fV U ∧ Found ST "coder" "B" fC U ∧ D.slots[fV.slot]? = some v0 ∧ D.slots[fC.slot]? = some c0 ∧ RoadKit.slotOf Z ST "value" "[B" = fV.slot ∧ RoadKit.slotOf Z ST "coder" "B" = fC.slot := by
  obtain ⟨D, cfV, kV, iV, fV, hD, gV, stV, knV, obV, asV, slV⟩ := V
  obtain ⟨D', cfC, kC, iC, fC, hD', gC, stC, -, -, asC, slC⟩ := C
  cases hD.symm.trans hD'
  obtain ⟨D2, kD, e1, e2, e3, e4, e5⟩ := E
  cases hD.symm.trans e1
  obtain ⟨c2, k2, i1, i2, i3, -⟩ := Cond.instantiable_spec wi
  cases e2.symm.trans i1
  cases e3.symm.trans i2
  obtain ⟨kU, u1, u2⟩ := al.2.2 _ _ e3
  exact ⟨D, fV, fC, ⟨hD, ⟨knV, fun q hq => by rw [hq] at obV; cases obV⟩, by rw [al.findClass]; exact e2, kU, u1, by rw [u2]; exact i3, by rw [u2]; exact e5 i3⟩, ⟨SBG.found_only al ⟨cfV, kV, iV, gV⟩, stV⟩, ⟨SBG.found_only al ⟨cfC, kC, iC, gC⟩, stC⟩, slV, slC, by simp [RoadKit.slotOf, gV], by simp [RoadKit.slotOf, gC]⟩
theorem sta_is {Z U : State} (al : Z.vm.Alike U.vm) {C n d : String} {v : Value} (S : RoadKit.Sta Z U.heap C n d v) : StaticIs U C n d v := by
  obtain ⟨cfS, iS, kS, fS, st, cS, t1, t2, t3, t4, t5, t6, t7⟩ := S
  exact StaticIs.there (s := { Z with heap := U.heap }) ⟨cfS, iS, kS, fS, st, cS, t1, t2, t3, t4, t5, (fun q => by rw [q] at t6; cases t6), t7⟩ al rfl
/-- **length() OF SUCH A STRING** -/
theorem lenW {p : Program} {l : Launch} {e : Env} {R : Room} {s : State} {args : Array Value} {below : List Frame} {len W : Nat} {Z : State} {a0 : Array Value} {h : Heap} (hZ : Z.Warmed39 s.vm) (hw : ∀ d ∈ wordsLen, d.before a0 Z = true) {kI : Nat} (wi : (Jvm.Cond.instantiable ST kI).before a0 Z = true)
    {x t : Addr} {kb : ClassId} {cs : List Int32} {cd N2 z : Int32} {vs : List Value} (E : RoadKit.Exa Z h x ST) (V : RoadKit.Fld Z h x ST "value" "[B" (.ref t)) (C : RoadKit.Fld Z h x ST "coder" "B" (.int cd)) (K : RoadKit.Arv Z h t kb .byte N2 vs (.int 0)) (hc : CodA cs cd N2 vs) (hb : ∀ c ∈ cs, ¬ c < 0 ∧ ¬ (65535 : Int32) < c)
    (S : RoadKit.Sta Z h ST "COMPACT_STRINGS" "Z" (.int z)) (hz : ¬ z = 0) (l2 : cs.length ≤ 4000) (hfr : 2 ≤ R.frames) (hlo : W + 25 ≤ R.locals) :
    Back l R p e below s args (⟨"java/lang/String", "length", "()I"⟩ : MethodName) len W (fun P a => a = #[.ref x] ∧ P.U.heap = h ∧ P.cells + 0 ≤ R.cells ∧ P.slots + 0 ≤ R.slots)
      (fun P _ v B => ∃ L, (v = some (.int (Int32.ofNat cs.length)) ∧ L = [] ∧ B.U.heap = h) ∧ B.locs = P.locs ++ L ∧ B.cells = P.cells + 0 ∧ B.slots = P.slots + 0) := by
  obtain ⟨A, K1, K2, K3, K4, K5, K6⟩ := K
  have hcod := hc.cod (by omega) K3 K5
  intro m meth c P g ig mk a X hg hsize hdg hW hn hp'
  obtain ⟨rfl, rfl, r1, r2⟩ := hp'
  have al : Z.vm.Alike P.U.vm := hZ.alike.trans X.warmed.alike
  obtain ⟨D, fV, fC, hB, F1, F2, g1, g2, -, -⟩ := strObj wi al E V C
  have hx : Txt x t A cd cs.length (fun j => cs.getD j 0) P.U := ⟨⟨_, hB.2.2.1, D, hB.1, rfl, by cases q : D.vm <;> first | rfl | exact absurd q (hB.2.1.2 _)⟩, Has.of hB F1 g1, Has.of hB F2 g2, ⟨K1.1, State.isArrayOf_alike al K1.2.1, K1.2.2, by rcases hcod with ⟨-, q, -⟩ | ⟨-, q, -⟩ <;> omega⟩, hcod, fun j hj => by
    have e : cs.getD j 0 = cs[j] := by simp [List.getD_eq_getElem?_getD, hj]
    show ¬ cs.getD j 0 < 0 ∧ ¬ 65535 < cs.getD j 0
    rw [e]; exact hb _ (List.getElem_mem _)⟩
  obtain ⟨v, B, X', ⟨⟨hv, hh⟩, hl, hk, hs⟩, st⟩ := Len.pays x t A cd cs.length (fun j => cs.getD j 0) z (tabLen_of (movedLen hZ hw)) hfr hlo m meth c P g ig mk _ X hg hsize hdg hW hn ⟨r1, r2, rfl, hx, sta_is al S, hz⟩
  exact ⟨v, B, X', ⟨[], ⟨hv, rfl, hh⟩, hl, hk, hs⟩, st⟩
end StrChars.Road
namespace StrChars.Road
open Jvm Sem ClassFile Op Lib Jvm.Stand Jvm.Free Jvm.Free.XT
open Jvm.Lib.Cold (StaticIs)
/-- the road's facts of a String, as the laws ask it -/
theorem txt_of {Z U : State} {a0 : Array Value} {kI : Nat} (wi : (Jvm.Cond.instantiable ST kI).before a0 Z = true) (al : Z.vm.Alike U.vm) {x t : Addr} {kb : ClassId} {cs : List Int32} {cd N2 : Int32} {vs : List Value} (E : RoadKit.Exa Z U.heap x ST) (V : RoadKit.Fld Z U.heap x ST "value" "[B" (.ref t)) (C : RoadKit.Fld Z U.heap x ST "coder" "B" (.int cd)) (K : RoadKit.Arv Z U.heap t kb .byte N2 vs (.int 0)) (hc : CodA cs cd N2 vs) (hb : ∀ c ∈ cs, ¬ c < 0 ∧ ¬ (65535 : Int32) < c) (l2 : cs.length ≤ 4000) :
    ∃ A, Txt x t A cd cs.length (fun j => cs.getD j 0) U := by
  obtain ⟨A, K1, K2, K3, K4, K5, K6⟩ := K
  have hcod := hc.cod (by omega) K3 K5
  obtain ⟨D, fV, fC, hB, F1, F2, g1, g2, -, -⟩ := strObj wi al E V C
  exact ⟨A, ⟨_, hB.2.2.1, D, hB.1, rfl, by cases q : D.vm <;> first | rfl | exact absurd q (hB.2.1.2 _)⟩, Has.of hB F1 g1, Has.of hB F2 g2, ⟨K1.1, State.isArrayOf_alike al K1.2.1, K1.2.2, by rcases hcod with ⟨-, q, -⟩ | ⟨-, q, -⟩ <;> omega⟩, hcod, fun j hj => by
    have e : cs.getD j 0 = cs[j] := by simp [List.getD_eq_getElem?_getD, hj]
    show ¬ cs.getD j 0 < 0 ∧ ¬ 65535 < cs.getD j 0
    rw [e]; exact hb _ (List.getElem_mem _)⟩
end StrChars.Road
namespace StrChars
open Jvm Sem ClassFile Op Lib Jvm.Stand Jvm.Free.XT Jvm.Free.ALB Jvm.Free.JM Jvm.Free
open Jvm.Lib.Cold (StaticIs)
namespace ChN
def yN : MethodName := ⟨"java/lang/String", "charAt", "(I)C"⟩
abbrev yB : ByteArray := jdk_42_method_56_code
theorem d0 : decode yB 0 = .ok (.aload_n 0, 1) := by decide +kernel
theorem d1 : decode yB 1 = .ok (.invokevirtual 492, 3) := by decide +kernel
theorem d4 : decode yB 4 = .ok (.ifCond (.eq) 12, 3) := by decide +kernel
theorem d7 : decode yB 7 = .ok (.aload_n 0, 1) := by decide +kernel
theorem d8 : decode yB 8 = .ok (.getfield 9, 3) := by decide +kernel
theorem d11 : decode yB 11 = .ok (.iload_n 1, 1) := by decide +kernel
theorem d12 : decode yB 12 = .ok (.invokestatic 495, 3) := by decide +kernel
theorem d15 : decode yB 15 = .ok (.ireturn, 1) := by decide +kernel
def site : List Cond := [.fieldLink "java/lang/String" 9 "java/lang/String" "value" "[B", IsL.tab, LChA.tab] ++ virtW "java/lang/String" 492 "java/lang/String" IsL.yN IsL.yN ++ staticW "java/lang/String" 495 LChA.yN
def tab : Cond := tabOf yN yB 2 (some .char) site
def P (x t : Addr) (V : Cell) (n : Nat) (f : Nat → Int32) (z : Int32) (fm : Value) (i : Nat) (args : Array Value) (s : State) : Prop := args = #[.ref x, .int (Int32.ofNat i)] ∧ Txt x t V 0 n f s ∧ i < n ∧ StaticIs s "java/lang/String" "COMPACT_STRINGS" "Z" (.int z) ∧ ¬ z = 0 ∧ StaticIs s "jdk/internal/util/Preconditions" "SIOOBE_FORMATTER" "Ljava/util/function/BiFunction;" fm ∧ fm.isRef = true
def E (f : Nat → Int32) (i : Nat) (r : Option Value) (s u : State) : Prop := XT.PureE (some (.int (f i))) r s u
/-- charAt(i) of a Latin-1 String of n chars, i < n: f i -/
theorem law (l : Launch) (x t : Addr) (V : Cell) (n : Nat) (f : Nat → Int32) (z : Int32) (fm : Value) (i : Nat) : Law l yN 2 1 3 40 yB 2 (some .char) site (P x t V n f z fm i) (E f i) [] 0 0 := by
  refine Law.of_walk (plainFor_of_name (by decide +kernel)) (by decide +kernel) (by decide +kernel) (by decide) (fun _ _ h => by rw [h.1]; rfl) (fun _ U U' hal hh h => ⟨h.1, h.2.1.mv hal hh, h.2.2.1, h.2.2.2.1.there hal hh, h.2.2.2.2.1, h.2.2.2.2.2.1.there hal hh, h.2.2.2.2.2.2⟩) (fun r U U' V V' h1 hal h2 h => XT.PureE.mv r U U' V V' h1 hal h2 h) ?_
  intro p e s m args below meth c s₁ X0 hexec hbytes hml hret hlk hnm hown hh0 W hP
  obtain ⟨rfl, hx, hi, s1, hz, s3, rf⟩ := hP
  have v31 := hx.2.2.2.1.2.2.2
  have hr := hx.2.2.2.2.2 i hi
  have hx0 := hx.mv X0.warmed.alike hh0
  have c1 : Steps p.tables e below (s₁.setTop (entryFrame m #[.ref x, .int (Int32.ofNat i)] 2)) (s₁.setTop (mkF m 1 #[.val (.ref x), .val (.int (Int32.ofNat i))] [.ref x])) := Steps.trans (entry rfl) (by
    show Steps p.tables e below (s₁.setTop (mkF m 0 #[.val (.ref x), .val (.int (Int32.ofNat i))] [])) _
    refine XS.aloadN X0.here hexec rfl (hb hbytes d0) rfl rfl ?_
    exact Steps.refl _)
  obtain ⟨v2, T2, X2, E2, g2⟩ := X0.callV hexec (IsL.law l x 0 z) hown (wks W (virtW "java/lang/String" 492 "java/lang/String" IsL.yN IsL.yN)) rfl (by decide) (wk W IsL.tab) (W := 0) (Nat.le_of_ble_eq_true rfl) (Nat.le_of_ble_eq_true rfl) (Nat.le_refl _) (Nat.le_refl _) (hx0.1.fc X0.warmed.alike) hx0.1.is (g := (mkF m 1 #[.val (.ref x), .val (.int (Int32.ofNat i))] [.ref x])) rfl (by rw [hml]; rfl) c1 (argsL := []) (rest := []) rfl rfl (by show 2 * 0 + 0 ≤ _; decide) (hb hbytes d1) (⟨rfl, hx0.2.2.1, hx.2.2.2.2.1.cd, s1.there X0.warmed.alike hh0, hz⟩)
  obtain ⟨rfl, q2⟩ := E2
  have hh2 := q2.trans hh0
  have hx2 := hx.mv X2.warmed.alike hh2
  obtain ⟨-, k1, k2⟩ | ⟨k0, -⟩ := hx.2.2.2.2.1
  · have c3 : Steps p.tables e below (s₁.setTop (entryFrame m #[.ref x, .int (Int32.ofNat i)] 2)) (T2.setTop (mkF m 8 #[.val (.ref x), .val (.int (Int32.ofNat i))] [.ref x])) := Steps.trans g2 (by
      refine XS.ifNo X2.here hexec rfl (hb hbytes d4) rfl (i0_eq_f (by decide)) ?_
      refine XS.aloadN X2.here hexec rfl (hb hbytes d7) rfl rfl ?_
      exact Steps.refl _)
    obtain ⟨T4, X4, q4, st4⟩ := X2.hget hexec hown (wk W (.fieldLink "java/lang/String" 9 "java/lang/String" "value" "[B")) hx2.2.1 (g := (mkF m 8 #[.val (.ref x), .val (.int (Int32.ofNat i))] [.ref x])) rfl (rest := []) rfl (hb hbytes d8)
    have hh4 := q4.trans hh2
    have c5 : Steps p.tables e below (s₁.setTop (entryFrame m #[.ref x, .int (Int32.ofNat i)] 2)) (T4.setTop (mkF m 12 #[.val (.ref x), .val (.int (Int32.ofNat i))] [.int (Int32.ofNat i), .ref t])) := (c3.trans (st4 _ (Steps.refl _))).trans (by
      refine XS.iloadN X4.here hexec rfl (hb hbytes d11) rfl ?_
      exact Steps.refl _)
    obtain ⟨v6, T6, X6, E6, g6⟩ := X4.callS hexec (LChA.law l t V i (lo8 (f i)) fm) hown (wks W (staticW "java/lang/String" 495 LChA.yN)) (wk W LChA.tab) (W := 0) (Nat.le_of_ble_eq_true rfl) (Nat.le_of_ble_eq_true rfl) (Nat.le_refl _) (Nat.le_refl _) (g := (mkF m 12 #[.val (.ref x), .val (.int (Int32.ofNat i))] [.int (Int32.ofNat i), .ref t])) rfl (by rw [hml]; rfl) c5 (argsL := [.ref t, .int (Int32.ofNat i)]) (rest := []) rfl rfl (by show 2 * 0 + 0 ≤ _; decide) (hb hbytes d12) (⟨rfl, hx.2.2.2.1.mv X4.warmed.alike hh4, (k2 i hi).1, s3.there X4.warmed.alike hh4, rf⟩)
    obtain ⟨rfl, q6⟩ := E6
    rw [chr8_lo8 hr.1 (k2 i hi).2] at g6
    exact ⟨T6, some (.int (f i)), _, _, _, X6, rfl, rfl, rfl, (fun h => by cases h), ⟨rfl, q6.trans hh4⟩, fun fs hl => Steps.trans g6 (X6.ireturnOut hexec hret (narrow_ch hr.1 hr.2) (Or.inr (Or.inr (Or.inr (Or.inl rfl)))) (hb hbytes d15) hl)⟩
  · exact absurd k0 (by decide)
theorem pays {l : Launch} {R : Room} {p : Program} {e : Env} {below : List Frame} {s : State} {sargs : Array Value} {len W : Nat} (x t : Addr) (V : Cell) (n : Nat) (f : Nat → Int32) (z : Int32) (fm : Value) (i : Nat) (htab : tab.before sargs s = true) (hfr : 4 ≤ R.frames) (hlo : W + 53 ≤ R.locals) :
    Back l R p e below s sargs yN len W (fun A₁ a₁ => A₁.cells + 0 ≤ R.cells ∧ A₁.slots + 0 ≤ R.slots ∧ P x t V n f z fm i a₁ A₁.U) (fun A₁ _ v₁ B₁ => E f i v₁ A₁.U B₁.U ∧ B₁.locs = A₁.locs ++ [] ∧ B₁.cells = A₁.cells + 0 ∧ B₁.slots = A₁.slots + 0) :=
  (law l x t V n f z fm i).pays htab hfr (by omega)
end ChN
end StrChars
namespace StrChars.Road
open Jvm Sem ClassFile Op Lib Jvm.Stand Jvm.Free Jvm.Free.XT
open Jvm.Lib.Cold (StaticIs)
/-- the words of String.charAt(int), the Latin-1 road alone -/
abbrev wordsChN : List Jvm.Cond := [.code ChN.yN ChN.yB 2 (some .char), .initialized ST, .fieldLink ST 9 ST "value" "[B", .fieldLink ST 38 ST "COMPACT_STRINGS" "Z", .fieldLink ST 15 ST "coder" "B", .code IsL.yN IsL.yB 1 (some .boolean), .methodLink ST 492 IsL.yN, .declares IsL.yN, .selects ST IsL.yN IsL.yN, .instanceMethod IsL.yN,
  .methodLink ST 495 LChA.yN, .static LChA.yN, .code LChA.yN LChA.yB 2 (some .char), .initialized "java/lang/StringLatin1", .methodLink "java/lang/StringLatin1" 9 JO.Str_checkIndex.yN, .static JO.Str_checkIndex.yN, .code JO.Str_checkIndex.yN JO.Str_checkIndex.yB 2 none,
  .fieldLink ST 1053 "jdk/internal/util/Preconditions" "SIOOBE_FORMATTER" "Ljava/util/function/BiFunction;", .methodLink ST 1059 JC.PreCheck.yN, .static JC.PreCheck.yN, .code JC.PreCheck.yN JC.PreCheck.yB 3 (some .int), .initialized "jdk/internal/util/Preconditions"]
theorem tabChN_of {a : Array Value} {s : State} (h : ∀ w ∈ wordsChN, w.before a s = true) : ChN.tab.before a s = true := by
  have hp : JC.PreCheck.tab.before a s = true := unparts (wk h (.code JC.PreCheck.yN JC.PreCheck.yB 3 (some .int))) (wks h (.initialized JC.PreCheck.yN.cls :: JC.PreCheck.site))
  have qk := consq hp h
  have hk : JO.Str_checkIndex.tab.before a s = true := unparts (wk qk (.code JO.Str_checkIndex.yN JO.Str_checkIndex.yB 2 none)) (wks qk (.initialized JO.Str_checkIndex.yN.cls :: JO.Str_checkIndex.site))
  have ql := consq hk h
  have hl : LChA.tab.before a s = true := unparts (wk ql (.code LChA.yN LChA.yB 2 (some .char))) (wks ql (.initialized LChA.yN.cls :: LChA.site))
  have hi : IsL.tab.before a s = true := unparts (wk h (.code IsL.yN IsL.yB 1 (some .boolean))) (wks h (.initialized IsL.yN.cls :: IsL.site))
  have q := consq hi (consq hl h)
  exact unparts (wk q (.code ChN.yN ChN.yB 2 (some .char))) (wks q (.initialized ChN.yN.cls :: ChN.site))
theorem movedChN {Z s : State} {a0 args : Array Value} (hZ : Z.Warmed39 s.vm) (hw : ∀ d ∈ wordsChN, d.before a0 Z = true) : ∀ d ∈ wordsChN, d.before args s = true := fun d hd => by
  have t : ∀ d ∈ wordsChN, (d.onTables && d.keepsFace) = true := by decide +kernel
  exact RoadKit.mv hZ (hw d hd) (t d hd)
/-- **charAt(i) OF A LATIN-1 STRING**, i < n: the char -/
theorem chN {p : Program} {l : Launch} {e : Env} {R : Room} {s : State} {args : Array Value} {below : List Frame} {len W : Nat} {Z : State} {a0 : Array Value} {h : Heap} (hZ : Z.Warmed39 s.vm) (hw : ∀ d ∈ wordsChN, d.before a0 Z = true) {kI : Nat} (wi : (Jvm.Cond.instantiable ST kI).before a0 Z = true)
    {x t : Addr} {kb : ClassId} {cs : List Int32} {N2 z : Int32} {vs : List Value} {fm : Value} {i : Nat} {j : Int32} (E : RoadKit.Exa Z h x ST) (V : RoadKit.Fld Z h x ST "value" "[B" (.ref t)) (C : RoadKit.Fld Z h x ST "coder" "B" (.int 0)) (K : RoadKit.Arv Z h t kb .byte N2 vs (.int 0)) (hc : CodA cs 0 N2 vs) (hb : ∀ c ∈ cs, ¬ c < 0 ∧ ¬ (65535 : Int32) < c)
    (S : RoadKit.Sta Z h ST "COMPACT_STRINGS" "Z" (.int z)) (hz : ¬ z = 0) (F : RoadKit.Sta Z h "jdk/internal/util/Preconditions" "SIOOBE_FORMATTER" "Ljava/util/function/BiFunction;" fm) (rf : fm.isRef = true) (l2 : cs.length ≤ 4000) (hi : i < cs.length) (hj : j = Int32.ofNat i) (hfr : 4 ≤ R.frames) (hlo : W + 53 ≤ R.locals) :
    Back l R p e below s args (⟨"java/lang/String", "charAt", "(I)C"⟩ : MethodName) len W (fun P a => a = #[.ref x, .int j] ∧ P.U.heap = h ∧ P.cells + 0 ≤ R.cells ∧ P.slots + 0 ≤ R.slots)
      (fun P _ v B => ∃ L, (v = some (.int (cs.getD i 0)) ∧ L = [] ∧ B.U.heap = h) ∧ B.locs = P.locs ++ L ∧ B.cells = P.cells + 0 ∧ B.slots = P.slots + 0) := by
  subst hj
  intro m meth c P g ig mk a X hg hsize hdg hW hn hp'
  obtain ⟨rfl, rfl, r1, r2⟩ := hp'
  have al : Z.vm.Alike P.U.vm := hZ.alike.trans X.warmed.alike
  obtain ⟨A, hx⟩ := txt_of wi al E V C K hc hb l2
  obtain ⟨v, B, X', ⟨⟨hv, hh⟩, hl, hk, hs⟩, st⟩ := ChN.pays x t A cs.length (fun j => cs.getD j 0) z fm i (tabChN_of (movedChN hZ hw)) hfr hlo m meth c P g ig mk _ X hg hsize hdg hW hn ⟨r1, r2, rfl, hx, hi, sta_is al S, hz, sta_is al F, rf⟩
  exact ⟨v, B, X', ⟨[], ⟨hv, rfl, hh⟩, hl, hk, hs⟩, st⟩
end StrChars.Road
end Jvm.Pilot.@@N@@
namespace Jvm.Pilot.@@N@@
open Jvm Jvm.ClassFile Sem Op Lib Jvm.Free Jvm.Stand Jvm.LawKit Jvm.RoadKit Bundle Jvm.Pilot.@@N@@.Jvm.D
abbrev NAC : String := site_146.cls
def Goes (p : Program) (e : Env) (below : List Frame) (Post : Outcome → State → Prop) (T : State) (g : JFrame) : Prop := ∃ (t : State) (o : Outcome), Steps p.tables e below (T.setTop g) t ∧ t.status = .running ∧ Ended t below o ∧ Post o t
theorem Goes.step {p : Program} {e : Env} {below : List Frame} {Post : Outcome → State → Prop} {T T' : State} {g g' : JFrame} (k : ∀ t, Steps p.tables e below (T'.setTop g') t → Steps p.tables e below (T.setTop g) t) (h : Goes p e below Post T' g') : Goes p e below Post T g := by
  obtain ⟨t, o, h1, h2⟩ := h; exact ⟨t, o, k _ h1, h2⟩
theorem Goes.run {p : Program} {e : Env} {below : List Frame} {Post : Outcome → State → Prop} {T T' : State} {g g' : JFrame} (k : Steps p.tables e below (T.setTop g) (T'.setTop g')) (h : Goes p e below Post T' g') : Goes p e below Post T g := by
  obtain ⟨t, o, h1, h2⟩ := h; exact ⟨t, o, k.trans h1, h2⟩
theorem own_cat {v : Value} (h : v.isRef = true) : v.category = 1 := by rcases ref_cases h with rfl | ⟨_, rfl⟩ <;> rfl
theorem own_nref {v : Value} {C : String} (h : v.isRef = true) : narrow (.object C) v = v := by rcases ref_cases h with rfl | ⟨_, rfl⟩ <;> rfl
theorem own_nref' {v : Value} {t : FieldType} (h : v.isRef = true) : narrow t v = v := by rcases ref_cases h with rfl | ⟨_, rfl⟩ <;> cases t <;> rfl
theorem own_fref {v : Value} {C : String} (h : v.isRef = true) : fits (.object C) v = true := by rcases ref_cases h with rfl | ⟨_, rfl⟩ <;> rfl
theorem own_n0 {Z : State} {n0 : Nat} {h : Heap} (O : Old Z n0 h) : n0 ≤ h.size := O.1 ▸ O.2.1
theorem own_since0 (s : State) (n : Nat) : s.Since s.vm n := (State.WarmedH.refl s).since n
theorem own_mono {s t : State} {o : Outcome} {L : List Loc} {k n k' n' : Nat} (h : ReturnedEndW s o t L k n) (hk : k ≤ k') (hn : n ≤ n') : ReturnedEndW s o t L k' n' := ⟨h.1, h.2.1, h.2.2.1, h.2.2.2.mono hk hn⟩
/-- a value that is null or a String -/
def SN (Z : State) (h : Heap) (r : Value) : Prop := r.isRef = true ∧ (r = .null ∨ ∃ a, r = .ref a ∧ Exa Z h a "java/lang/String")
theorem SN.ext {Z : State} {h h' : Heap} {r : Value} (F : SN Z h r) (E : Ext h h') : SN Z h' r := ⟨F.1, F.2.imp id fun ⟨a, q, G⟩ => ⟨a, q, G.ext E⟩⟩
theorem SN.wr {Z : State} {h h' : Heap} {r : Value} {a : Addr} {sl : Nat} {v : Value} (F : SN Z h r) (W : Wr h h' a sl v) : SN Z h' r := ⟨F.1, F.2.imp id fun ⟨a, q, G⟩ => ⟨a, q, G.wr W⟩⟩
theorem SN.keep {Z : State} {h h' : Heap} {r : Value} {ws : List Addr} (F : SN Z h r) (K : Keep h h' ws) : SN Z h' r := ⟨F.1, F.2.imp id fun ⟨a, q, G⟩ => ⟨a, q, G.keep K⟩⟩
theorem own_decl {Z : State} {a0 : Array Value} {y : MethodName} {bytes : ByteArray} {ml : Nat} {r : Option FieldType} (wi : (Cond.instanceMethod y).before a0 Z = true) (wc : (Cond.code y bytes ml r).before a0 Z = true) : (Cond.declares y).before a0 Z = true := by
  obtain ⟨mk, methM, hn, hm, hst, hab⟩ := Cond.instanceMethod_spec wi
  obtain ⟨m2, cM, q1, -, -, -, -, -, -, hsig⟩ := Cond.code_spec hn wc
  cases hm.symm.trans q1
  simp [Cond.before, Cond.holds, Cond.value, hn, hm, hst, hsig]
theorem own_same {Z : State} {a0 : Array Value} {y z : MethodName} {C : String} (hc : z.cls = y.cls) (hy : y.cls ≠ "java/lang/invoke/MethodHandle" ∧ y.cls ≠ "java/lang/invoke/VarHandle") (wi : (Cond.instanceMethod y).before a0 Z = true) (ws : (Cond.selects C z z).before a0 Z = true) : (Cond.sameMethod y.cls y.cls y.name y.desc).before a0 Z = true := by
  obtain ⟨mk, methM, hn, hm, hst, hab⟩ := Cond.instanceMethod_spec wi
  obtain ⟨c2, r2, m2, q1, q2, q3, q4, kP, hkP, hkPi⟩ := Cond.selects_spec ws
  have f1 := findClass_of_methodNamed hn
  have f2 := findClass_of_methodNamed q3
  rw [hc, f1] at f2
  have e : mk.cls = m2.cls := Option.some.inj f2
  have hf := State.methodFound?_of_named hn hy
  have hkP' : Z.vm.classes[mk.cls]? = some kP := by rw [e]; exact hkP
  have hn' : Z.methodNamed? { cls := y.cls, name := y.name, desc := y.desc } = some mk := hn
  simp [Cond.before, Cond.holds, Cond.value, f1, hf, hn', hkP', hkPi]
theorem own_nf {args : Array Value} {s : State} {y z : MethodName} {C : String} (hc : z.cls = y.cls) (ws : (Cond.selects C z z).before args s = true) : NotFace s y := fun r0 hn => by
  obtain ⟨c2, r2, m2, q1, q2, q3, q4, kP, hkP, hkPi⟩ := Cond.selects_spec ws
  have f1 := findClass_of_methodNamed hn
  have f2 := findClass_of_methodNamed q3
  rw [hc, f1] at f2
  have e : r0.cls = m2.cls := Option.some.inj f2
  exact ⟨kP, by rw [e]; exact hkP, hkPi⟩
theorem own_rng {us : List Value} {n : Nat} {dv : Value} (h : us.length = n) : us = (List.range n).map fun i => us.getD (0 + i) dv := by
  apply List.ext_getElem
  · simp [h]
  · intro i h1 h2; simp [List.getD_eq_getElem?_getD, h1]
theorem own_and255 (x : Int32) : ¬ (x &&& 255) < 0 ∧ ¬ (255 : Int32) < (x &&& 255) := by
  have e : (x &&& 255).toBitVec = x.toBitVec &&& 255#32 := rfl
  have e1 : (x &&& 255).toInt = (x.toBitVec &&& 255#32).toInt := by rw [← e]; rfl
  have e2 : (x.toBitVec &&& 255#32).toNat < 256 := by
    rw [BitVec.toNat_and]; exact Nat.lt_of_le_of_lt Nat.and_le_right (by decide)
  have e3 : (x.toBitVec &&& 255#32).toInt = (x.toBitVec &&& 255#32).toNat := by
    rw [BitVec.toInt_eq_toNat_of_lt]; omega
  rw [Int32.lt_iff_toInt_lt, Int32.lt_iff_toInt_lt, e1, e3]
  have : (0 : Int32).toInt = 0 := rfl
  have : (255 : Int32).toInt = 255 := rfl
  omega
theorem own_nar8 (x : Int32) : nar .char (x &&& 255) = x &&& 255 := i2c_mask x
theorem own_c8 (x : Int32) : ¬ nar .char ((x &&& 255).toUInt32.toUInt16.toUInt32.toInt32) < 0 ∧ ¬ (255 : Int32) < nar .char ((x &&& 255).toUInt32.toUInt16.toUInt32.toInt32) := by
  rw [i2c_mask, own_nar8]; exact own_and255 x
abbrev EL : List (String × Nat) := consts_1
theorem own_safeNull {Z : State} {vm : Vm} {h : Heap} {x : Addr} (hal : Z.vm.Alike vm) (E : Exa Z h x "java/lang/String") (F : Fld Z h x "java/lang/String" "value" "[B" .null) : Safe Z EL vm h x := fun B => by
  obtain ⟨cell, k, e1, e2, e3, -, -⟩ := E
  obtain ⟨cell2, cf, kf, i, f, f1, f2, -, -, -, -, f7⟩ := F
  cases e1.symm.trans f1
  obtain ⟨p, -, u, a, -, q, -, F, rfl | rfl⟩ := B
  · cases (show h[q.sa]? = some q.sC from F.ha).symm.trans e1
    obtain ⟨cS, ⟨⟨s1, s2, s3, ⟨cv, kv, iv, s4, s4'⟩, ⟨cc, kc, ic, s5, s5'⟩, s6, s7, s8, s9, r⟩, hfS, hcS⟩, -⟩ := F
    obtain ⟨kv', z4⟩ := ff_back (U := Wst Z vm h) hal s4
    cases f2.symm.trans z4
    cases f7.symm.trans s8
  · cases (show h[q.sd]? = some q.SA from F.hd).symm.trans e1
    obtain ⟨cS, -, -, g, -⟩ := F
    have g' : Z.vm.findClass "[B" = some q.SA.cls := by rw [← hal.findClass]; exact g
    obtain ⟨k1, q1, q2⟩ := Vm.findClass_spec g'
    obtain ⟨k2, q3, q4⟩ := Vm.findClass_spec e2
    cases q1.symm.trans q3
    exact absurd (q2.symm.trans q4) (by decide)
theorem own_wS {Z : State} {a0 : Array Value} (hw : ∀ d ∈ tables_1, d.before a0 Z = true) : ∀ a ∈ Bundle.stringAtoms, a.before a0 Z = true := fun a ha => by
  simp only [Bundle.stringAtoms, List.mem_cons, List.not_mem_nil, or_false] at ha
  rcases ha with rfl | rfl | rfl | rfl | rfl | rfl | rfl
  · exact (hw _ (List.mem_of_getElem? (i := 11) rfl))
  · exact (hw _ (List.mem_of_getElem? (i := 10) rfl))
  · exact (hw _ (List.mem_of_getElem? (i := 27) rfl))
  · exact (hw _ (List.mem_of_getElem? (i := 37) rfl))
  · exact (hw _ (List.mem_of_getElem? (i := 35) rfl))
  · exact (hw _ (List.mem_of_getElem? (i := 189) rfl))
  · exact (hw _ (List.mem_of_getElem? (i := 190) rfl))
theorem own_EW {Z : State} {a0 : Array Value} (hw : ∀ d ∈ tables_1, d.before a0 Z = true) : EW Z a0 EL := EW.cons (hw _ (List.mem_of_getElem? (i := 191) rfl)) (by decide) (EW.cons (hw _ (List.mem_of_getElem? (i := 188) rfl)) (by decide) (EW.nil))
theorem own_wBV {Z : State} {a0 : Array Value} (hw : ∀ d ∈ tables_1, d.before a0 Z = true) : ∀ d ∈ StrChars.Road.words, d.before a0 Z = true := fun d hd => hw d ((by decide +kernel : ∀ d ∈ StrChars.Road.words, d ∈ tables_1) d hd)
theorem own_kext {h h' : Heap} (K : Keep h h' []) : Ext h h' := ⟨K.1, fun a c q => K.2.1 a c q nin0⟩
/-- a compact String of these chars -/
def SX (Z : State) (h : Heap) (a : Addr) (cs : List Int32) : Prop := Exa Z h a "java/lang/String" ∧ Fld Z h a "java/lang/String" "coder" "B" (.int 0) ∧ (∀ c ∈ cs, ¬ c < 0 ∧ ¬ (255 : Int32) < c) ∧ ∃ (t : Addr) (kb : ClassId), Fld Z h a "java/lang/String" "value" "[B" (.ref t) ∧ Arv Z h t kb .byte (Int32.ofNat cs.length) (cs.map fun c => .int (c.toInt8.toInt32)) (.int 0)
theorem SX.ext {Z : State} {h h' : Heap} {a : Addr} {cs : List Int32} (F : SX Z h a cs) (E : Ext h h') : SX Z h' a cs := by
  obtain ⟨f1, f2, f3, t, kb, f4, f5⟩ := F; exact ⟨f1.ext E, f2.ext E, f3, t, kb, f4.ext E, f5.ext E⟩
theorem SX.keepE {Z : State} {a0 : Array Value} {h h' : Heap} {a o : Addr} {cs : List Int32} {C : String} {n : Nat} (F : SX Z h a cs) (K : Keep h h' [o]) (E : Exa Z h o C) (hC : C ≠ "java/lang/String") (wi : (Cond.instantiable C n).before a0 Z = true) : SX Z h' a cs := by
  obtain ⟨f1, f2, f3, t, kb, f4, f5⟩ := F
  have n1 : a ≠ o := (ne_exa E f1 hC).symm
  have n2 : t ≠ o := (Exa.neArv E f5 wi).symm
  exact ⟨f1.keep K, f2.keep K (ninS n1 nin0), f3, t, kb, f4.keep K (ninS n1 nin0), f5.keep K (ninS n2 nin0)⟩
theorem SX.wrE {Z : State} {a0 : Array Value} {h h' : Heap} {a o : Addr} {sl : Nat} {v : Value} {cs : List Int32} {C : String} {n : Nat} (F : SX Z h a cs) (W : Wr h h' o sl v) (E : Exa Z h o C) (hC : C ≠ "java/lang/String") (wi : (Cond.instantiable C n).before a0 Z = true) : SX Z h' a cs := F.keepE (Keep.of_wr W) E hC wi
theorem own_cod {cs : List Int32} (h : ∀ c ∈ cs, ¬ c < 0 ∧ ¬ (255 : Int32) < c) : StrChars.Road.CodA cs 0 (Int32.ofNat cs.length) (cs.map fun c => .int (c.toInt8.toInt32)) := Or.inl ⟨rfl, rfl, rfl, fun c hc => (h c hc).2⟩
theorem own_up {cs : List Int32} (h : ∀ c ∈ cs, ¬ c < 0 ∧ ¬ (255 : Int32) < c) : ∀ c ∈ cs, ¬ c < 0 ∧ ¬ (65535 : Int32) < c := fun c hc => ⟨(h c hc).1, fun q => (h c hc).2 (Int32.lt_trans (by decide) q)⟩
theorem own_wLen {Z : State} {a0 : Array Value} (hw : ∀ d ∈ tables_1, d.before a0 Z = true) : ∀ d ∈ StrChars.Road.wordsLen, d.before a0 Z = true := fun d hd => hw d ((by decide +kernel : ∀ d ∈ StrChars.Road.wordsLen, d ∈ tables_1) d hd)
theorem own_lenW {p : Program} {l : Launch} {e : Env} {R : Room} {s : State} {args : Array Value} {below : List Frame} {len W : Nat} {Z : State} {a0 : Array Value} {h : Heap} (hZ : Z.Warmed39 s.vm) (hw : ∀ d ∈ tables_1, d.before a0 Z = true) (wi : (Jvm.Cond.instantiable "java/lang/String" 4).before a0 Z = true)
    {x : Addr} {cs : List Int32} (F : SX Z h x cs) (l1 : cs.length ≤ 4000) {z : Int32} (S : Sta Z h "java/lang/String" "COMPACT_STRINGS" "Z" (.int z)) (hz : ¬ z = 0) (hfr : 2 ≤ R.frames) (hlo : W + 25 ≤ R.locals) :
    Back l R p e below s args (⟨"java/lang/String", "length", "()I"⟩ : MethodName) len W (fun P a => a = #[.ref x] ∧ P.U.heap = h ∧ P.cells + 0 ≤ R.cells ∧ P.slots + 0 ≤ R.slots)
      (fun P _ v B => ∃ L, (v = some (.int (Int32.ofNat cs.length)) ∧ L = [] ∧ B.U.heap = h) ∧ B.locs = P.locs ++ L ∧ B.cells = P.cells + 0 ∧ B.slots = P.slots + 0) := by
  obtain ⟨f1, f2, f3, t, kb, f4, f5⟩ := F
  exact StrChars.Road.lenW hZ (own_wLen hw) (kI := 4) wi f1 f4 f2 f5 (own_cod f3) (own_up f3) S hz l1 hfr hlo
theorem own_wChN {Z : State} {a0 : Array Value} (hw : ∀ d ∈ tables_1, d.before a0 Z = true) : ∀ d ∈ StrChars.Road.wordsChN, d.before a0 Z = true := fun d hd => hw d ((by decide +kernel : ∀ d ∈ StrChars.Road.wordsChN, d ∈ tables_1) d hd)
theorem own_chN {p : Program} {l : Launch} {e : Env} {R : Room} {s : State} {args : Array Value} {below : List Frame} {len W : Nat} {Z : State} {a0 : Array Value} {h : Heap} (hZ : Z.Warmed39 s.vm) (hw : ∀ d ∈ tables_1, d.before a0 Z = true) (wi : (Jvm.Cond.instantiable "java/lang/String" 4).before a0 Z = true)
    {x : Addr} {cs : List Int32} (F : SX Z h x cs) (l1 : cs.length ≤ 4000) {z : Int32} (S : Sta Z h "java/lang/String" "COMPACT_STRINGS" "Z" (.int z)) (hz : ¬ z = 0) {fm : Value} (SF : Sta Z h "jdk/internal/util/Preconditions" "SIOOBE_FORMATTER" "Ljava/util/function/BiFunction;" fm) (rf : fm.isRef = true) {i : Nat} {j : Int32} (hi : i < cs.length) (hj : j = Int32.ofNat i) (hfr : 4 ≤ R.frames) (hlo : W + 53 ≤ R.locals) :
    Back l R p e below s args (⟨"java/lang/String", "charAt", "(I)C"⟩ : MethodName) len W (fun P a => a = #[.ref x, .int j] ∧ P.U.heap = h ∧ P.cells + 0 ≤ R.cells ∧ P.slots + 0 ≤ R.slots)
      (fun P _ v B => ∃ L, (v = some (.int (cs.getD i 0)) ∧ L = [] ∧ B.U.heap = h) ∧ B.locs = P.locs ++ L ∧ B.cells = P.cells + 0 ∧ B.slots = P.slots + 0) := by
  obtain ⟨f1, f2, f3, t, kb, f4, f5⟩ := F
  exact StrChars.Road.chN hZ (own_wChN hw) (kI := 4) wi f1 f4 f2 f5 (own_cod f3) (own_up f3) S hz SF rf l1 hi hj hfr hlo
/-- the place of the first point, or the length -/
def IX : List Int32 → Nat
  | [] => 0
  | c :: r => if c = 46 then 0 else IX r + 1
theorem IX_le : ∀ cs : List Int32, IX cs ≤ cs.length
  | [] => Nat.le_refl _
  | c :: r => by have := IX_le r; simp only [IX]; split <;> simp; omega
theorem IX_drop {cs : List Int32} {i : Nat} (hi : i < cs.length) : IX (cs.drop i) = if cs.getD i 0 = 46 then 0 else IX (cs.drop (i + 1)) + 1 := by
  rw [List.drop_eq_getElem_cons hi, IX]; simp [List.getD_eq_getElem?_getD, hi]
theorem own_n32 {n : Nat} (h : n ≤ 4000) : (Int32.ofNat n).toInt = n := Int32.toInt_ofNat_small (by omega)
theorem own_lt {a b : Nat} (ha : a ≤ 4000) (hb : b ≤ 4000) : Int32.ofNat a < Int32.ofNat b ↔ a < b := by rw [Int32.lt_iff_toInt_lt, own_n32 ha, own_n32 hb]; omega
theorem own_eq {a b : Nat} (ha : a ≤ 4000) (hb : b ≤ 4000) : Int32.ofNat a = Int32.ofNat b ↔ a = b := by rw [← Int32.toInt_inj, own_n32 ha, own_n32 hb]; omega
theorem own_nn {a : Nat} (ha : a ≤ 4000) : ¬ Int32.ofNat a < 0 := by rw [Int32.lt_iff_toInt_lt, own_n32 ha]; simp
theorem own_clamp {a : Nat} (ha : a ≤ 4000) : (Int32.ofNat a).toNatClampNeg = a := by rw [Int32.toNatClampNeg, own_n32 ha]; rfl
theorem own_sub {a b : Nat} (hb : b ≤ 4000) (ha : a ≤ 4000) : (Int32.ofNat a - Int32.ofNat b).toInt = (a : Int) - b := by
  rw [Int32.toInt_sub, own_n32 ha, own_n32 hb, Int.bmod_eq_of_le] <;> omega
/-- a byte that is 46 is a char that is 46 -/
theorem own_by46 {c : Int32} (h : ¬ c < 0 ∧ ¬ (255 : Int32) < c) : c.toInt8.toInt32 = 46 ↔ c = 46 := by
  rw [Int32.lt_iff_toInt_lt, Int32.lt_iff_toInt_lt] at h
  have z : (0 : Int32).toInt = 0 := rfl
  have y : (255 : Int32).toInt = 255 := rfl
  have e : c.toInt8.toInt32.toInt = c.toInt.bmod 256 := by simp [Int32.toInt_toInt8]
  rw [← Int32.toInt_inj, ← Int32.toInt_inj, e]
  have x : (46 : Int32).toInt = 46 := rfl
  rw [x]; simp only [Int.bmod_def]; omega
theorem own_at {cs : List Int32} {i : Nat} (hi : i < cs.length) : (cs.map fun c => Value.int (c.toInt8.toInt32)).getD i (.int 0) = .int ((cs.getD i 0).toInt8.toInt32) := by
  simp [List.getD_eq_getElem?_getD, hi]
theorem own_mem {cs : List Int32} {i : Nat} (hi : i < cs.length) : cs.getD i 0 ∈ cs := by
  simp [List.getD_eq_getElem?_getD, hi]
def MM (Z : State) (C : String) : Prop := ∃ (c : ClassId) (k : Class) (a : Addr), Z.vm.findClass C = some c ∧ Z.vm.classes[c]? = some k ∧ k.mirror = some a
theorem own_mirT {Z s : State} {C : String} (hal : Z.vm.Alike s.vm) (h : MM Z C) (args : Array Value) : ∃ a : Addr, (Term.mirror C).eval args s none [] s = some (.ref a) := by
  obtain ⟨c, k, a, h1, h2, h3⟩ := h
  obtain ⟨k', q, he⟩ := hal.2.2 _ _ h2
  have e : k'.mirror = some a := by rw [he]; exact h3
  exact ⟨a, by simp [Term.eval, hal.findClass, h1, q, e]⟩
theorem own_mirC {Z s : State} {C : String} (hal : Z.vm.Alike s.vm) (h : MM Z C) {cB : ClassId} {kB : Class} (hf : s.vm.findClass C = some cB) (hk : s.vm.classes[cB]? = some kB) : ∃ a : Addr, kB.mirror = some a := by
  obtain ⟨c, k, a, h1, h2, h3⟩ := h
  obtain ⟨k', q, he⟩ := hal.2.2 _ _ h2
  rw [hal.findClass, h1] at hf
  cases hf
  rw [q] at hk
  cases hk
  exact ⟨a, by rw [he]; exact h3⟩
/-- one past the last place of ch below j, or 0 -/
def LJ (ch : Int32) (cs : List Int32) : Nat → Nat
  | 0 => 0
  | j + 1 => if cs.getD j 0 = ch then j + 1 else LJ ch cs j
theorem LJ_le (ch : Int32) (cs : List Int32) : ∀ n, LJ ch cs n ≤ n
  | 0 => Nat.le_refl _
  | j + 1 => by
    rw [LJ]; split
    · exact Nat.le_refl _
    · exact Nat.le_succ_of_le (LJ_le ch cs j)
theorem LJ_no (ch : Int32) (cs : List Int32) : ∀ n i, LJ ch cs n ≤ i → i < n → cs.getD i 0 ≠ ch
  | 0, i, _, hi => by omega
  | j + 1, i, h, hi => by
    rw [LJ] at h
    by_cases q : cs.getD j 0 = ch
    · rw [if_pos q] at h; omega
    · rw [if_neg q] at h
      by_cases e : i = j
      · subst e; exact q
      · exact LJ_no ch cs j i h (by omega)
theorem LJ_at (ch : Int32) (cs : List Int32) : ∀ n, LJ ch cs n = 0 ∨ cs.getD (LJ ch cs n - 1) 0 = ch
  | 0 => Or.inl rfl
  | j + 1 => by
    rw [LJ]
    by_cases q : cs.getD j 0 = ch
    · rw [if_pos q]; exact Or.inr q
    · rw [if_neg q]; exact LJ_at ch cs j
def SNM (cs : List Int32) : List Int32 := (cs.drop (LJ 46 cs cs.length)).drop (LJ 36 (cs.drop (LJ 46 cs cs.length)) (cs.drop (LJ 46 cs cs.length)).length)
theorem own_dropD (cs : List Int32) (a i : Nat) : (cs.drop a).getD i 0 = cs.getD (a + i) 0 := by simp [List.getD_eq_getElem?_getD, List.getElem?_drop]
theorem own_snm {cs : List Int32} {j : Nat} (hj : j ≤ cs.length) (hno : ∀ i, j ≤ i → i < cs.length → cs.getD i 0 ≠ 46 ∧ cs.getD i 0 ≠ 36) (hat : j = 0 ∨ cs.getD (j - 1) 0 = 46 ∨ cs.getD (j - 1) 0 = 36) : SNM cs = cs.drop j := by
  unfold SNM
  have a1 := LJ_le 46 cs cs.length
  have a2 := LJ_no 46 cs cs.length
  have a3 := LJ_at 46 cs cs.length
  generalize LJ 46 cs cs.length = a at a1 a2 a3 ⊢
  have b1 := LJ_le 36 (cs.drop a) (cs.drop a).length
  have b2 := LJ_no 36 (cs.drop a) (cs.drop a).length
  have b3 := LJ_at 36 (cs.drop a) (cs.drop a).length
  generalize LJ 36 (cs.drop a) (cs.drop a).length = b at b1 b2 b3 ⊢
  rw [List.length_drop] at b1 b2
  simp only [own_dropD] at b2 b3
  rw [List.drop_drop]
  have e : a + b = j := by
    have h1 : a + b ≤ j := by
      apply Nat.le_of_not_lt; intro h
      rcases b3 with b3 | b3
      · subst b3
        rcases a3 with a3 | a3
        · omega
        · exact (hno (a - 1) (by omega) (by omega)).1 a3
      · by_cases hb : b = 0
        · subst hb
          rcases a3 with a3 | a3
          · omega
          · exact (hno (a - 1) (by omega) (by omega)).1 a3
        · rw [show a + (b - 1) = a + b - 1 by omega] at b3
          exact (hno (a + b - 1) (by omega) (by omega)).2 b3
    have h2 : j ≤ a + b := by
      apply Nat.le_of_not_lt; intro h
      rcases hat with hat | hat | hat
      · omega
      · exact a2 (j - 1) (by omega) (by omega) hat
      · refine b2 (j - 1 - a) (by omega) (by omega) ?_
        rw [show a + (j - 1 - a) = j - 1 by omega]; exact hat
    omega
  rw [e]
abbrev SEP (z : Int32) : Prop := z = 46 ∨ z = 36
def IV (cs : List Int32) (k j : Nat) : Prop := j ≤ k ∧ j ≤ cs.length ∧ (∀ i, j ≤ i → i < k → i < cs.length → ¬ SEP (cs.getD i 0)) ∧ (j = 0 ∨ SEP (cs.getD (j - 1) 0))
theorem IV0 (cs : List Int32) : IV cs 0 0 := ⟨Nat.le_refl _, Nat.zero_le _, fun i _ h => absurd h (Nat.not_lt_zero _), Or.inl rfl⟩
theorem IV_skip {cs : List Int32} {k j : Nat} (h : cs.length ≤ k) (H : IV cs k j) : IV cs (k + 1) j := ⟨Nat.le_succ_of_le H.1, H.2.1, fun i h1 h2 h3 => H.2.2.1 i h1 (by omega) h3, H.2.2.2⟩
theorem IV_no {cs : List Int32} {k j : Nat} (h : ¬ SEP (cs.getD k 0)) (H : IV cs k j) : IV cs (k + 1) j := ⟨Nat.le_succ_of_le H.1, H.2.1, fun i h1 h2 h3 => by
  by_cases e : i = k
  · subst e; exact h
  · exact H.2.2.1 i h1 (by omega) h3, H.2.2.2⟩
theorem IV_yes {cs : List Int32} {k : Nat} (hk : k < cs.length) (h : SEP (cs.getD k 0)) : IV cs (k + 1) (k + 1) := ⟨Nat.le_refl _, hk, fun i h1 h2 => absurd h1 (by omega), Or.inr h⟩
theorem IV_snm {cs : List Int32} {j : Nat} (h : cs.length ≤ 5) (H : IV cs 5 j) : SNM cs = cs.drop j := own_snm H.2.1 (fun i h1 h2 => ⟨fun q => H.2.2.1 i h1 (by omega) h2 (Or.inl q), fun q => H.2.2.1 i h1 (by omega) h2 (Or.inr q)⟩) H.2.2.2
theorem own_mm {k j : Nat} (hk : k ≤ 5) (hj : j ≤ k) : Int32.ofNat k - 1 - (Int32.ofNat j - 1) = Int32.ofNat (k - j) := by
  have := (by decide : ∀ k : Fin 6, ∀ j : Fin 6, j.val ≤ k.val → Int32.ofNat k.val - 1 - (Int32.ofNat j.val - 1) = Int32.ofNat (k.val - j.val)) ⟨k, by omega⟩ ⟨j, by omega⟩ hj
  exact this
theorem own_subN {k n : Nat} (hk : k ≤ n) (hn : n ≤ 5) : Int32.ofNat n - Int32.ofNat k = Int32.ofNat (n - k) := by
  have := (by decide : ∀ n : Fin 6, ∀ k : Fin 6, k.val ≤ n.val → Int32.ofNat n.val - Int32.ofNat k.val = Int32.ofNat (n.val - k.val)) ⟨n, by omega⟩ ⟨k, by omega⟩ hk
  exact this
theorem own_addN {k n : Nat} (hk : k ≤ n) : Int32.ofNat k + Int32.ofNat (n - k) = Int32.ofNat n := by rw [← Int32.ofNat_add]; congr 1; omega
theorem own_byEq {x y : Int32} (h : ¬ x < 0 ∧ ¬ (255 : Int32) < x) (g : ¬ y < 0 ∧ ¬ (255 : Int32) < y) : x.toInt8.toInt32 = y.toInt8.toInt32 ↔ x = y := by
  rw [Int32.lt_iff_toInt_lt, Int32.lt_iff_toInt_lt] at h g
  have z : (0 : Int32).toInt = 0 := rfl
  have w : (255 : Int32).toInt = 255 := rfl
  have e : ∀ u : Int32, u.toInt8.toInt32.toInt = u.toInt.bmod 256 := fun u => by simp [Int32.toInt_toInt8]
  rw [← Int32.toInt_inj, ← Int32.toInt_inj, e, e]
  simp only [Int.bmod_def]; omega
theorem own_minS (x : Int32) : (if x < x then x else x) = x := by split <;> rfl
theorem own_cat0 {us : List Value} {dv : Value} {d k : Nat} (h1 : d = 0) (h2 : k = us.length) : (([] : List Value) ++ List.replicate k dv).take d ++ us ++ (([] : List Value) ++ List.replicate k dv).drop (d + k) = us := by
  subst h1; rw [List.take_zero, List.drop_eq_nil_of_le (by simp), List.append_nil]; rfl
theorem own_rngD {cs : List Int32} {k n : Nat} {a b : Nat} (ha : a = n) (hb : b = k) (hn : n = cs.length - k) : ((cs.drop k).map fun c => Value.int (c.toInt8.toInt32)) = (List.range a).map fun i => (cs.map fun c => Value.int (c.toInt8.toInt32)).getD (b + i) (.int (0 : Int32)) := by
  subst ha hb hn
  apply List.ext_getElem
  · simp
  · intro i h1 h2; simp at h1 h2; simp [List.getD_eq_getElem?_getD, h1]; rw [List.getElem?_eq_getElem (by omega)]; simp
theorem own_atI {cs : List Int32} {i : Nat} {j : Int32} (hj : j.toNatClampNeg = i) (hi : i < cs.length) : (cs.map Value.int).getD j.toNatClampNeg (.int (0 : Int32)) = .int (cs.getD i 0) := by
  rw [hj]; simp [List.getD_eq_getElem?_getD, hi]
theorem own_n31 (x : Int32) : ∃ k : Nat, k < 6 ∧ (x &&& 2147483647) % 6 = Int32.ofNat k := by
  have e2 : (x.toBitVec &&& 2147483647#32).toNat < 2147483648 := by
    rw [BitVec.toNat_and]; exact Nat.lt_of_le_of_lt Nat.and_le_right (by decide)
  have e1 : (x &&& 2147483647).toInt = (x.toBitVec &&& 2147483647#32).toNat := by
    show (x.toBitVec &&& 2147483647#32).toInt = _
    rw [BitVec.toInt_eq_toNat_of_lt]; omega
  refine ⟨(x.toBitVec &&& 2147483647#32).toNat % 6, Nat.mod_lt _ (by decide), Int32.toInt_inj.mp ?_⟩
  rw [Int32.toInt_mod, e1, Int32.toInt_ofNat_small (by omega)]
  rfl
theorem own_mod6 (x : Int32) : (x &&& 2147483647) % 6 = 0 ∨ (x &&& 2147483647) % 6 = 1 ∨ (x &&& 2147483647) % 6 = 2 ∨ (x &&& 2147483647) % 6 = 3 ∨ (x &&& 2147483647) % 6 = 4 ∨ (x &&& 2147483647) % 6 = 5 := by
  obtain ⟨k, hk, e⟩ := own_n31 x
  rw [e]
  exact (by decide : ∀ n : Fin 6, Int32.ofNat n.val = 0 ∨ Int32.ofNat n.val = 1 ∨ Int32.ofNat n.val = 2 ∨ Int32.ofNat n.val = 3 ∨ Int32.ofNat n.val = 4 ∨ Int32.ofNat n.val = 5) ⟨k, hk⟩
theorem own_mod6' (x : Int32) (h : ¬ (x &&& 2147483647) % 6 = 0) : (x &&& 2147483647) % 6 = 1 ∨ (x &&& 2147483647) % 6 = 2 ∨ (x &&& 2147483647) % 6 = 3 ∨ (x &&& 2147483647) % 6 = 4 ∨ (x &&& 2147483647) % 6 = 5 := (own_mod6 x).resolve_left h
theorem own_if0 {A : Prop} [Decidable A] (h : (if A then (1 : Int32) else 0) = 0) : ¬ A := fun q => by rw [if_pos q] at h; exact absurd h (by decide)
theorem own_if1 {A : Prop} [Decidable A] (h : ¬ (if A then (1 : Int32) else 0) = 0) : A := Decidable.byContradiction fun q => h (if_neg q)
theorem own_ch3 (y : Int32) : (¬ nar .char ((y &&& 255).toUInt32.toUInt16.toUInt32.toInt32) < 0 ∧ ¬ (255 : Int32) < nar .char ((y &&& 255).toUInt32.toUInt16.toUInt32.toInt32)) ∧ nar .char (nar .char ((y &&& 255).toUInt32.toUInt16.toUInt32.toInt32)) = nar .char ((y &&& 255).toUInt32.toUInt16.toUInt32.toInt32) := by
  rw [i2c_mask, own_nar8]; exact ⟨own_and255 _, own_nar8 _⟩
theorem d_jdk_42_method_149_0 : decode jdk_42_method_149_code 0 = .ok (.aload_n 0, 1) := by decide +kernel
theorem d_jdk_42_method_149_1 : decode jdk_42_method_149_code 1 = .ok (.invokespecial 1, 3) := by decide +kernel
theorem d_jdk_42_method_149_4 : decode jdk_42_method_149_code 4 = .ok (.iload_n 3, 1) := by decide +kernel
theorem d_jdk_42_method_149_5 : decode jdk_42_method_149_code 5 = .ok (.ifCond .ne 22, 3) := by decide +kernel
theorem d_jdk_42_method_149_8 : decode jdk_42_method_149_code 8 = .ok (.aload_n 0, 1) := by decide +kernel
theorem d_jdk_42_method_149_9 : decode jdk_42_method_149_code 9 = .ok (.ldc 7, 2) := by decide +kernel
theorem d_jdk_42_method_149_11 : decode jdk_42_method_149_code 11 = .ok (.getfield 9, 3) := by decide +kernel
theorem d_jdk_42_method_149_14 : decode jdk_42_method_149_code 14 = .ok (.putfield 9, 3) := by decide +kernel
theorem d_jdk_42_method_149_17 : decode jdk_42_method_149_code 17 = .ok (.aload_n 0, 1) := by decide +kernel
theorem d_jdk_42_method_149_18 : decode jdk_42_method_149_code 18 = .ok (.ldc 7, 2) := by decide +kernel
theorem d_jdk_42_method_149_20 : decode jdk_42_method_149_code 20 = .ok (.getfield 15, 3) := by decide +kernel
theorem d_jdk_42_method_149_23 : decode jdk_42_method_149_code 23 = .ok (.putfield 15, 3) := by decide +kernel
theorem d_jdk_42_method_149_26 : decode jdk_42_method_149_code 26 = .ok (.return_, 1) := by decide +kernel
theorem pn_0 : plainName "java/lang/String" = true := by first | (simp [plainName, overriddenIn]; done) | decide +kernel
theorem ef_init4e (m : MethodId) (a1 : Addr) (a2 : Addr) : entryFrame m #[(.ref a1), (.ref a2), (.int (0 : Int32)), (.int (0 : Int32)), .null] 6 = mkF m 0 #[.val (.ref a1), .val (.ref a2), .val (.int (0 : Int32)), .val (.int (0 : Int32)), .val .null, .unset] [] := by first | (simp [entryFrame, mkF, argsToLocals, Value.category, maxLocals]; done) | rfl
def Q_init4e (Z : State) (a1 : Addr) (a2 : Addr) (h0 : Heap) (n0 : Nat) (v : Option Value) (h : Heap) (L : List Loc) : Prop := ∃ t : Addr, ∃ kt : ClassId, (v = none) ∧ (Fr n0 L) ∧ (Keep h0 h [a1]) ∧ (Exa Z h a1 "java/lang/String") ∧ (Fld Z h a1 "java/lang/String" "coder" "B" (.int (0 : Int32))) ∧ (Fld Z h a1 "java/lang/String" "value" "[B" (.ref t)) ∧ (Arv Z h t kt .byte (0 : Int32) [] (.int 0))
set_option maxRecDepth 65536 in
set_option maxHeartbeats 40000000 in
theorem rm_init4e (l : Launch) (Z : State) (a0 : Array Value) (hw : ∀ d ∈ tables_1, d.before a0 Z = true) (ws : List Jvm.Cond) (hEL : EW Z a0 EL) (a1 : Addr) (a2 : Addr) (h0 : Heap) (n0 : Nat) (O0 : Old Z n0 h0)  (E_a1 : Exa Z h0 a1 "java/lang/String") (F_a1_value : Fld Z h0 a1 "java/lang/String" "value" "[B" .null) (F_a1_coder : Fld Z h0 a1 "java/lang/String" "coder" "B" (.int (0 : Int32))) (g_a1 : n0 ≤ a1) :
    MetFree l (⟨"java/lang/String", "<init>", "([CIILjava/lang/Void;)V"⟩ : MethodName) (head1 ((Jvm.Cond.code (⟨"java/lang/String", "<init>", "([CIILjava/lang/Void;)V"⟩ : MethodName) jdk_42_method_149_code 6 none) :: ws) ({ frames := 1, cells := 4, slots := 8, locals := 12 } : Room)) (fun a U => a = #[(.ref a1), (.ref a2), (.int (0 : Int32)), (.int (0 : Int32)), .null] ∧ Z.Warmed39 U.vm ∧ U.heap = h0 ∧ CHv Z EL U.vm h0) (fun _ _ _ _ _ => True) (fun _ U o U' => ∃ v L, o = .returned v ∧ Q_init4e Z a1 a2 h0 n0 v U'.heap L ∧ CHr Z EL U.vm U.heap U'.vm U'.heap ∧ ReturnedEndW U o U' L ({ frames := 1, cells := 4, slots := 8, locals := 12 } : Room).cells ({ frames := 1, cells := 4, slots := 8, locals := 12 } : Room).slots) := by
  refine MetFree.of_bodySF (plainFor_of_name pn_0) hisR ?_
  intro p e s m args below meth c s₁ Bd hml0 hP hK
  obtain ⟨rfl, hZ, hh, hCH⟩ := hP
  have hx := Bd.exec
  have hby := Bd.bytes
  have hml : c.maxLocals = 6 := hml0
  have hown : (s.setVm s.vm).vm.findClass "java/lang/String" = some m.cls := (findClass_of_methodNamed Bd.named :)
  have hnm := (name_of_methodNamed Bd.named Bd.method).1
  have X0 : Stand p l e ({ frames := 1, cells := 4, slots := 8, locals := 12 } : Room) (s.setVm s.vm) m #[(.ref a1), (.ref a2), (.int (0 : Int32)), (.int (0 : Int32)), .null] below meth c s₁ [] 0 0 := Stand.of_body Bd
  have e0 : s₁.heap = h0 := by rw [← hh, Bd.state]; rfl
  have N0 := Fr.nil n0
  have K0 : Keep h0 h0 [a1] := Keep.refl _ _
  have C0 : CHr Z EL s.vm h0 s.vm h0 := CHr.refl hCH
  have hS0 : s.Since s.vm h0.size := own_since0 s _
  have hk0 : h0.size ≤ h0.size := Nat.le_refl _
  suffices hG : Goes p e below (fun o U' => ∃ v L, o = .returned v ∧ Q_init4e Z a1 a2 h0 n0 v U'.heap L ∧ CHr Z EL s.vm s.heap U'.vm U'.heap ∧ ReturnedEndW s o U' L ({ frames := 1, cells := 4, slots := 8, locals := 12 } : Room).cells ({ frames := 1, cells := 4, slots := 8, locals := 12 } : Room).slots) s₁ (mkF m 0 #[.val (.ref a1), .val (.ref a2), .val (.int (0 : Int32)), .val (.int (0 : Int32)), .val .null, .unset] []) by
    obtain ⟨t, o, h1, h2⟩ := hG; exact ⟨t, o, castTop (ef_init4e m a1 a2) h1, h2⟩
  have S_a1 : Safe Z EL s.vm h0 a1 := own_safeNull hZ.alike E_a1 F_a1_value
  refine Goes.step (T' := s₁) (g' := (mkF m 1 #[.val (.ref a1), .val (.ref a2), .val (.int (0 : Int32)), .val (.int (0 : Int32)), .val .null, .unset] [(.ref a1)])) (fun _ kz => XS.aloadN X0.here hx rfl (hb hby d_jdk_42_method_149_0) rfl rfl kz) ?_
  obtain ⟨T1, X1, e1, st1⟩ := initO X0 hx hZ hown (hw _ (List.mem_of_getElem? (i := 19) rfl)) (hw _ (List.mem_of_getElem? (i := 20) rfl)) (hw _ (List.mem_of_getElem? (i := 21) rfl)) e0 (g := (mkF m 1 #[.val (.ref a1), .val (.ref a2), .val (.int (0 : Int32)), .val (.int (0 : Int32)), .val .null, .unset] [(.ref a1)])) rfl (by rw [hml]; rfl) rfl (hb hby d_jdk_42_method_149_1) (by decide) (W := 0) (by show 2 * 0 + _ ≤ _; exact Nat.le_of_eq rfl) (by decide)
  refine Goes.step (T' := T1) (g' := (mkF m 4 #[.val (.ref a1), .val (.ref a2), .val (.int (0 : Int32)), .val (.int (0 : Int32)), .val .null, .unset] [])) st1 ?_
  refine Goes.step (T' := T1) (g' := (mkF m 5 #[.val (.ref a1), .val (.ref a2), .val (.int (0 : Int32)), .val (.int (0 : Int32)), .val .null, .unset] [(.int (0 : Int32))])) (fun _ kz => XS.iloadN X1.here hx rfl (hb hby d_jdk_42_method_149_4) rfl  kz) ?_
  refine Goes.step (T' := T1) (g' := (mkF m 8 #[.val (.ref a1), .val (.ref a2), .val (.int (0 : Int32)), .val (.int (0 : Int32)), .val .null, .unset] [])) (fun _ kz => XS.ifNo X1.here hx rfl (hb hby d_jdk_42_method_149_5) rfl ((if0 _ _).trans (teq (by decide : ((0 : Int32) = (0 : Int32)))).2) kz) ?_
  refine Goes.step (T' := T1) (g' := (mkF m 9 #[.val (.ref a1), .val (.ref a2), .val (.int (0 : Int32)), .val (.int (0 : Int32)), .val .null, .unset] [(.ref a1)])) (fun _ kz => XS.aloadN X1.here hx rfl (hb hby d_jdk_42_method_149_8) rfl rfl kz) ?_
  obtain ⟨ca2, T2, h2, k2, ct2, kc2, X2, e2, Ex2, hS2, hk2, hZ2, hown2, E_ca2, F_ca2_coder, F_ca2_value, V_ct2, la2, lt2, C2, Lit2, hne2, st2⟩ := ldcCH X1 hx hZ hown (hw _ (List.mem_of_getElem? (i := 191) rfl)) (own_wS hw) e1 hS0 hk0 hEL (by simp [EL, consts_1]) C0.1 (vs := []) (z := 0) (by decide) (by decide) (by decide) (g := (mkF m 9 #[.val (.ref a1), .val (.ref a2), .val (.int (0 : Int32)), .val (.int (0 : Int32)), .val .null, .unset] [(.ref a1)])) rfl (hb hby d_jdk_42_method_149_9) (n := 0) (by decide) (by decide) (by decide) (by decide)
  replace S_a1 := C2.safe E_a1.lt S_a1
  replace C0 := C0.trans C2
  replace E_a1 := E_a1.ext Ex2
  replace F_a1_value := F_a1_value.ext Ex2
  replace F_a1_coder := F_a1_coder.ext Ex2
  replace O0 := O0.ext Ex2
  replace K0 := K0.ext Ex2
  clear hS0 hk0 hZ hown
  have hS0 := hS2
  have hk0 := hk2
  have hZ := hZ2
  have hown := hown2
  have ne_a1_ca2 := (hne2 _ S_a1).1
  have ne_a1_ct2 := (hne2 _ S_a1).2
  refine Goes.step (T' := T2) (g' := (mkF m 11 #[.val (.ref a1), .val (.ref a2), .val (.int (0 : Int32)), .val (.int (0 : Int32)), .val .null, .unset] [(.ref ca2), (.ref a1)])) st2 ?_
  obtain ⟨T3, X3, e3, st3⟩ := getF X2 hx hZ hown (host := "") (Or.inl (hw _ (List.mem_of_getElem? (i := 36) rfl))) Via.refl e2 F_ca2_value (g := (mkF m 11 #[.val (.ref a1), .val (.ref a2), .val (.int (0 : Int32)), .val (.int (0 : Int32)), .val .null, .unset] [(.ref ca2), (.ref a1)])) rfl rfl (hb hby d_jdk_42_method_149_11)
  refine Goes.step (T' := T3) (g' := (mkF m 14 #[.val (.ref a1), .val (.ref a2), .val (.int (0 : Int32)), .val (.int (0 : Int32)), .val .null, .unset] [(.ref ct2), (.ref a1)])) st3 ?_
  obtain ⟨T4, h4, X4, e4, W4, st4⟩ := putF X3 hx hZ hown (host := "") (Or.inl (hw _ (List.mem_of_getElem? (i := 36) rfl))) Via.refl e3 F_a1_value E_a1 (Or.inr ⟨(hw _ (List.mem_of_getElem? (i := 37) rfl)), rfl, hnm⟩) (hw _ (List.mem_of_getElem? (i := 10) rfl)) (ty := (.array .byte)) (by decide) rfl rfl (g := (mkF m 14 #[.val (.ref a1), .val (.ref a2), .val (.int (0 : Int32)), .val (.int (0 : Int32)), .val .null, .unset] [(.ref ct2), (.ref a1)])) rfl rfl (hb hby d_jdk_42_method_149_14)
  replace N0 := Fr.snoc X4 N0 g_a1
  have Sw : Safe Z EL T2.vm h2 a1 := S_a1
  replace S_a1 := Safe.wr W4 Sw C0.1 S_a1
  replace C0 := C0.trans (CHr.wr W4 Sw C0.1)
  replace hk0 := Nat.le_trans hk0 (Nat.le_of_eq W4.size.symm)
  replace E_a1 := E_a1.wr W4
  replace F_a1_value := F_a1_value.same W4
  replace F_a1_coder := F_a1_coder.other W4 (Or.inr (slot_ne (Or.inr (hw _ (List.mem_of_getElem? (i := 35) rfl))) (Or.inr (hw _ (List.mem_of_getElem? (i := 37) rfl))) (by decide) (t := .byte) (t' := (.array .byte)) (by decide) (by decide)))
  replace E_ca2 := E_ca2.wr W4
  replace F_ca2_coder := F_ca2_coder.other W4 (Or.inl (Ne.symm ne_a1_ca2))
  replace F_ca2_value := F_ca2_value.other W4 (Or.inl (Ne.symm ne_a1_ca2))
  replace V_ct2 := V_ct2.other W4 (Ne.symm ne_a1_ct2)
  replace O0 := O0.wr W4 g_a1
  replace K0 := K0.wr W4 (Or.inl (List.mem_of_getElem? (i := 0) rfl))
  refine Goes.step (T' := T4) (g' := (mkF m 17 #[.val (.ref a1), .val (.ref a2), .val (.int (0 : Int32)), .val (.int (0 : Int32)), .val .null, .unset] [])) st4 ?_
  refine Goes.step (T' := T4) (g' := (mkF m 18 #[.val (.ref a1), .val (.ref a2), .val (.int (0 : Int32)), .val (.int (0 : Int32)), .val .null, .unset] [(.ref a1)])) (fun _ kz => XS.aloadN X4.here hx rfl (hb hby d_jdk_42_method_149_17) rfl rfl kz) ?_
  obtain ⟨ca5, T5, h5, k5, ct5, kc5, X5, e5, Ex5, hS5, hk5, hZ5, hown5, E_ca5, F_ca5_coder, F_ca5_value, V_ct5, la5, lt5, C5, Lit5, hne5, st5⟩ := ldcCH X4 hx hZ hown (hw _ (List.mem_of_getElem? (i := 191) rfl)) (own_wS hw) e4 hS0 hk0 hEL (by simp [EL, consts_1]) C0.1 (vs := []) (z := 0) (by decide) (by decide) (by decide) (g := (mkF m 18 #[.val (.ref a1), .val (.ref a2), .val (.int (0 : Int32)), .val (.int (0 : Int32)), .val .null, .unset] [(.ref a1)])) rfl (hb hby d_jdk_42_method_149_18) (n := 0) (by decide) (by decide) (by decide) (by decide)
  replace S_a1 := C5.safe E_a1.lt S_a1
  replace C0 := C0.trans C5
  replace E_a1 := E_a1.ext Ex5
  replace F_a1_value := F_a1_value.ext Ex5
  replace F_a1_coder := F_a1_coder.ext Ex5
  replace E_ca2 := E_ca2.ext Ex5
  replace F_ca2_coder := F_ca2_coder.ext Ex5
  replace F_ca2_value := F_ca2_value.ext Ex5
  replace V_ct2 := V_ct2.ext Ex5
  replace O0 := O0.ext Ex5
  replace K0 := K0.ext Ex5
  clear hS0 hk0 hZ hown
  have hS0 := hS5
  have hk0 := hk5
  have hZ := hZ5
  have hown := hown5
  have ne_a1_ca5 := (hne5 _ S_a1).1
  have ne_a1_ct5 := (hne5 _ S_a1).2
  refine Goes.step (T' := T5) (g' := (mkF m 20 #[.val (.ref a1), .val (.ref a2), .val (.int (0 : Int32)), .val (.int (0 : Int32)), .val .null, .unset] [(.ref ca5), (.ref a1)])) st5 ?_
  obtain ⟨T6, X6, e6, st6⟩ := getF X5 hx hZ hown (host := "") (Or.inl (hw _ (List.mem_of_getElem? (i := 34) rfl))) Via.refl e5 F_ca5_coder (g := (mkF m 20 #[.val (.ref a1), .val (.ref a2), .val (.int (0 : Int32)), .val (.int (0 : Int32)), .val .null, .unset] [(.ref ca5), (.ref a1)])) rfl rfl (hb hby d_jdk_42_method_149_20)
  refine Goes.step (T' := T6) (g' := (mkF m 23 #[.val (.ref a1), .val (.ref a2), .val (.int (0 : Int32)), .val (.int (0 : Int32)), .val .null, .unset] [(.int (0 : Int32)), (.ref a1)])) st6 ?_
  obtain ⟨T7, h7, X7, e7, W7, st7⟩ := putF X6 hx hZ hown (host := "") (Or.inl (hw _ (List.mem_of_getElem? (i := 34) rfl))) Via.refl e6 F_a1_coder E_a1 (Or.inr ⟨(hw _ (List.mem_of_getElem? (i := 35) rfl)), rfl, hnm⟩) (hw _ (List.mem_of_getElem? (i := 10) rfl)) (ty := .byte) (by decide) rfl rfl (g := (mkF m 23 #[.val (.ref a1), .val (.ref a2), .val (.int (0 : Int32)), .val (.int (0 : Int32)), .val .null, .unset] [(.int (0 : Int32)), (.ref a1)])) rfl rfl (hb hby d_jdk_42_method_149_23)
  replace N0 := Fr.snoc X7 N0 g_a1
  have Sw : Safe Z EL T5.vm h5 a1 := S_a1
  replace S_a1 := Safe.wr W7 Sw C0.1 S_a1
  replace C0 := C0.trans (CHr.wr W7 Sw C0.1)
  replace hk0 := Nat.le_trans hk0 (Nat.le_of_eq W7.size.symm)
  replace E_a1 := E_a1.wr W7
  replace F_a1_value := F_a1_value.other W7 (Or.inr (slot_ne (Or.inr (hw _ (List.mem_of_getElem? (i := 37) rfl))) (Or.inr (hw _ (List.mem_of_getElem? (i := 35) rfl))) (by decide) (t := (.array .byte)) (t' := .byte) (by decide) (by decide)))
  replace F_a1_coder := F_a1_coder.same W7
  replace E_ca2 := E_ca2.wr W7
  replace F_ca2_coder := F_ca2_coder.other W7 (Or.inl (Ne.symm ne_a1_ca2))
  replace F_ca2_value := F_ca2_value.other W7 (Or.inl (Ne.symm ne_a1_ca2))
  replace V_ct2 := V_ct2.other W7 (Ne.symm ne_a1_ct2)
  replace E_ca5 := E_ca5.wr W7
  replace F_ca5_coder := F_ca5_coder.other W7 (Or.inl (Ne.symm ne_a1_ca5))
  replace F_ca5_value := F_ca5_value.other W7 (Or.inl (Ne.symm ne_a1_ca5))
  replace V_ct5 := V_ct5.other W7 (Ne.symm ne_a1_ct5)
  replace O0 := O0.wr W7 g_a1
  replace K0 := K0.wr W7 (Or.inl (List.mem_of_getElem? (i := 0) rfl))
  refine Goes.step (T' := T7) (g' := (mkF m 26 #[.val (.ref a1), .val (.ref a2), .val (.int (0 : Int32)), .val (.int (0 : Int32)), .val .null, .unset] [])) st7 ?_
  obtain ⟨fs, hr, hrun, hended, hend⟩ := X7.leaveW hS0 (by rw [e7]; exact hk0) (v := none) (fun _ => rfl)
  exact ⟨_, _, X7.returnOut hx Bd.returns (hb hby d_jdk_42_method_149_26) hr, hrun, hended, _, _, rfl, (by show Q_init4e Z a1 a2 h0 n0 _ T7.heap _; rw [e7]; exact ⟨ct2, kc2, rfl, N0, K0, E_a1, F_a1_coder, F_a1_value, V_ct2⟩), (by show CHr Z EL s.vm s.heap T7.vm T7.heap; rw [e7, hh]; exact C0.trans (CHv.at X7 hZ hEL C0.1)), own_mono hend (by decide) (by decide)⟩
theorem d_jdk_42_method_3_0 : decode jdk_42_method_3_code 0 = .ok (.aload_n 0, 1) := by decide +kernel
theorem d_jdk_42_method_3_1 : decode jdk_42_method_3_code 1 = .ok (.aload_n 1, 1) := by decide +kernel
theorem d_jdk_42_method_3_2 : decode jdk_42_method_3_code 2 = .ok (.iconst 0, 1) := by decide +kernel
theorem d_jdk_42_method_3_3 : decode jdk_42_method_3_code 3 = .ok (.aload_n 1, 1) := by decide +kernel
theorem d_jdk_42_method_3_4 : decode jdk_42_method_3_code 4 = .ok (.arraylength, 1) := by decide +kernel
theorem d_jdk_42_method_3_5 : decode jdk_42_method_3_code 5 = .ok (.aconst_null, 1) := by decide +kernel
theorem d_jdk_42_method_3_6 : decode jdk_42_method_3_code 6 = .ok (.invokespecial 27, 3) := by decide +kernel
theorem pd_0 : parseMethodDescriptor "([CIILjava/lang/Void;)V" = some ⟨[(.array .char), .int, .int, (.object "java/lang/Void")], none⟩ := by decide +kernel
theorem d_jdk_42_method_3_9 : decode jdk_42_method_3_code 9 = .ok (.return_, 1) := by decide +kernel
theorem ef_initCe (m : MethodId) (a1 : Addr) (a2 : Addr) : entryFrame m #[(.ref a1), (.ref a2)] 2 = mkF m 0 #[.val (.ref a1), .val (.ref a2)] [] := by first | (simp [entryFrame, mkF, argsToLocals, Value.category, maxLocals]; done) | rfl
def Q_initCe (Z : State) (a1 : Addr) (a2 : Addr) (kc : ClassId) (dv : Value) (h0 : Heap) (n0 : Nat) (v : Option Value) (h : Heap) (L : List Loc) : Prop := ∃ t : Addr, ∃ kt : ClassId, (v = none) ∧ (Fr n0 L) ∧ (Keep h0 h [a1]) ∧ (Exa Z h a1 "java/lang/String") ∧ (Fld Z h a1 "java/lang/String" "coder" "B" (.int (0 : Int32))) ∧ (Fld Z h a1 "java/lang/String" "value" "[B" (.ref t)) ∧ (Arv Z h t kt .byte (0 : Int32) [] (.int 0))
set_option maxRecDepth 65536 in
set_option maxHeartbeats 40000000 in
theorem rm_initCe (l : Launch) (Z : State) (a0 : Array Value) (hw : ∀ d ∈ tables_1, d.before a0 Z = true) (ws : List Jvm.Cond) (hEL : EW Z a0 EL) (a1 : Addr) (a2 : Addr) (kc : ClassId) (dv : Value) (h0 : Heap) (n0 : Nat) (O0 : Old Z n0 h0)  (E_a1 : Exa Z h0 a1 "java/lang/String") (F_a1_value : Fld Z h0 a1 "java/lang/String" "value" "[B" .null) (F_a1_coder : Fld Z h0 a1 "java/lang/String" "coder" "B" (.int (0 : Int32))) (V_a2 : Arv Z h0 a2 kc .char (0 : Int32) [] dv) (ne_a2_a1 : a2 ≠ a1) (g_a1 : n0 ≤ a1) :
    MetFree l (⟨"java/lang/String", "<init>", "([C)V"⟩ : MethodName) (head1 ((Jvm.Cond.code (⟨"java/lang/String", "<init>", "([C)V"⟩ : MethodName) jdk_42_method_3_code 2 none) :: ws) ({ frames := 2, cells := 4, slots := 8, locals := 29 } : Room)) (fun a U => a = #[(.ref a1), (.ref a2)] ∧ Z.Warmed39 U.vm ∧ U.heap = h0 ∧ CHv Z EL U.vm h0) (fun _ _ _ _ _ => True) (fun _ U o U' => ∃ v L, o = .returned v ∧ Q_initCe Z a1 a2 kc dv h0 n0 v U'.heap L ∧ CHr Z EL U.vm U.heap U'.vm U'.heap ∧ ReturnedEndW U o U' L ({ frames := 2, cells := 4, slots := 8, locals := 29 } : Room).cells ({ frames := 2, cells := 4, slots := 8, locals := 29 } : Room).slots) := by
  refine MetFree.of_bodySF (plainFor_of_name pn_0) hisR ?_
  intro p e s m args below meth c s₁ Bd hml0 hP hK
  obtain ⟨rfl, hZ, hh, hCH⟩ := hP
  have hx := Bd.exec
  have hby := Bd.bytes
  have hml : c.maxLocals = 2 := hml0
  have hown : (s.setVm s.vm).vm.findClass "java/lang/String" = some m.cls := (findClass_of_methodNamed Bd.named :)
  have hnm := (name_of_methodNamed Bd.named Bd.method).1
  have X0 : Stand p l e ({ frames := 2, cells := 4, slots := 8, locals := 29 } : Room) (s.setVm s.vm) m #[(.ref a1), (.ref a2)] below meth c s₁ [] 0 0 := Stand.of_body Bd
  have e0 : s₁.heap = h0 := by rw [← hh, Bd.state]; rfl
  have N0 := Fr.nil n0
  have K0 : Keep h0 h0 [a1] := Keep.refl _ _
  have C0 : CHr Z EL s.vm h0 s.vm h0 := CHr.refl hCH
  have hS0 : s.Since s.vm h0.size := own_since0 s _
  have hk0 : h0.size ≤ h0.size := Nat.le_refl _
  suffices hG : Goes p e below (fun o U' => ∃ v L, o = .returned v ∧ Q_initCe Z a1 a2 kc dv h0 n0 v U'.heap L ∧ CHr Z EL s.vm s.heap U'.vm U'.heap ∧ ReturnedEndW s o U' L ({ frames := 2, cells := 4, slots := 8, locals := 29 } : Room).cells ({ frames := 2, cells := 4, slots := 8, locals := 29 } : Room).slots) s₁ (mkF m 0 #[.val (.ref a1), .val (.ref a2)] []) by
    obtain ⟨t, o, h1, h2⟩ := hG; exact ⟨t, o, castTop (ef_initCe m a1 a2) h1, h2⟩
  refine Goes.step (T' := s₁) (g' := (mkF m 1 #[.val (.ref a1), .val (.ref a2)] [(.ref a1)])) (fun _ kz => XS.aloadN X0.here hx rfl (hb hby d_jdk_42_method_3_0) rfl rfl kz) ?_
  refine Goes.step (T' := s₁) (g' := (mkF m 2 #[.val (.ref a1), .val (.ref a2)] [(.ref a2), (.ref a1)])) (fun _ kz => XS.aloadN X0.here hx rfl (hb hby d_jdk_42_method_3_1) rfl rfl kz) ?_
  refine Goes.step (T' := s₁) (g' := (mkF m 3 #[.val (.ref a1), .val (.ref a2)] [(.int (0 : Int32)), (.ref a2), (.ref a1)])) (fun _ kz => XS.iconst X0.here hx rfl (hb hby d_jdk_42_method_3_2) kz) ?_
  refine Goes.step (T' := s₁) (g' := (mkF m 4 #[.val (.ref a1), .val (.ref a2)] [(.ref a2), (.int (0 : Int32)), (.ref a2), (.ref a1)])) (fun _ kz => XS.aloadN X0.here hx rfl (hb hby d_jdk_42_method_3_3) rfl rfl kz) ?_
  obtain ⟨cl8, Ar8, q8, Sz8, Nn8, Hs8, Gs8⟩ := (id V_a2 : Arv Z h0 a2 kc .char (0 : Int32) [] dv)
  have al8 := X0.arraylength hx (by rw [e0]; exact Ar8.1) (State.isArrayOf_alike hZ.alike Ar8.2.1) (g := (mkF m 4 #[.val (.ref a1), .val (.ref a2)] [(.ref a2), (.int (0 : Int32)), (.ref a2), (.ref a1)])) rfl rfl (hb hby d_jdk_42_method_3_4)
  rw [len_of Sz8 Nn8] at al8
  refine Goes.step (T' := s₁) (g' := (mkF m 5 #[.val (.ref a1), .val (.ref a2)] [(.int (0 : Int32)), (.int (0 : Int32)), (.ref a2), (.ref a1)])) al8 ?_
  refine Goes.step (T' := s₁) (g' := (mkF m 6 #[.val (.ref a1), .val (.ref a2)] [.null, (.int (0 : Int32)), (.int (0 : Int32)), (.ref a2), (.ref a1)])) (fun _ kz => XS.aconstNull X0.here hx rfl (hb hby d_jdk_42_method_3_5) kz) ?_
  obtain ⟨_, _, ⟨T9, L9, k9, n9⟩, -, X9, hS9, hgr9, ⟨Lc9, hQ9, l9, y9, z9, Ch9⟩, st9⟩ := X0.specialBackS hx (y := (⟨"java/lang/String", "<init>", "([CIILjava/lang/Void;)V"⟩ : MethodName)) rfl hown (mvT hZ (hw _ (List.mem_of_getElem? (i := 15) rfl))) (mvT hZ (hw _ (List.mem_of_getElem? (i := 16) rfl))) (mvT hZ (hw _ (List.mem_of_getElem? (i := 18) rfl))) (by decide) (backOfSH (W := 0) (rm_init4e l Z a0 hw [] hEL a1 a2 h0 n0 O0  E_a1 F_a1_value F_a1_coder g_a1) hZ (hw _ (List.mem_of_getElem? (i := 18) rfl)) (hw _ (List.mem_of_getElem? (i := 11) rfl)) (by decide) (by decide) hEL C0.1) (g := (mkF m 6 #[.val (.ref a1), .val (.ref a2)] [.null, (.int (0 : Int32)), (.int (0 : Int32)), (.ref a2), (.ref a1)])) rfl (by rw [hml]; rfl) (Steps.refl _) (a := a1) (argsL := [(.ref a2), (.int (0 : Int32)), (.int (0 : Int32)), .null]) (rest := []) (lenOf pd_0 rfl) rfl (by show 2 * 0 + _ ≤ _; exact Nat.le_of_eq rfl) (hb hby d_jdk_42_method_3_6) (fun _ _ => ⟨rfl, e0, (by decide : 0 + 4 ≤ _), (by decide : 0 + 8 ≤ _)⟩)
  dsimp only [Pt.U, Pt.locs, Pt.cells, Pt.slots] at X9 l9 y9 z9 st9 hQ9 hS9 hgr9 Ch9
  subst l9 y9 z9
  obtain ⟨h9, e9⟩ : ∃ z, T9.heap = z := ⟨_, rfl⟩
  rw [e9] at hQ9 Ch9
  obtain ⟨t_9, kt_9, rfl, Nq9, Kq9, E_a1_q9, F_a1_coder_q9, F_a1_value_q9, V_t_9_q9⟩ := hQ9
  replace N0 := Fr.app N0 Nq9
  replace C0 := C0.trans Ch9
  clear E_a1
  clear F_a1_value
  clear F_a1_coder
  replace V_a2 := V_a2.keep Kq9 (ninS ne_a2_a1 nin0)
  replace O0 := O0.keep Kq9 (allS g_a1 all0)
  replace K0 := K0.trans Kq9 (allS (Or.inl (List.mem_of_getElem? (i := 0) rfl)) all0)
  have E_a1 := E_a1_q9
  have F_a1_coder := F_a1_coder_q9
  have F_a1_value := F_a1_value_q9
  have V_t_9 := V_t_9_q9
  obtain ⟨X9, hS9, hZ9, hown9⟩ := rebS hS0 (by rw [e0]; exact hk0) X9 hS9 hgr9 hZ hown
  rw [e9] at hS9
  clear hS0 hk0 hZ hown
  have hS0 := hS9
  have hk0 : h9.size ≤ h9.size := Nat.le_refl _
  have hZ := hZ9
  have hown := hown9
  refine Goes.run (T' := T9) (g' := (mkF m 9 #[.val (.ref a1), .val (.ref a2)] [])) st9 ?_
  obtain ⟨fs, hr, hrun, hended, hend⟩ := X9.leaveW hS0 (by rw [e9]; exact hk0) (v := none) (fun _ => rfl)
  exact ⟨_, _, X9.returnOut hx Bd.returns (hb hby d_jdk_42_method_3_9) hr, hrun, hended, _, _, rfl, (by show Q_initCe Z a1 a2 kc dv h0 n0 _ T9.heap _; rw [e9]; exact ⟨t_9, kt_9, rfl, N0, K0, E_a1, F_a1_coder, F_a1_value, V_t_9⟩), (by show CHr Z EL s.vm s.heap T9.vm T9.heap; rw [e9, hh]; exact C0.trans (CHv.at X9 hZ hEL C0.1)), own_mono hend (by decide) (by decide)⟩
theorem d_jdk_43_method_4_0 : decode jdk_43_method_4_code 0 = .ok (.iload_n 0, 1) := by decide +kernel
theorem d_jdk_43_method_4_1 : decode jdk_43_method_4_code 1 = .ok (.ifCond .lt 14, 3) := by decide +kernel
theorem d_jdk_43_method_4_4 : decode jdk_43_method_4_code 4 = .ok (.iload_n 0, 1) := by decide +kernel
theorem d_jdk_43_method_4_5 : decode jdk_43_method_4_code 5 = .ok (.sipush 255, 3) := by decide +kernel
theorem d_jdk_43_method_4_8 : decode jdk_43_method_4_code 8 = .ok (.if_icmp .gt 7, 3) := by decide +kernel
theorem d_jdk_43_method_4_11 : decode jdk_43_method_4_code 11 = .ok (.iconst 1, 1) := by decide +kernel
theorem d_jdk_43_method_4_12 : decode jdk_43_method_4_code 12 = .ok (.goto 4, 3) := by decide +kernel
theorem d_jdk_43_method_4_16 : decode jdk_43_method_4_code 16 = .ok (.ireturn, 1) := by decide +kernel
theorem pn_1 : plainName "java/lang/StringLatin1" = true := by first | (simp [plainName, overriddenIn]; done) | decide +kernel
theorem ef_canEncI (m : MethodId) (p1 : Int32) : entryFrame m #[(.int p1)] 1 = mkF m 0 #[.val (.int p1)] [] := by first | (simp [entryFrame, mkF, argsToLocals, Value.category, maxLocals]; done) | rfl
def Q_canEncI (Z : State) (p1 : Int32) (h0 : Heap) (n0 : Nat) (v : Option Value) (h : Heap) (L : List Loc) : Prop := (v = some (.int (1 : Int32))) ∧ (L = []) ∧ (h = h0)
set_option maxRecDepth 65536 in
set_option maxHeartbeats 40000000 in
theorem rm_canEncI (l : Launch) (Z : State) (a0 : Array Value) (hw : ∀ d ∈ tables_1, d.before a0 Z = true) (ws : List Jvm.Cond) (p1 : Int32) (h0 : Heap) (n0 : Nat) (O0 : Old Z n0 h0)  (hc0 : ¬ p1 < (0 : Int32)) (hc1 : ¬ (255 : Int32) < p1) :
    MetFree l (⟨"java/lang/StringLatin1", "canEncode", "(I)Z"⟩ : MethodName) (head1 ((Jvm.Cond.code (⟨"java/lang/StringLatin1", "canEncode", "(I)Z"⟩ : MethodName) jdk_43_method_4_code 1 (some .boolean)) :: ws) ({ frames := 0, cells := 0, slots := 0, locals := 0 } : Room)) (fun a U => a = #[(.int p1)] ∧ Z.Warmed39 U.vm ∧ U.heap = h0) (fun _ _ _ _ _ => True) (fun _ U o U' => ∃ v L, o = .returned v ∧ Q_canEncI Z p1 h0 n0 v U'.heap L ∧ FrameEnd U o U' L ({ frames := 0, cells := 0, slots := 0, locals := 0 } : Room).cells ({ frames := 0, cells := 0, slots := 0, locals := 0 } : Room).slots) := by
  refine MetFree.of_bodySF (plainFor_of_name pn_1) hisR ?_
  intro p e s m args below meth c s₁ Bd hml0 hP hK
  obtain ⟨rfl, hZ, hh⟩ := hP
  have hx := Bd.exec
  have hby := Bd.bytes
  have hml : c.maxLocals = 1 := hml0
  have hown : s.vm.findClass "java/lang/StringLatin1" = some m.cls := (findClass_of_methodNamed Bd.named :)
  have hnm := (name_of_methodNamed Bd.named Bd.method).1
  have X0 : Stand p l e ({ frames := 0, cells := 0, slots := 0, locals := 0 } : Room) s m #[(.int p1)] below meth c s₁ [] 0 0 := Stand.of_body Bd
  have e0 : s₁.heap = h0 := by rw [← hh, Bd.state]; rfl
  have N0 := Fr.nil n0
  have K0 : Keep h0 h0 [] := Keep.refl _ _
  suffices hG : Goes p e below (fun o U' => ∃ v L, o = .returned v ∧ Q_canEncI Z p1 h0 n0 v U'.heap L ∧ FrameEnd s o U' L ({ frames := 0, cells := 0, slots := 0, locals := 0 } : Room).cells ({ frames := 0, cells := 0, slots := 0, locals := 0 } : Room).slots) s₁ (mkF m 0 #[.val (.int p1)] []) by
    obtain ⟨t, o, h1, h2⟩ := hG; exact ⟨t, o, castTop (ef_canEncI m p1) h1, h2⟩
  refine Goes.step (T' := s₁) (g' := (mkF m 1 #[.val (.int p1)] [(.int p1)])) (fun _ kz => XS.iloadN X0.here hx rfl (hb hby d_jdk_43_method_4_0) rfl  kz) ?_
  refine Goes.step (T' := s₁) (g' := (mkF m 4 #[.val (.int p1)] [])) (fun _ kz => XS.ifNo X0.here hx rfl (hb hby d_jdk_43_method_4_1) rfl ((if0 _ _).trans (flt hc0).1) kz) ?_
  refine Goes.step (T' := s₁) (g' := (mkF m 5 #[.val (.int p1)] [(.int p1)])) (fun _ kz => XS.iloadN X0.here hx rfl (hb hby d_jdk_43_method_4_4) rfl  kz) ?_
  refine Goes.step (T' := s₁) (g' := (mkF m 8 #[.val (.int p1)] [(.int (255 : Int32)), (.int p1)])) (fun _ kz => XS.sipush X0.here hx rfl (hb hby d_jdk_43_method_4_5) kz) ?_
  refine Goes.step (T' := s₁) (g' := (mkF m 11 #[.val (.int p1)] [])) (fun _ kz => XS.icmpNo X0.here hx rfl (hb hby d_jdk_43_method_4_8) rfl (flt hc1).2.2.1 kz) ?_
  refine Goes.step (T' := s₁) (g' := (mkF m 12 #[.val (.int p1)] [(.int (1 : Int32))])) (fun _ kz => XS.iconst X0.here hx rfl (hb hby d_jdk_43_method_4_11) kz) ?_
  refine Goes.step (T' := s₁) (g' := (mkF m 16 #[.val (.int p1)] [(.int (1 : Int32))])) (fun _ kz => XS.goto X0.here hx rfl (pc0 := 12) (pc' := 16) rfl (hb hby d_jdk_43_method_4_12) (by decide) (by decide) kz) ?_
  obtain ⟨fs, hr, hrun, hended, hW, hsame⟩ := X0.leave (v := some (.int (nar .boolean (1 : Int32)))) (fun h => by rw [Bd.returns] at h; cases h)
  exact ⟨_, _, retN X0 hx (t := .boolean) Bd.returns (by simp) (hb hby d_jdk_43_method_4_16) hr, hrun, hended, _, _, rfl, (by show Q_canEncI Z p1 h0 n0 _ s₁.heap _; rw [e0]; exact ⟨rfl, rfl, rfl⟩), ⟨_, rfl⟩, hW, hsame.mono (by decide) (by decide)⟩
theorem d_jdk_29_method_69_0 : decode jdk_29_method_69_code 0 = .ok (.iload_n 0, 1) := by decide +kernel
theorem d_jdk_29_method_69_1 : decode jdk_29_method_69_code 1 = .ok (.iload_n 1, 1) := by decide +kernel
theorem d_jdk_29_method_69_2 : decode jdk_29_method_69_code 2 = .ok (.if_icmp .gt 7, 3) := by decide +kernel
theorem d_jdk_29_method_69_9 : decode jdk_29_method_69_code 9 = .ok (.iload_n 1, 1) := by decide +kernel
theorem d_jdk_29_method_69_10 : decode jdk_29_method_69_code 10 = .ok (.ireturn, 1) := by decide +kernel
theorem d_jdk_29_method_69_5 : decode jdk_29_method_69_code 5 = .ok (.iload_n 0, 1) := by decide +kernel
theorem d_jdk_29_method_69_6 : decode jdk_29_method_69_code 6 = .ok (.goto 4, 3) := by decide +kernel
theorem ef_mathmin (m : MethodId) (p1 : Int32) (p2 : Int32) : entryFrame m #[(.int p1), (.int p2)] 2 = mkF m 0 #[.val (.int p1), .val (.int p2)] [] := by first | (simp [entryFrame, mkF, argsToLocals, Value.category, maxLocals]; done) | rfl
def Q_mathmin (Z : State) (p1 : Int32) (p2 : Int32) (h0 : Heap) (n0 : Nat) (v : Option Value) (h : Heap) (L : List Loc) : Prop := (v = some (.int (if p2 < p1 then p2 else p1))) ∧ (L = []) ∧ (h = h0)
set_option maxRecDepth 65536 in
set_option maxHeartbeats 40000000 in
theorem rm_mathmin (l : Launch) (Z : State) (a0 : Array Value) (hw : ∀ d ∈ tables_1, d.before a0 Z = true) (ws : List Jvm.Cond) (p1 : Int32) (p2 : Int32) (h0 : Heap) (n0 : Nat) (O0 : Old Z n0 h0)   :
    MetFree l (⟨"java/lang/Math", "min", "(II)I"⟩ : MethodName) (head1 ((Jvm.Cond.code (⟨"java/lang/Math", "min", "(II)I"⟩ : MethodName) jdk_29_method_69_code 2 (some .int)) :: ws) ({ frames := 0, cells := 0, slots := 0, locals := 0 } : Room)) (fun a U => a = #[(.int p1), (.int p2)] ∧ Z.Warmed39 U.vm ∧ U.heap = h0) (fun _ _ _ _ _ => True) (fun _ U o U' => ∃ v L, o = .returned v ∧ Q_mathmin Z p1 p2 h0 n0 v U'.heap L ∧ FrameEnd U o U' L ({ frames := 0, cells := 0, slots := 0, locals := 0 } : Room).cells ({ frames := 0, cells := 0, slots := 0, locals := 0 } : Room).slots) := by
  refine MetFree.of_bodySF (Jvm.Free.JP.mathPlain rfl (by decide)) hisR ?_
  intro p e s m args below meth c s₁ Bd hml0 hP hK
  obtain ⟨rfl, hZ, hh⟩ := hP
  have hx := Bd.exec
  have hby := Bd.bytes
  have hml : c.maxLocals = 2 := hml0
  have hown : s.vm.findClass "java/lang/Math" = some m.cls := (findClass_of_methodNamed Bd.named :)
  have hnm := (name_of_methodNamed Bd.named Bd.method).1
  have X0 : Stand p l e ({ frames := 0, cells := 0, slots := 0, locals := 0 } : Room) s m #[(.int p1), (.int p2)] below meth c s₁ [] 0 0 := Stand.of_body Bd
  have e0 : s₁.heap = h0 := by rw [← hh, Bd.state]; rfl
  have N0 := Fr.nil n0
  have K0 : Keep h0 h0 [] := Keep.refl _ _
  suffices hG : Goes p e below (fun o U' => ∃ v L, o = .returned v ∧ Q_mathmin Z p1 p2 h0 n0 v U'.heap L ∧ FrameEnd s o U' L ({ frames := 0, cells := 0, slots := 0, locals := 0 } : Room).cells ({ frames := 0, cells := 0, slots := 0, locals := 0 } : Room).slots) s₁ (mkF m 0 #[.val (.int p1), .val (.int p2)] []) by
    obtain ⟨t, o, h1, h2⟩ := hG; exact ⟨t, o, castTop (ef_mathmin m p1 p2) h1, h2⟩
  refine Goes.step (T' := s₁) (g' := (mkF m 1 #[.val (.int p1), .val (.int p2)] [(.int p1)])) (fun _ kz => XS.iloadN X0.here hx rfl (hb hby d_jdk_29_method_69_0) rfl  kz) ?_
  refine Goes.step (T' := s₁) (g' := (mkF m 2 #[.val (.int p1), .val (.int p2)] [(.int p2), (.int p1)])) (fun _ kz => XS.iloadN X0.here hx rfl (hb hby d_jdk_29_method_69_1) rfl  kz) ?_
  by_cases hc2_10 : p2 < p1
  ·
    refine Goes.step (T' := s₁) (g' := (mkF m 9 #[.val (.int p1), .val (.int p2)] [])) (fun _ kz => XS.icmpYes X0.here hx rfl (pc0 := 2) (pc' := 9) rfl (hb hby d_jdk_29_method_69_2) rfl (tlt hc2_10).2.2.1 (by decide) (by decide) kz) ?_
    refine Goes.step (T' := s₁) (g' := (mkF m 10 #[.val (.int p1), .val (.int p2)] [(.int p2)])) (fun _ kz => XS.iloadN X0.here hx rfl (hb hby d_jdk_29_method_69_9) rfl  kz) ?_
    obtain ⟨fs, hr, hrun, hended, hW, hsame⟩ := X0.leave (v := some (.int p2)) (fun h => by rw [Bd.returns] at h; cases h)
    exact ⟨_, _, retOut X0 hx Bd.returns rfl (Or.inl ⟨rfl, Or.inl rfl, _, rfl⟩) (hb hby d_jdk_29_method_69_10) hr, hrun, hended, _, _, rfl, (by show Q_mathmin Z p1 p2 h0 n0 _ s₁.heap _; rw [e0]; exact ⟨(by simp [hc2_10]), rfl, rfl⟩), ⟨_, rfl⟩, hW, hsame.mono (by decide) (by decide)⟩
  ·
    refine Goes.step (T' := s₁) (g' := (mkF m 5 #[.val (.int p1), .val (.int p2)] [])) (fun _ kz => XS.icmpNo X0.here hx rfl (hb hby d_jdk_29_method_69_2) rfl (flt hc2_10).2.2.1 kz) ?_
    refine Goes.step (T' := s₁) (g' := (mkF m 6 #[.val (.int p1), .val (.int p2)] [(.int p1)])) (fun _ kz => XS.iloadN X0.here hx rfl (hb hby d_jdk_29_method_69_5) rfl  kz) ?_
    refine Goes.step (T' := s₁) (g' := (mkF m 10 #[.val (.int p1), .val (.int p2)] [(.int p1)])) (fun _ kz => XS.goto X0.here hx rfl (pc0 := 6) (pc' := 10) rfl (hb hby d_jdk_29_method_69_6) (by decide) (by decide) kz) ?_
    obtain ⟨fs, hr, hrun, hended, hW, hsame⟩ := X0.leave (v := some (.int p1)) (fun h => by rw [Bd.returns] at h; cases h)
    exact ⟨_, _, retOut X0 hx Bd.returns rfl (Or.inl ⟨rfl, Or.inl rfl, _, rfl⟩) (hb hby d_jdk_29_method_69_10) hr, hrun, hended, _, _, rfl, (by show Q_mathmin Z p1 p2 h0 n0 _ s₁.heap _; rw [e0]; exact ⟨(by simp [hc2_10]), rfl, rfl⟩), ⟨_, rfl⟩, hW, hsame.mono (by decide) (by decide)⟩
theorem d_jdk_42_method_154_0 : decode jdk_42_method_154_code 0 = .ok (.getstatic 38, 3) := by decide +kernel
theorem d_jdk_42_method_154_3 : decode jdk_42_method_154_code 3 = .ok (.ifCond .eq 14, 3) := by decide +kernel
theorem d_jdk_42_method_154_6 : decode jdk_42_method_154_code 6 = .ok (.aload_n 0, 1) := by decide +kernel
theorem d_jdk_42_method_154_7 : decode jdk_42_method_154_code 7 = .ok (.getfield 15, 3) := by decide +kernel
theorem d_jdk_42_method_154_10 : decode jdk_42_method_154_code 10 = .ok (.ifCond .ne 7, 3) := by decide +kernel
theorem d_jdk_42_method_154_13 : decode jdk_42_method_154_code 13 = .ok (.iconst 1, 1) := by decide +kernel
theorem d_jdk_42_method_154_14 : decode jdk_42_method_154_code 14 = .ok (.goto 4, 3) := by decide +kernel
theorem d_jdk_42_method_154_18 : decode jdk_42_method_154_code 18 = .ok (.ireturn, 1) := by decide +kernel
theorem ef_isLat (m : MethodId) (a1 : Addr) : entryFrame m #[(.ref a1)] 1 = mkF m 0 #[.val (.ref a1)] [] := by first | (simp [entryFrame, mkF, argsToLocals, Value.category, maxLocals]; done) | rfl
def Q_isLat (Z : State) (a1 : Addr) (h0 : Heap) (n0 : Nat) (v : Option Value) (h : Heap) (L : List Loc) : Prop := (v = some (.int (1 : Int32))) ∧ (L = []) ∧ (h = h0)
set_option maxRecDepth 65536 in
set_option maxHeartbeats 40000000 in
theorem rm_isLat (l : Launch) (Z : State) (a0 : Array Value) (hw : ∀ d ∈ tables_1, d.before a0 Z = true) (ws : List Jvm.Cond) (a1 : Addr) (h0 : Heap) (n0 : Nat) (O0 : Old Z n0 h0) (zcs : Int32) (Scs : Sta Z Z.heap "java/lang/String" "COMPACT_STRINGS" "Z" (.int zcs)) (hz_Scs : ¬ zcs = 0) (F_a1_coder : Fld Z h0 a1 "java/lang/String" "coder" "B" (.int (0 : Int32))) :
    MetFree l (⟨"java/lang/String", "isLatin1", "()Z"⟩ : MethodName) (head1 ((Jvm.Cond.code (⟨"java/lang/String", "isLatin1", "()Z"⟩ : MethodName) jdk_42_method_154_code 1 (some .boolean)) :: ws) ({ frames := 0, cells := 0, slots := 0, locals := 0 } : Room)) (fun a U => a = #[(.ref a1)] ∧ Z.Warmed39 U.vm ∧ U.heap = h0) (fun _ _ _ _ _ => True) (fun _ U o U' => ∃ v L, o = .returned v ∧ Q_isLat Z a1 h0 n0 v U'.heap L ∧ FrameEnd U o U' L ({ frames := 0, cells := 0, slots := 0, locals := 0 } : Room).cells ({ frames := 0, cells := 0, slots := 0, locals := 0 } : Room).slots) := by
  refine MetFree.of_bodySF (plainFor_of_name pn_0) hisR ?_
  intro p e s m args below meth c s₁ Bd hml0 hP hK
  obtain ⟨rfl, hZ, hh⟩ := hP
  have hx := Bd.exec
  have hby := Bd.bytes
  have hml : c.maxLocals = 1 := hml0
  have hown : s.vm.findClass "java/lang/String" = some m.cls := (findClass_of_methodNamed Bd.named :)
  have hnm := (name_of_methodNamed Bd.named Bd.method).1
  have X0 : Stand p l e ({ frames := 0, cells := 0, slots := 0, locals := 0 } : Room) s m #[(.ref a1)] below meth c s₁ [] 0 0 := Stand.of_body Bd
  have e0 : s₁.heap = h0 := by rw [← hh, Bd.state]; rfl
  have N0 := Fr.nil n0
  have K0 : Keep h0 h0 [] := Keep.refl _ _
  suffices hG : Goes p e below (fun o U' => ∃ v L, o = .returned v ∧ Q_isLat Z a1 h0 n0 v U'.heap L ∧ FrameEnd s o U' L ({ frames := 0, cells := 0, slots := 0, locals := 0 } : Room).cells ({ frames := 0, cells := 0, slots := 0, locals := 0 } : Room).slots) s₁ (mkF m 0 #[.val (.ref a1)] []) by
    obtain ⟨t, o, h1, h2⟩ := hG; exact ⟨t, o, castTop (ef_isLat m a1) h1, h2⟩
  obtain ⟨T11, X11, e11, st11⟩ := getS2 X0 hx hZ hown (host := "") (Or.inl (hw _ (List.mem_of_getElem? (i := 22) rfl))) Via.refl e0 (Scs.ext O0.2) (g := (mkF m 0 #[.val (.ref a1)] [])) rfl (hb hby d_jdk_42_method_154_0)
  refine Goes.step (T' := T11) (g' := (mkF m 3 #[.val (.ref a1)] [(.int zcs)])) st11 ?_
  refine Goes.step (T' := T11) (g' := (mkF m 6 #[.val (.ref a1)] [])) (fun _ kz => XS.ifNo X11.here hx rfl (hb hby d_jdk_42_method_154_3) rfl ((if0 _ _).trans (feq hz_Scs).1) kz) ?_
  refine Goes.step (T' := T11) (g' := (mkF m 7 #[.val (.ref a1)] [(.ref a1)])) (fun _ kz => XS.aloadN X11.here hx rfl (hb hby d_jdk_42_method_154_6) rfl rfl kz) ?_
  obtain ⟨T12, X12, e12, st12⟩ := getF X11 hx hZ hown (host := "") (Or.inl (hw _ (List.mem_of_getElem? (i := 34) rfl))) Via.refl e11 F_a1_coder (g := (mkF m 7 #[.val (.ref a1)] [(.ref a1)])) rfl rfl (hb hby d_jdk_42_method_154_7)
  refine Goes.step (T' := T12) (g' := (mkF m 10 #[.val (.ref a1)] [(.int (0 : Int32))])) st12 ?_
  refine Goes.step (T' := T12) (g' := (mkF m 13 #[.val (.ref a1)] [])) (fun _ kz => XS.ifNo X12.here hx rfl (hb hby d_jdk_42_method_154_10) rfl ((if0 _ _).trans (teq (by decide : ((0 : Int32) = (0 : Int32)))).2) kz) ?_
  refine Goes.step (T' := T12) (g' := (mkF m 14 #[.val (.ref a1)] [(.int (1 : Int32))])) (fun _ kz => XS.iconst X12.here hx rfl (hb hby d_jdk_42_method_154_13) kz) ?_
  refine Goes.step (T' := T12) (g' := (mkF m 18 #[.val (.ref a1)] [(.int (1 : Int32))])) (fun _ kz => XS.goto X12.here hx rfl (pc0 := 14) (pc' := 18) rfl (hb hby d_jdk_42_method_154_14) (by decide) (by decide) kz) ?_
  obtain ⟨fs, hr, hrun, hended, hW, hsame⟩ := X12.leave (v := some (.int (nar .boolean (1 : Int32)))) (fun h => by rw [Bd.returns] at h; cases h)
  exact ⟨_, _, retN X12 hx (t := .boolean) Bd.returns (by simp) (hb hby d_jdk_42_method_154_18) hr, hrun, hended, _, _, rfl, (by show Q_isLat Z a1 h0 n0 _ T12.heap _; rw [e12]; exact ⟨rfl, rfl, rfl⟩), ⟨_, rfl⟩, hW, hsame.mono (by decide) (by decide)⟩
theorem d_jdk_43_method_27_0 : decode jdk_43_method_27_code 0 = .ok (.iload_n 1, 1) := by decide +kernel
theorem d_jdk_43_method_27_1 : decode jdk_43_method_27_code 1 = .ok (.invokestatic 88, 3) := by decide +kernel
theorem pd_1 : parseMethodDescriptor "(I)Z" = some ⟨[.int], some .boolean⟩ := by decide +kernel
theorem d_jdk_43_method_27_4 : decode jdk_43_method_27_code 4 = .ok (.ifCond .ne 5, 3) := by decide +kernel
theorem d_jdk_43_method_27_9 : decode jdk_43_method_27_code 9 = .ok (.iload_n 2, 1) := by decide +kernel
theorem d_jdk_43_method_27_10 : decode jdk_43_method_27_code 10 = .ok (.aload_n 0, 1) := by decide +kernel
theorem d_jdk_43_method_27_11 : decode jdk_43_method_27_code 11 = .ok (.arraylength, 1) := by decide +kernel
theorem d_jdk_43_method_27_12 : decode jdk_43_method_27_code 12 = .ok (.iconst 1, 1) := by decide +kernel
theorem d_jdk_43_method_27_13 : decode jdk_43_method_27_code 13 = .ok (.isub, 1) := by decide +kernel
theorem d_jdk_43_method_27_14 : decode jdk_43_method_27_code 14 = .ok (.invokestatic 38, 3) := by decide +kernel
theorem pd_2 : parseMethodDescriptor "(II)I" = some ⟨[.int, .int], some .int⟩ := by decide +kernel
theorem d_jdk_43_method_27_17 : decode jdk_43_method_27_code 17 = .ok (.istore_n 3, 1) := by decide +kernel
theorem d_jdk_43_method_27_18 : decode jdk_43_method_27_code 18 = .ok (.iload_n 3, 1) := by decide +kernel
theorem d_jdk_43_method_27_19 : decode jdk_43_method_27_code 19 = .ok (.ifCond .lt 19, 3) := by decide +kernel
theorem d_jdk_43_method_27_38 : decode jdk_43_method_27_code 38 = .ok (.iconst (-1), 1) := by decide +kernel
theorem d_jdk_43_method_27_39 : decode jdk_43_method_27_code 39 = .ok (.ireturn, 1) := by decide +kernel
theorem d_jdk_43_method_27_22 : decode jdk_43_method_27_code 22 = .ok (.aload_n 0, 1) := by decide +kernel
theorem d_jdk_43_method_27_23 : decode jdk_43_method_27_code 23 = .ok (.iload_n 3, 1) := by decide +kernel
theorem d_jdk_43_method_27_24 : decode jdk_43_method_27_code 24 = .ok (.baload, 1) := by decide +kernel
theorem d_jdk_43_method_27_25 : decode jdk_43_method_27_code 25 = .ok (.iload_n 1, 1) := by decide +kernel
theorem d_jdk_43_method_27_26 : decode jdk_43_method_27_code 26 = .ok (.i2b, 1) := by decide +kernel
theorem d_jdk_43_method_27_27 : decode jdk_43_method_27_code 27 = .ok (.if_icmp .ne 5, 3) := by decide +kernel
theorem d_jdk_43_method_27_30 : decode jdk_43_method_27_code 30 = .ok (.iload_n 3, 1) := by decide +kernel
theorem d_jdk_43_method_27_31 : decode jdk_43_method_27_code 31 = .ok (.ireturn, 1) := by decide +kernel
theorem d_jdk_43_method_27_32 : decode jdk_43_method_27_code 32 = .ok (.iinc 3 (-1), 3) := by decide +kernel
theorem d_jdk_43_method_27_35 : decode jdk_43_method_27_code 35 = .ok (.goto (-17), 3) := by decide +kernel
theorem ef_lixL (m : MethodId) (a1 : Addr) (p1 : Int32) (q2 : Int32) : entryFrame m #[(.ref a1), (.int p1), (.int q2)] 4 = mkF m 0 #[.val (.ref a1), .val (.int p1), .val (.int q2), .unset] [] := by first | (simp [entryFrame, mkF, argsToLocals, Value.category, maxLocals]; done) | rfl
def Q_lixL (Z : State) (a1 : Addr) (p1 : Int32) (kb : ClassId) (cs : List Int32) (h0 : Heap) (n0 : Nat) (v : Option Value) (h : Heap) (L : List Loc) : Prop := (v = some (.int ((Int32.ofNat (LJ p1 cs cs.length)) - (1 : Int32)))) ∧ (L = []) ∧ (h = h0)
set_option maxRecDepth 65536 in
set_option maxHeartbeats 40000000 in
theorem rm_lixL (l : Launch) (Z : State) (a0 : Array Value) (hw : ∀ d ∈ tables_1, d.before a0 Z = true) (ws : List Jvm.Cond) (a1 : Addr) (p1 : Int32) (kb : ClassId) (cs : List Int32) (h0 : Heap) (n0 : Nat) (O0 : Old Z n0 h0)  (V_a1 : Arv Z h0 a1 kb .byte (Int32.ofNat cs.length) (cs.map fun c => Value.int (c.toInt8.toInt32)) (.int (0 : Int32))) (hl : cs.length ≤ 5) (hbd : ∀ c ∈ cs, ¬ c < 0 ∧ ¬ (255 : Int32) < c) (hc0 : ¬ p1 < (0 : Int32)) (hc1 : ¬ (255 : Int32) < p1) :
    MetFree l (⟨"java/lang/StringLatin1", "lastIndexOf", "([BII)I"⟩ : MethodName) (head1 ((Jvm.Cond.code (⟨"java/lang/StringLatin1", "lastIndexOf", "([BII)I"⟩ : MethodName) jdk_43_method_27_code 4 (some .int)) :: ws) ({ frames := 1, cells := 0, slots := 0, locals := 13 } : Room)) (fun a U => a = #[(.ref a1), (.int p1), (.int ((Int32.ofNat cs.length) - (1 : Int32)))] ∧ Z.Warmed39 U.vm ∧ U.heap = h0) (fun _ _ _ _ _ => True) (fun _ U o U' => ∃ v L, o = .returned v ∧ Q_lixL Z a1 p1 kb cs h0 n0 v U'.heap L ∧ FrameEnd U o U' L ({ frames := 1, cells := 0, slots := 0, locals := 13 } : Room).cells ({ frames := 1, cells := 0, slots := 0, locals := 13 } : Room).slots) := by
  refine MetFree.of_bodySF (plainFor_of_name pn_1) hisR ?_
  intro p e s m args below meth c s₁ Bd hml0 hP hK
  obtain ⟨rfl, hZ, hh⟩ := hP
  have hx := Bd.exec
  have hby := Bd.bytes
  have hml : c.maxLocals = 4 := hml0
  have hown : s.vm.findClass "java/lang/StringLatin1" = some m.cls := (findClass_of_methodNamed Bd.named :)
  have hnm := (name_of_methodNamed Bd.named Bd.method).1
  have X0 : Stand p l e ({ frames := 1, cells := 0, slots := 0, locals := 13 } : Room) s m #[(.ref a1), (.int p1), (.int ((Int32.ofNat cs.length) - (1 : Int32)))] below meth c s₁ [] 0 0 := Stand.of_body Bd
  have e0 : s₁.heap = h0 := by rw [← hh, Bd.state]; rfl
  have N0 := Fr.nil n0
  have K0 : Keep h0 h0 [] := Keep.refl _ _
  suffices hG : Goes p e below (fun o U' => ∃ v L, o = .returned v ∧ Q_lixL Z a1 p1 kb cs h0 n0 v U'.heap L ∧ FrameEnd s o U' L ({ frames := 1, cells := 0, slots := 0, locals := 13 } : Room).cells ({ frames := 1, cells := 0, slots := 0, locals := 13 } : Room).slots) s₁ (mkF m 0 #[.val (.ref a1), .val (.int p1), .val (.int ((Int32.ofNat cs.length) - (1 : Int32))), .unset] []) by
    obtain ⟨t, o, h1, h2⟩ := hG; exact ⟨t, o, castTop (ef_lixL m a1 p1 ((Int32.ofNat cs.length) - (1 : Int32))) h1, h2⟩
  refine Goes.step (T' := s₁) (g' := (mkF m 1 #[.val (.ref a1), .val (.int p1), .val (.int ((Int32.ofNat cs.length) - (1 : Int32))), .unset] [(.int p1)])) (fun _ kz => XS.iloadN X0.here hx rfl (hb hby d_jdk_43_method_27_0) rfl  kz) ?_
  obtain ⟨_, _, ⟨T13, L13, k13, n13⟩, -, X13, ⟨Lc13, hQ13, l13, y13, z13⟩, st13⟩ := Jvm.LawKit.callS X0 hx (y := (⟨"java/lang/StringLatin1", "canEncode", "(I)Z"⟩ : MethodName)) hown (mvT hZ (hw _ (List.mem_of_getElem? (i := 120) rfl))) (mvT hZ (hw _ (List.mem_of_getElem? (i := 121) rfl))) (mvT hZ (hw _ (List.mem_of_getElem? (i := 118) rfl))) (mvT hZ (hw _ (List.mem_of_getElem? (i := 122) rfl))) (by decide) (backOf (W := 0) (rm_canEncI l Z a0 hw [] p1 h0 n0 O0  (by first | assumption | decide) (by first | assumption | decide)) hZ (hw _ (List.mem_of_getElem? (i := 122) rfl)) (hw _ (List.mem_of_getElem? (i := 118) rfl)) (by decide) (by decide)) (g := (mkF m 1 #[.val (.ref a1), .val (.int p1), .val (.int ((Int32.ofNat cs.length) - (1 : Int32))), .unset] [(.int p1)])) rfl (by rw [hml]; rfl) (argsL := [(.int p1)]) (rest := []) (lenOf pd_1 rfl) rfl (by show 2 * 0 + _ ≤ _; exact Nat.le_of_eq rfl) (hb hby d_jdk_43_method_27_1) (fun _ _ => ⟨rfl, e0, (by decide : 0 + 0 ≤ _), (by decide : 0 + 0 ≤ _)⟩)
  dsimp only [Pt.U, Pt.locs, Pt.cells, Pt.slots] at X13 l13 y13 z13 st13 hQ13
  subst l13 y13 z13
  obtain ⟨rfl, rfl, e13⟩ := hQ13
  replace N0 := Fr.app N0 (Fr.nil n0)
  refine Goes.step (T' := T13) (g' := (mkF m 4 #[.val (.ref a1), .val (.int p1), .val (.int ((Int32.ofNat cs.length) - (1 : Int32))), .unset] [(.int (1 : Int32))])) st13 ?_
  refine Goes.step (T' := T13) (g' := (mkF m 9 #[.val (.ref a1), .val (.int p1), .val (.int ((Int32.ofNat cs.length) - (1 : Int32))), .unset] [])) (fun _ kz => XS.ifYes X13.here hx rfl (pc0 := 4) (pc' := 9) rfl (hb hby d_jdk_43_method_27_4) rfl ((if0 _ _).trans (feq (by decide : ¬ ((1 : Int32) = (0 : Int32)))).2) (by decide) (by decide) kz) ?_
  refine Goes.step (T' := T13) (g' := (mkF m 10 #[.val (.ref a1), .val (.int p1), .val (.int ((Int32.ofNat cs.length) - (1 : Int32))), .unset] [(.int ((Int32.ofNat cs.length) - (1 : Int32)))])) (fun _ kz => XS.iloadN X13.here hx rfl (hb hby d_jdk_43_method_27_9) rfl  kz) ?_
  refine Goes.step (T' := T13) (g' := (mkF m 11 #[.val (.ref a1), .val (.int p1), .val (.int ((Int32.ofNat cs.length) - (1 : Int32))), .unset] [(.ref a1), (.int ((Int32.ofNat cs.length) - (1 : Int32)))])) (fun _ kz => XS.aloadN X13.here hx rfl (hb hby d_jdk_43_method_27_10) rfl rfl kz) ?_
  obtain ⟨cl14, Ar14, q14, Sz14, Nn14, Hs14, Gs14⟩ := (id V_a1 : Arv Z h0 a1 kb .byte (Int32.ofNat cs.length) (cs.map fun c => Value.int (c.toInt8.toInt32)) (.int (0 : Int32)))
  have al14 := X13.arraylength hx (by rw [e13]; exact Ar14.1) (State.isArrayOf_alike hZ.alike Ar14.2.1) (g := (mkF m 11 #[.val (.ref a1), .val (.int p1), .val (.int ((Int32.ofNat cs.length) - (1 : Int32))), .unset] [(.ref a1), (.int ((Int32.ofNat cs.length) - (1 : Int32)))])) rfl rfl (hb hby d_jdk_43_method_27_11)
  rw [len_of Sz14 Nn14] at al14
  refine Goes.step (T' := T13) (g' := (mkF m 12 #[.val (.ref a1), .val (.int p1), .val (.int ((Int32.ofNat cs.length) - (1 : Int32))), .unset] [(.int (Int32.ofNat cs.length)), (.int ((Int32.ofNat cs.length) - (1 : Int32)))])) al14 ?_
  refine Goes.step (T' := T13) (g' := (mkF m 13 #[.val (.ref a1), .val (.int p1), .val (.int ((Int32.ofNat cs.length) - (1 : Int32))), .unset] [(.int (1 : Int32)), (.int (Int32.ofNat cs.length)), (.int ((Int32.ofNat cs.length) - (1 : Int32)))])) (fun _ kz => XS.iconst X13.here hx rfl (hb hby d_jdk_43_method_27_12) kz) ?_
  refine Goes.step (T' := T13) (g' := (mkF m 14 #[.val (.ref a1), .val (.int p1), .val (.int ((Int32.ofNat cs.length) - (1 : Int32))), .unset] [(.int ((Int32.ofNat cs.length) - (1 : Int32))), (.int ((Int32.ofNat cs.length) - (1 : Int32)))])) (fun _ kz => XS.isub X13.here hx rfl (hb hby d_jdk_43_method_27_13) rfl kz) ?_
  obtain ⟨_, _, ⟨T15, L15, k15, n15⟩, -, X15, ⟨Lc15, hQ15, l15, y15, z15⟩, st15⟩ := Jvm.LawKit.callS X13 hx (y := (⟨"java/lang/Math", "min", "(II)I"⟩ : MethodName)) hown (mvT hZ (hw _ (List.mem_of_getElem? (i := 123) rfl))) (mvT hZ (hw _ (List.mem_of_getElem? (i := 124) rfl))) (mvT hZ (hw _ (List.mem_of_getElem? (i := 125) rfl))) (mvT hZ (hw _ (List.mem_of_getElem? (i := 126) rfl))) (by decide) (backOf (W := 0) (rm_mathmin l Z a0 hw [] ((Int32.ofNat cs.length) - (1 : Int32)) ((Int32.ofNat cs.length) - (1 : Int32)) h0 n0 O0  ) hZ (hw _ (List.mem_of_getElem? (i := 126) rfl)) (hw _ (List.mem_of_getElem? (i := 125) rfl)) (by decide) (by decide)) (g := (mkF m 14 #[.val (.ref a1), .val (.int p1), .val (.int ((Int32.ofNat cs.length) - (1 : Int32))), .unset] [(.int ((Int32.ofNat cs.length) - (1 : Int32))), (.int ((Int32.ofNat cs.length) - (1 : Int32)))])) rfl (by rw [hml]; rfl) (argsL := [(.int ((Int32.ofNat cs.length) - (1 : Int32))), (.int ((Int32.ofNat cs.length) - (1 : Int32)))]) (rest := []) (lenOf pd_2 rfl) rfl (by show 2 * 0 + _ ≤ _; exact Nat.le_of_eq rfl) (hb hby d_jdk_43_method_27_14) (fun _ _ => ⟨rfl, e13, (by decide : 0 + 0 ≤ _), (by decide : 0 + 0 ≤ _)⟩)
  dsimp only [Pt.U, Pt.locs, Pt.cells, Pt.slots] at X15 l15 y15 z15 st15 hQ15
  subst l15 y15 z15
  obtain ⟨rfl, rfl, e15⟩ := hQ15
  replace N0 := Fr.app N0 (Fr.nil n0)
  refine Goes.step (T' := T15) (g' := (mkF m 17 #[.val (.ref a1), .val (.int p1), .val (.int ((Int32.ofNat cs.length) - (1 : Int32))), .unset] [(.int (if ((Int32.ofNat cs.length) - (1 : Int32)) < ((Int32.ofNat cs.length) - (1 : Int32)) then ((Int32.ofNat cs.length) - (1 : Int32)) else ((Int32.ofNat cs.length) - (1 : Int32))))])) st15 ?_
  rw [own_minS]
  refine Goes.step (T' := T15) (g' := (mkF m 18 #[.val (.ref a1), .val (.int p1), .val (.int ((Int32.ofNat cs.length) - (1 : Int32))), .val (.int ((Int32.ofNat cs.length) - (1 : Int32)))] [])) (fun _ kz => XS.istoreN X15.here hx rfl (hb hby d_jdk_43_method_27_17) rfl (l' := #[.val (.ref a1), .val (.int p1), .val (.int ((Int32.ofNat cs.length) - (1 : Int32))), .val (.int ((Int32.ofNat cs.length) - (1 : Int32)))]) rfl kz) ?_
  have loop : ∀ (j : Nat), j ≤ cs.length → LJ p1 cs cs.length = LJ p1 cs j → Goes p e below (fun o U' => ∃ v L, o = .returned v ∧ Q_lixL Z a1 p1 kb cs h0 n0 v U'.heap L ∧ FrameEnd s o U' L ({ frames := 1, cells := 0, slots := 0, locals := 13 } : Room).cells ({ frames := 1, cells := 0, slots := 0, locals := 13 } : Room).slots) T15 (mkF m 18 #[.val (.ref a1), .val (.int p1), .val (.int ((Int32.ofNat cs.length) - (1 : Int32))), .val (.int ((Int32.ofNat j) - (1 : Int32)))] []) := by
    intro j; induction j with
    | zero =>
      intro hjl hjx
      refine Goes.step (T' := T15) (g' := (mkF m 19 #[.val (.ref a1), .val (.int p1), .val (.int ((Int32.ofNat cs.length) - (1 : Int32))), .val (.int ((Int32.ofNat 0) - (1 : Int32)))] [(.int ((Int32.ofNat 0) - (1 : Int32)))])) (fun _ kz => XS.iloadN X15.here hx rfl (hb hby d_jdk_43_method_27_18) rfl  kz) ?_
      refine Goes.step (T' := T15) (g' := (mkF m 38 #[.val (.ref a1), .val (.int p1), .val (.int ((Int32.ofNat cs.length) - (1 : Int32))), .val (.int ((Int32.ofNat 0) - (1 : Int32)))] [])) (fun _ kz => XS.ifYes X15.here hx rfl (pc0 := 19) (pc' := 38) rfl (hb hby d_jdk_43_method_27_19) rfl ((if0 _ _).trans (tlt (by decide : ((Int32.ofNat 0) - (1 : Int32)) < (0 : Int32))).1) (by decide) (by decide) kz) ?_
      refine Goes.step (T' := T15) (g' := (mkF m 39 #[.val (.ref a1), .val (.int p1), .val (.int ((Int32.ofNat cs.length) - (1 : Int32))), .val (.int ((Int32.ofNat 0) - (1 : Int32)))] [(.int (-1 : Int32))])) (fun _ kz => XS.iconst X15.here hx rfl (hb hby d_jdk_43_method_27_38) kz) ?_
      obtain ⟨fs, hr, hrun, hended, hW, hsame⟩ := X15.leave (v := some (.int (-1 : Int32))) (fun h => by rw [Bd.returns] at h; cases h)
      exact ⟨_, _, retOut X15 hx Bd.returns rfl (Or.inl ⟨rfl, Or.inl rfl, _, rfl⟩) (hb hby d_jdk_43_method_27_39) hr, hrun, hended, _, _, rfl, (by show Q_lixL Z a1 p1 kb cs h0 n0 _ T15.heap _; rw [e15]; exact ⟨(by rw [hjx]; exact congrArg (fun z => some (Value.int z)) (by decide : (-1 : Int32) = Int32.ofNat 0 - 1)), rfl, rfl⟩), ⟨_, rfl⟩, hW, hsame.mono (by decide) (by decide)⟩
    | succ j ih =>
      intro hjl hjx
      have hj1 : Int32.ofNat (j + 1) - (1 : Int32) = Int32.ofNat j := by rw [Int32.ofNat_add]; exact Int32.add_sub_cancel _ _
      rw [hj1]
      have hm := hbd _ (own_mem (show j < cs.length by omega))
      refine Goes.step (T' := T15) (g' := (mkF m 19 #[.val (.ref a1), .val (.int p1), .val (.int ((Int32.ofNat cs.length) - (1 : Int32))), .val (.int (Int32.ofNat j))] [(.int (Int32.ofNat j))])) (fun _ kz => XS.iloadN X15.here hx rfl (hb hby d_jdk_43_method_27_18) rfl  kz) ?_
      refine Goes.step (T' := T15) (g' := (mkF m 22 #[.val (.ref a1), .val (.int p1), .val (.int ((Int32.ofNat cs.length) - (1 : Int32))), .val (.int (Int32.ofNat j))] [])) (fun _ kz => XS.ifNo X15.here hx rfl (hb hby d_jdk_43_method_27_19) rfl ((if0 _ _).trans (flt (own_nn (by omega))).1) kz) ?_
      refine Goes.step (T' := T15) (g' := (mkF m 23 #[.val (.ref a1), .val (.int p1), .val (.int ((Int32.ofNat cs.length) - (1 : Int32))), .val (.int (Int32.ofNat j))] [(.ref a1)])) (fun _ kz => XS.aloadN X15.here hx rfl (hb hby d_jdk_43_method_27_22) rfl rfl kz) ?_
      refine Goes.step (T' := T15) (g' := (mkF m 24 #[.val (.ref a1), .val (.int p1), .val (.int ((Int32.ofNat cs.length) - (1 : Int32))), .val (.int (Int32.ofNat j))] [(.int (Int32.ofNat j)), (.ref a1)])) (fun _ kz => XS.iloadN X15.here hx rfl (hb hby d_jdk_43_method_27_23) rfl  kz) ?_
      obtain ⟨cl16, Ar16, q16, Sz16, Nn16, Hs16, Gs16⟩ := (id V_a1 : Arv Z h0 a1 kb .byte (Int32.ofNat cs.length) (cs.map fun c => Value.int (c.toInt8.toInt32)) (.int (0 : Int32)))
      refine Goes.step (T' := T15) (g' := (mkF m 25 #[.val (.ref a1), .val (.int p1), .val (.int ((Int32.ofNat cs.length) - (1 : Int32))), .val (.int (Int32.ofNat j))] [(.int ((cs.getD j 0).toInt8.toInt32))])) (X15.baloadBytes hx (j := (Int32.ofNat j)) (v := (.int ((cs.getD j 0).toInt8.toInt32))) (by rw [e15]; exact Ar16.1) (State.isArrayOf_alike hZ.alike Ar16.2.1) Ar16.2.2 (inb_of Sz16 ⟨own_nn (by omega), (own_lt (by omega) (by omega)).mpr (by omega)⟩) (Has.at Hs16 (inb_of Sz16 ⟨own_nn (by omega), (own_lt (by omega) (by omega)).mpr (by omega)⟩) (by rw [own_clamp (by omega)]; exact own_at (by omega))) (g := (mkF m 24 #[.val (.ref a1), .val (.int p1), .val (.int ((Int32.ofNat cs.length) - (1 : Int32))), .val (.int (Int32.ofNat j))] [(.int (Int32.ofNat j)), (.ref a1)])) rfl rfl (hb hby d_jdk_43_method_27_24)) ?_
      refine Goes.step (T' := T15) (g' := (mkF m 26 #[.val (.ref a1), .val (.int p1), .val (.int ((Int32.ofNat cs.length) - (1 : Int32))), .val (.int (Int32.ofNat j))] [(.int p1), (.int ((cs.getD j 0).toInt8.toInt32))])) (fun _ kz => XS.iloadN X15.here hx rfl (hb hby d_jdk_43_method_27_25) rfl  kz) ?_
      refine Goes.step (T' := T15) (g' := (mkF m 27 #[.val (.ref a1), .val (.int p1), .val (.int ((Int32.ofNat cs.length) - (1 : Int32))), .val (.int (Int32.ofNat j))] [(.int (p1.toInt8.toInt32)), (.int ((cs.getD j 0).toInt8.toInt32))])) (fun _ kz => XS.i2b X15.here hx rfl (hb hby d_jdk_43_method_27_26) rfl kz) ?_
      by_cases hc27_17 : ((cs.getD j 0).toInt8.toInt32) = (p1.toInt8.toInt32)
      ·
        refine Goes.step (T' := T15) (g' := (mkF m 30 #[.val (.ref a1), .val (.int p1), .val (.int ((Int32.ofNat cs.length) - (1 : Int32))), .val (.int (Int32.ofNat j))] [])) (fun _ kz => XS.icmpNo X15.here hx rfl (hb hby d_jdk_43_method_27_27) rfl (teq hc27_17).2 kz) ?_
        refine Goes.step (T' := T15) (g' := (mkF m 31 #[.val (.ref a1), .val (.int p1), .val (.int ((Int32.ofNat cs.length) - (1 : Int32))), .val (.int (Int32.ofNat j))] [(.int (Int32.ofNat j))])) (fun _ kz => XS.iloadN X15.here hx rfl (hb hby d_jdk_43_method_27_30) rfl  kz) ?_
        obtain ⟨fs, hr, hrun, hended, hW, hsame⟩ := X15.leave (v := some (.int (Int32.ofNat j))) (fun h => by rw [Bd.returns] at h; cases h)
        exact ⟨_, _, retOut X15 hx Bd.returns rfl (Or.inl ⟨rfl, Or.inl rfl, _, rfl⟩) (hb hby d_jdk_43_method_27_31) hr, hrun, hended, _, _, rfl, (by show Q_lixL Z a1 p1 kb cs h0 n0 _ T15.heap _; rw [e15]; exact ⟨(by rw [hjx, LJ, if_pos ((own_byEq hm ⟨hc0, hc1⟩).mp hc27_17), hj1]), rfl, rfl⟩), ⟨_, rfl⟩, hW, hsame.mono (by decide) (by decide)⟩
      ·
        refine Goes.step (T' := T15) (g' := (mkF m 32 #[.val (.ref a1), .val (.int p1), .val (.int ((Int32.ofNat cs.length) - (1 : Int32))), .val (.int (Int32.ofNat j))] [])) (fun _ kz => XS.icmpYes X15.here hx rfl (pc0 := 27) (pc' := 32) rfl (hb hby d_jdk_43_method_27_27) rfl (feq hc27_17).2 (by decide) (by decide) kz) ?_
        refine Goes.step (T' := T15) (g' := (mkF m 35 #[.val (.ref a1), .val (.int p1), .val (.int ((Int32.ofNat cs.length) - (1 : Int32))), .val (.int ((Int32.ofNat j) + (-1 : Int32)))] [])) (fun _ kz => XS.iinc X15.here hx rfl (hb hby d_jdk_43_method_27_32) rfl (l' := #[.val (.ref a1), .val (.int p1), .val (.int ((Int32.ofNat cs.length) - (1 : Int32))), .val (.int ((Int32.ofNat j) + (-1 : Int32)))]) rfl kz) ?_
        refine Goes.step (T' := T15) (g' := (mkF m 18 #[.val (.ref a1), .val (.int p1), .val (.int ((Int32.ofNat cs.length) - (1 : Int32))), .val (.int ((Int32.ofNat j) + (-1 : Int32)))] [])) (fun _ kz => XS.goto X15.here hx rfl (pc0 := 35) (pc' := 18) rfl (hb hby d_jdk_43_method_27_35) (by decide) (by decide) kz) ?_
        rw [LJ, if_neg (fun q => hc27_17 ((own_byEq hm ⟨hc0, hc1⟩).mpr q))] at hjx
        have hjj : Int32.ofNat j + (-1 : Int32) = Int32.ofNat j - (1 : Int32) := (Int32.sub_eq_add_neg _ _).symm
        rw [hjj]
        exact ih (by omega) hjx
  exact loop cs.length (Nat.le_refl _) rfl
theorem d_jdk_42_method_83_0 : decode jdk_42_method_83_code 0 = .ok (.aload_n 0, 1) := by decide +kernel
theorem d_jdk_42_method_83_1 : decode jdk_42_method_83_code 1 = .ok (.invokevirtual 492, 3) := by decide +kernel
theorem pd_3 : parseMethodDescriptor "()Z" = some ⟨[], some .boolean⟩ := by decide +kernel
theorem d_jdk_42_method_83_4 : decode jdk_42_method_83_code 4 = .ok (.ifCond .eq 15, 3) := by decide +kernel
theorem d_jdk_42_method_83_7 : decode jdk_42_method_83_code 7 = .ok (.aload_n 0, 1) := by decide +kernel
theorem d_jdk_42_method_83_8 : decode jdk_42_method_83_code 8 = .ok (.getfield 9, 3) := by decide +kernel
theorem d_jdk_42_method_83_11 : decode jdk_42_method_83_code 11 = .ok (.iload_n 1, 1) := by decide +kernel
theorem d_jdk_42_method_83_12 : decode jdk_42_method_83_code 12 = .ok (.iload_n 2, 1) := by decide +kernel
theorem d_jdk_42_method_83_13 : decode jdk_42_method_83_code 13 = .ok (.invokestatic 644, 3) := by decide +kernel
theorem pd_4 : parseMethodDescriptor "([BII)I" = some ⟨[(.array .byte), .int, .int], some .int⟩ := by decide +kernel
theorem d_jdk_42_method_83_16 : decode jdk_42_method_83_code 16 = .ok (.goto 12, 3) := by decide +kernel
theorem d_jdk_42_method_83_28 : decode jdk_42_method_83_code 28 = .ok (.ireturn, 1) := by decide +kernel
theorem ef_lix2 (m : MethodId) (a1 : Addr) (p1 : Int32) (q2 : Int32) : entryFrame m #[(.ref a1), (.int p1), (.int q2)] 3 = mkF m 0 #[.val (.ref a1), .val (.int p1), .val (.int q2)] [] := by first | (simp [entryFrame, mkF, argsToLocals, Value.category, maxLocals]; done) | rfl
def Q_lix2 (Z : State) (a1 : Addr) (p1 : Int32) (cs : List Int32) (h0 : Heap) (n0 : Nat) (v : Option Value) (h : Heap) (L : List Loc) : Prop := (v = some (.int ((Int32.ofNat (LJ p1 cs cs.length)) - (1 : Int32)))) ∧ (L = []) ∧ (h = h0)
set_option maxRecDepth 65536 in
set_option maxHeartbeats 40000000 in
theorem rm_lix2 (l : Launch) (Z : State) (a0 : Array Value) (hw : ∀ d ∈ tables_1, d.before a0 Z = true) (ws : List Jvm.Cond) (a1 : Addr) (p1 : Int32) (cs : List Int32) (h0 : Heap) (n0 : Nat) (O0 : Old Z n0 h0) (zcs : Int32) (Scs : Sta Z Z.heap "java/lang/String" "COMPACT_STRINGS" "Z" (.int zcs)) (hz_Scs : ¬ zcs = 0) (E_a1 : Exa Z h0 a1 "java/lang/String") (G_a1 : SX Z h0 a1 cs) (hl : cs.length ≤ 5) (hc0 : ¬ p1 < (0 : Int32)) (hc1 : ¬ (255 : Int32) < p1) :
    MetFree l (⟨"java/lang/String", "lastIndexOf", "(II)I"⟩ : MethodName) (head1 ((Jvm.Cond.code (⟨"java/lang/String", "lastIndexOf", "(II)I"⟩ : MethodName) jdk_42_method_83_code 3 (some .int)) :: ws) ({ frames := 2, cells := 0, slots := 0, locals := 28 } : Room)) (fun a U => a = #[(.ref a1), (.int p1), (.int ((Int32.ofNat cs.length) - (1 : Int32)))] ∧ Z.Warmed39 U.vm ∧ U.heap = h0) (fun _ _ _ _ _ => True) (fun _ U o U' => ∃ v L, o = .returned v ∧ Q_lix2 Z a1 p1 cs h0 n0 v U'.heap L ∧ FrameEnd U o U' L ({ frames := 2, cells := 0, slots := 0, locals := 28 } : Room).cells ({ frames := 2, cells := 0, slots := 0, locals := 28 } : Room).slots) := by
  refine MetFree.of_bodySF (plainFor_of_name pn_0) hisR ?_
  intro p e s m args below meth c s₁ Bd hml0 hP hK
  obtain ⟨rfl, hZ, hh⟩ := hP
  have hx := Bd.exec
  have hby := Bd.bytes
  have hml : c.maxLocals = 3 := hml0
  have hown : s.vm.findClass "java/lang/String" = some m.cls := (findClass_of_methodNamed Bd.named :)
  have hnm := (name_of_methodNamed Bd.named Bd.method).1
  have X0 : Stand p l e ({ frames := 2, cells := 0, slots := 0, locals := 28 } : Room) s m #[(.ref a1), (.int p1), (.int ((Int32.ofNat cs.length) - (1 : Int32)))] below meth c s₁ [] 0 0 := Stand.of_body Bd
  have e0 : s₁.heap = h0 := by rw [← hh, Bd.state]; rfl
  have N0 := Fr.nil n0
  have K0 : Keep h0 h0 [] := Keep.refl _ _
  suffices hG : Goes p e below (fun o U' => ∃ v L, o = .returned v ∧ Q_lix2 Z a1 p1 cs h0 n0 v U'.heap L ∧ FrameEnd s o U' L ({ frames := 2, cells := 0, slots := 0, locals := 28 } : Room).cells ({ frames := 2, cells := 0, slots := 0, locals := 28 } : Room).slots) s₁ (mkF m 0 #[.val (.ref a1), .val (.int p1), .val (.int ((Int32.ofNat cs.length) - (1 : Int32)))] []) by
    obtain ⟨t, o, h1, h2⟩ := hG; exact ⟨t, o, castTop (ef_lix2 m a1 p1 ((Int32.ofNat cs.length) - (1 : Int32))) h1, h2⟩
  obtain ⟨E_a1, F_a1_coder, hb_a1, t_a1, kb_a1, F_a1_value, V_t_a1⟩ := (id G_a1 : SX Z h0 a1 cs)
  refine Goes.step (T' := s₁) (g' := (mkF m 1 #[.val (.ref a1), .val (.int p1), .val (.int ((Int32.ofNat cs.length) - (1 : Int32)))] [(.ref a1)])) (fun _ kz => XS.aloadN X0.here hx rfl (hb hby d_jdk_42_method_83_0) rfl rfl kz) ?_
  obtain ⟨cq18, kq18, qa18, qb18, qc18⟩ := isOf hZ e0 E_a1
  obtain ⟨_, _, ⟨T18, L18, k18, n18⟩, -, X18, ⟨Lc18, hQ18, l18, y18, z18⟩, st18⟩ := X0.virtualBack hx (y := (⟨"java/lang/String", "isLatin1", "()Z"⟩ : MethodName)) (z := (⟨"java/lang/String", "isLatin1", "()Z"⟩ : MethodName)) hown (mvT hZ (hw _ (List.mem_of_getElem? (i := 111) rfl))) (mvT hZ (hw _ (List.mem_of_getElem? (i := 112) rfl))) (notFace_of_selects (args := #[]) (mvT hZ (hw _ (List.mem_of_getElem? (i := 114) rfl)))) (mvT hZ (hw _ (List.mem_of_getElem? (i := 114) rfl))) (mvT hZ (hw _ (List.mem_of_getElem? (i := 113) rfl))) (by decide) (backOf (W := 0) (rm_isLat l Z a0 hw [] a1 h0 n0 O0 zcs Scs hz_Scs F_a1_coder) hZ (hw _ (List.mem_of_getElem? (i := 115) rfl)) (hw _ (List.mem_of_getElem? (i := 11) rfl)) (by decide) (by decide)) qa18 qc18 (g := (mkF m 1 #[.val (.ref a1), .val (.int p1), .val (.int ((Int32.ofNat cs.length) - (1 : Int32)))] [(.ref a1)])) rfl (by rw [hml]; rfl) (Steps.refl _) (argsL := []) (rest := []) (lenOf pd_3 rfl) rfl (by show 2 * 0 + _ ≤ _; exact Nat.le_of_eq rfl) (hb hby d_jdk_42_method_83_1) (fun _ _ => ⟨rfl, e0, (by decide : 0 + 0 ≤ _), (by decide : 0 + 0 ≤ _)⟩)
  dsimp only [Pt.U, Pt.locs, Pt.cells, Pt.slots] at X18 l18 y18 z18 st18 hQ18
  subst l18 y18 z18
  obtain ⟨rfl, rfl, e18⟩ := hQ18
  replace N0 := Fr.app N0 (Fr.nil n0)
  refine Goes.run (T' := T18) (g' := (mkF m 4 #[.val (.ref a1), .val (.int p1), .val (.int ((Int32.ofNat cs.length) - (1 : Int32)))] [(.int (1 : Int32))])) st18 ?_
  refine Goes.step (T' := T18) (g' := (mkF m 7 #[.val (.ref a1), .val (.int p1), .val (.int ((Int32.ofNat cs.length) - (1 : Int32)))] [])) (fun _ kz => XS.ifNo X18.here hx rfl (hb hby d_jdk_42_method_83_4) rfl ((if0 _ _).trans (feq (by decide : ¬ ((1 : Int32) = (0 : Int32)))).1) kz) ?_
  refine Goes.step (T' := T18) (g' := (mkF m 8 #[.val (.ref a1), .val (.int p1), .val (.int ((Int32.ofNat cs.length) - (1 : Int32)))] [(.ref a1)])) (fun _ kz => XS.aloadN X18.here hx rfl (hb hby d_jdk_42_method_83_7) rfl rfl kz) ?_
  obtain ⟨T19, X19, e19, st19⟩ := getF X18 hx hZ hown (host := "") (Or.inl (hw _ (List.mem_of_getElem? (i := 36) rfl))) Via.refl e18 F_a1_value (g := (mkF m 8 #[.val (.ref a1), .val (.int p1), .val (.int ((Int32.ofNat cs.length) - (1 : Int32)))] [(.ref a1)])) rfl rfl (hb hby d_jdk_42_method_83_8)
  refine Goes.step (T' := T19) (g' := (mkF m 11 #[.val (.ref a1), .val (.int p1), .val (.int ((Int32.ofNat cs.length) - (1 : Int32)))] [(.ref t_a1)])) st19 ?_
  refine Goes.step (T' := T19) (g' := (mkF m 12 #[.val (.ref a1), .val (.int p1), .val (.int ((Int32.ofNat cs.length) - (1 : Int32)))] [(.int p1), (.ref t_a1)])) (fun _ kz => XS.iloadN X19.here hx rfl (hb hby d_jdk_42_method_83_11) rfl  kz) ?_
  refine Goes.step (T' := T19) (g' := (mkF m 13 #[.val (.ref a1), .val (.int p1), .val (.int ((Int32.ofNat cs.length) - (1 : Int32)))] [(.int ((Int32.ofNat cs.length) - (1 : Int32))), (.int p1), (.ref t_a1)])) (fun _ kz => XS.iloadN X19.here hx rfl (hb hby d_jdk_42_method_83_12) rfl  kz) ?_
  obtain ⟨_, _, ⟨T20, L20, k20, n20⟩, -, X20, ⟨Lc20, hQ20, l20, y20, z20⟩, st20⟩ := Jvm.LawKit.callS X19 hx (y := (⟨"java/lang/StringLatin1", "lastIndexOf", "([BII)I"⟩ : MethodName)) hown (mvT hZ (hw _ (List.mem_of_getElem? (i := 116) rfl))) (mvT hZ (hw _ (List.mem_of_getElem? (i := 117) rfl))) (mvT hZ (hw _ (List.mem_of_getElem? (i := 118) rfl))) (mvT hZ (hw _ (List.mem_of_getElem? (i := 119) rfl))) (by decide) (backOf (W := 0) (rm_lixL l Z a0 hw [] t_a1 p1 (kb_a1) (cs) h0 n0 O0  V_t_a1 (by first | assumption | decide) hb_a1 (by first | assumption | decide) (by first | assumption | decide)) hZ (hw _ (List.mem_of_getElem? (i := 119) rfl)) (hw _ (List.mem_of_getElem? (i := 118) rfl)) (by decide) (by decide)) (g := (mkF m 13 #[.val (.ref a1), .val (.int p1), .val (.int ((Int32.ofNat cs.length) - (1 : Int32)))] [(.int ((Int32.ofNat cs.length) - (1 : Int32))), (.int p1), (.ref t_a1)])) rfl (by rw [hml]; rfl) (argsL := [(.ref t_a1), (.int p1), (.int ((Int32.ofNat cs.length) - (1 : Int32)))]) (rest := []) (lenOf pd_4 rfl) rfl (by show 2 * 0 + _ ≤ _; exact Nat.le_of_eq rfl) (hb hby d_jdk_42_method_83_13) (fun _ _ => ⟨rfl, e19, (by decide : 0 + 0 ≤ _), (by decide : 0 + 0 ≤ _)⟩)
  dsimp only [Pt.U, Pt.locs, Pt.cells, Pt.slots] at X20 l20 y20 z20 st20 hQ20
  subst l20 y20 z20
  obtain ⟨rfl, rfl, e20⟩ := hQ20
  replace N0 := Fr.app N0 (Fr.nil n0)
  refine Goes.step (T' := T20) (g' := (mkF m 16 #[.val (.ref a1), .val (.int p1), .val (.int ((Int32.ofNat cs.length) - (1 : Int32)))] [(.int ((Int32.ofNat (LJ p1 cs cs.length)) - (1 : Int32)))])) st20 ?_
  refine Goes.step (T' := T20) (g' := (mkF m 28 #[.val (.ref a1), .val (.int p1), .val (.int ((Int32.ofNat cs.length) - (1 : Int32)))] [(.int ((Int32.ofNat (LJ p1 cs cs.length)) - (1 : Int32)))])) (fun _ kz => XS.goto X20.here hx rfl (pc0 := 16) (pc' := 28) rfl (hb hby d_jdk_42_method_83_16) (by decide) (by decide) kz) ?_
  obtain ⟨fs, hr, hrun, hended, hW, hsame⟩ := X20.leave (v := some (.int ((Int32.ofNat (LJ p1 cs cs.length)) - (1 : Int32)))) (fun h => by rw [Bd.returns] at h; cases h)
  exact ⟨_, _, retOut X20 hx Bd.returns rfl (Or.inl ⟨rfl, Or.inl rfl, _, rfl⟩) (hb hby d_jdk_42_method_83_28) hr, hrun, hended, _, _, rfl, (by show Q_lix2 Z a1 p1 cs h0 n0 _ T20.heap _; rw [e20]; exact ⟨rfl, rfl, rfl⟩), ⟨_, rfl⟩, hW, hsame.mono (by decide) (by decide)⟩
theorem d_jdk_42_method_82_0 : decode jdk_42_method_82_code 0 = .ok (.aload_n 0, 1) := by decide +kernel
theorem d_jdk_42_method_82_1 : decode jdk_42_method_82_code 1 = .ok (.iload_n 1, 1) := by decide +kernel
theorem d_jdk_42_method_82_2 : decode jdk_42_method_82_code 2 = .ok (.aload_n 0, 1) := by decide +kernel
theorem d_jdk_42_method_82_3 : decode jdk_42_method_82_code 3 = .ok (.invokevirtual 505, 3) := by decide +kernel
theorem pd_5 : parseMethodDescriptor "()I" = some ⟨[], some .int⟩ := by decide +kernel
theorem d_jdk_42_method_82_6 : decode jdk_42_method_82_code 6 = .ok (.iconst 1, 1) := by decide +kernel
theorem d_jdk_42_method_82_7 : decode jdk_42_method_82_code 7 = .ok (.isub, 1) := by decide +kernel
theorem d_jdk_42_method_82_8 : decode jdk_42_method_82_code 8 = .ok (.invokevirtual 641, 3) := by decide +kernel
theorem d_jdk_42_method_82_11 : decode jdk_42_method_82_code 11 = .ok (.ireturn, 1) := by decide +kernel
theorem ef_lix1 (m : MethodId) (a1 : Addr) (p1 : Int32) : entryFrame m #[(.ref a1), (.int p1)] 2 = mkF m 0 #[.val (.ref a1), .val (.int p1)] [] := by first | (simp [entryFrame, mkF, argsToLocals, Value.category, maxLocals]; done) | rfl
def Q_lix1 (Z : State) (a1 : Addr) (p1 : Int32) (cs : List Int32) (h0 : Heap) (n0 : Nat) (v : Option Value) (h : Heap) (L : List Loc) : Prop := (v = some (.int ((Int32.ofNat (LJ p1 cs cs.length)) - (1 : Int32)))) ∧ (L = []) ∧ (h = h0)
set_option maxRecDepth 65536 in
set_option maxHeartbeats 40000000 in
theorem rm_lix1 (l : Launch) (Z : State) (a0 : Array Value) (hw : ∀ d ∈ tables_1, d.before a0 Z = true) (ws : List Jvm.Cond) (a1 : Addr) (p1 : Int32) (cs : List Int32) (h0 : Heap) (n0 : Nat) (O0 : Old Z n0 h0) (zcs : Int32) (Scs : Sta Z Z.heap "java/lang/String" "COMPACT_STRINGS" "Z" (.int zcs)) (hz_Scs : ¬ zcs = 0) (E_a1 : Exa Z h0 a1 "java/lang/String") (G_a1 : SX Z h0 a1 cs) (hl : cs.length ≤ 5) (hc0 : ¬ p1 < (0 : Int32)) (hc1 : ¬ (255 : Int32) < p1) :
    MetFree l (⟨"java/lang/String", "lastIndexOf", "(I)I"⟩ : MethodName) (head1 ((Jvm.Cond.code (⟨"java/lang/String", "lastIndexOf", "(I)I"⟩ : MethodName) jdk_42_method_82_code 2 (some .int)) :: ws) ({ frames := 3, cells := 0, slots := 0, locals := 42 } : Room)) (fun a U => a = #[(.ref a1), (.int p1)] ∧ Z.Warmed39 U.vm ∧ U.heap = h0) (fun _ _ _ _ _ => True) (fun _ U o U' => ∃ v L, o = .returned v ∧ Q_lix1 Z a1 p1 cs h0 n0 v U'.heap L ∧ FrameEnd U o U' L ({ frames := 3, cells := 0, slots := 0, locals := 42 } : Room).cells ({ frames := 3, cells := 0, slots := 0, locals := 42 } : Room).slots) := by
  refine MetFree.of_bodySF (plainFor_of_name pn_0) hisR ?_
  intro p e s m args below meth c s₁ Bd hml0 hP hK
  obtain ⟨rfl, hZ, hh⟩ := hP
  have hx := Bd.exec
  have hby := Bd.bytes
  have hml : c.maxLocals = 2 := hml0
  have hown : s.vm.findClass "java/lang/String" = some m.cls := (findClass_of_methodNamed Bd.named :)
  have hnm := (name_of_methodNamed Bd.named Bd.method).1
  have X0 : Stand p l e ({ frames := 3, cells := 0, slots := 0, locals := 42 } : Room) s m #[(.ref a1), (.int p1)] below meth c s₁ [] 0 0 := Stand.of_body Bd
  have e0 : s₁.heap = h0 := by rw [← hh, Bd.state]; rfl
  have N0 := Fr.nil n0
  have K0 : Keep h0 h0 [] := Keep.refl _ _
  suffices hG : Goes p e below (fun o U' => ∃ v L, o = .returned v ∧ Q_lix1 Z a1 p1 cs h0 n0 v U'.heap L ∧ FrameEnd s o U' L ({ frames := 3, cells := 0, slots := 0, locals := 42 } : Room).cells ({ frames := 3, cells := 0, slots := 0, locals := 42 } : Room).slots) s₁ (mkF m 0 #[.val (.ref a1), .val (.int p1)] []) by
    obtain ⟨t, o, h1, h2⟩ := hG; exact ⟨t, o, castTop (ef_lix1 m a1 p1) h1, h2⟩
  refine Goes.step (T' := s₁) (g' := (mkF m 1 #[.val (.ref a1), .val (.int p1)] [(.ref a1)])) (fun _ kz => XS.aloadN X0.here hx rfl (hb hby d_jdk_42_method_82_0) rfl rfl kz) ?_
  refine Goes.step (T' := s₁) (g' := (mkF m 2 #[.val (.ref a1), .val (.int p1)] [(.int p1), (.ref a1)])) (fun _ kz => XS.iloadN X0.here hx rfl (hb hby d_jdk_42_method_82_1) rfl  kz) ?_
  refine Goes.step (T' := s₁) (g' := (mkF m 3 #[.val (.ref a1), .val (.int p1)] [(.ref a1), (.int p1), (.ref a1)])) (fun _ kz => XS.aloadN X0.here hx rfl (hb hby d_jdk_42_method_82_2) rfl rfl kz) ?_
  obtain ⟨cq21, kq21, qa21, qb21, qc21⟩ := isOf hZ e0 E_a1
  obtain ⟨_, _, ⟨T21, L21, k21, n21⟩, -, X21, ⟨Lc21, hQ21, l21, y21, z21⟩, st21⟩ := X0.virtualBack hx (y := (⟨"java/lang/String", "length", "()I"⟩ : MethodName)) (z := (⟨"java/lang/String", "length", "()I"⟩ : MethodName)) hown (mvT hZ (hw _ (List.mem_of_getElem? (i := 96) rfl))) (mvT hZ (hw _ (List.mem_of_getElem? (i := 97) rfl))) (notFace_of_selects (args := #[]) (mvT hZ (hw _ (List.mem_of_getElem? (i := 99) rfl)))) (mvT hZ (hw _ (List.mem_of_getElem? (i := 99) rfl))) (mvT hZ (hw _ (List.mem_of_getElem? (i := 98) rfl))) (by decide) (own_lenW (W := 2) hZ hw (hw _ (List.mem_of_getElem? (i := 10) rfl)) G_a1 ((by omega)) (Scs.ext O0.2) hz_Scs (by decide) (by decide)) qa21 qc21 (g := (mkF m 3 #[.val (.ref a1), .val (.int p1)] [(.ref a1), (.int p1), (.ref a1)])) rfl (by rw [hml]; rfl) (Steps.refl _) (argsL := []) (rest := [(.int p1), (.ref a1)]) (lenOf pd_5 rfl) rfl (by show 2 * 0 + _ ≤ _; exact Nat.le_of_eq rfl) (hb hby d_jdk_42_method_82_3) (fun _ _ => ⟨rfl, e0, (by decide : 0 + 0 ≤ _), (by decide : 0 + 0 ≤ _)⟩)
  dsimp only [Pt.U, Pt.locs, Pt.cells, Pt.slots] at X21 l21 y21 z21 st21 hQ21
  subst l21 y21 z21
  obtain ⟨rfl, rfl, e21⟩ := hQ21
  replace N0 := Fr.app N0 (Fr.nil n0)
  refine Goes.run (T' := T21) (g' := (mkF m 6 #[.val (.ref a1), .val (.int p1)] [(.int (Int32.ofNat cs.length)), (.int p1), (.ref a1)])) st21 ?_
  refine Goes.step (T' := T21) (g' := (mkF m 7 #[.val (.ref a1), .val (.int p1)] [(.int (1 : Int32)), (.int (Int32.ofNat cs.length)), (.int p1), (.ref a1)])) (fun _ kz => XS.iconst X21.here hx rfl (hb hby d_jdk_42_method_82_6) kz) ?_
  refine Goes.step (T' := T21) (g' := (mkF m 8 #[.val (.ref a1), .val (.int p1)] [(.int ((Int32.ofNat cs.length) - (1 : Int32))), (.int p1), (.ref a1)])) (fun _ kz => XS.isub X21.here hx rfl (hb hby d_jdk_42_method_82_7) rfl kz) ?_
  obtain ⟨cq22, kq22, qa22, qb22, qc22⟩ := isOf hZ e21 E_a1
  obtain ⟨_, _, ⟨T22, L22, k22, n22⟩, -, X22, ⟨Lc22, hQ22, l22, y22, z22⟩, st22⟩ := X21.virtualBack hx (y := (⟨"java/lang/String", "lastIndexOf", "(II)I"⟩ : MethodName)) (z := (⟨"java/lang/String", "lastIndexOf", "(II)I"⟩ : MethodName)) hown (mvT hZ (hw _ (List.mem_of_getElem? (i := 106) rfl))) (mvT hZ (hw _ (List.mem_of_getElem? (i := 107) rfl))) (notFace_of_selects (args := #[]) (mvT hZ (hw _ (List.mem_of_getElem? (i := 109) rfl)))) (mvT hZ (hw _ (List.mem_of_getElem? (i := 109) rfl))) (mvT hZ (hw _ (List.mem_of_getElem? (i := 108) rfl))) (by decide) (backOf (W := 0) (rm_lix2 l Z a0 hw [] a1 p1 (cs) h0 n0 O0 zcs Scs hz_Scs E_a1 G_a1 (by first | assumption | decide) (by first | assumption | decide) (by first | assumption | decide)) hZ (hw _ (List.mem_of_getElem? (i := 110) rfl)) (hw _ (List.mem_of_getElem? (i := 11) rfl)) (by decide) (by decide)) qa22 qc22 (g := (mkF m 8 #[.val (.ref a1), .val (.int p1)] [(.int ((Int32.ofNat cs.length) - (1 : Int32))), (.int p1), (.ref a1)])) rfl (by rw [hml]; rfl) (Steps.refl _) (argsL := [(.int p1), (.int ((Int32.ofNat cs.length) - (1 : Int32)))]) (rest := []) (lenOf pd_2 rfl) rfl (by show 2 * 0 + _ ≤ _; exact Nat.le_of_eq rfl) (hb hby d_jdk_42_method_82_8) (fun _ _ => ⟨rfl, e21, (by decide : 0 + 0 ≤ _), (by decide : 0 + 0 ≤ _)⟩)
  dsimp only [Pt.U, Pt.locs, Pt.cells, Pt.slots] at X22 l22 y22 z22 st22 hQ22
  subst l22 y22 z22
  obtain ⟨rfl, rfl, e22⟩ := hQ22
  replace N0 := Fr.app N0 (Fr.nil n0)
  refine Goes.run (T' := T22) (g' := (mkF m 11 #[.val (.ref a1), .val (.int p1)] [(.int ((Int32.ofNat (LJ p1 cs cs.length)) - (1 : Int32)))])) st22 ?_
  obtain ⟨fs, hr, hrun, hended, hW, hsame⟩ := X22.leave (v := some (.int ((Int32.ofNat (LJ p1 cs cs.length)) - (1 : Int32)))) (fun h => by rw [Bd.returns] at h; cases h)
  exact ⟨_, _, retOut X22 hx Bd.returns rfl (Or.inl ⟨rfl, Or.inl rfl, _, rfl⟩) (hb hby d_jdk_42_method_82_11) hr, hrun, hended, _, _, rfl, (by show Q_lix1 Z a1 p1 cs h0 n0 _ T22.heap _; rw [e22]; exact ⟨rfl, rfl, rfl⟩), ⟨_, rfl⟩, hW, hsame.mono (by decide) (by decide)⟩
theorem d_jdk_41_method_12_0 : decode jdk_41_method_12_code 0 = .ok (.iload_n 0, 1) := by decide +kernel
theorem d_jdk_41_method_12_1 : decode jdk_41_method_12_code 1 = .ok (.ifCond .lt 13, 3) := by decide +kernel
theorem d_jdk_41_method_12_4 : decode jdk_41_method_12_code 4 = .ok (.iload_n 0, 1) := by decide +kernel
theorem d_jdk_41_method_12_5 : decode jdk_41_method_12_code 5 = .ok (.iload_n 1, 1) := by decide +kernel
theorem d_jdk_41_method_12_6 : decode jdk_41_method_12_code 6 = .ok (.if_icmp .gt 8, 3) := by decide +kernel
theorem d_jdk_41_method_12_9 : decode jdk_41_method_12_code 9 = .ok (.iload_n 1, 1) := by decide +kernel
theorem d_jdk_41_method_12_10 : decode jdk_41_method_12_code 10 = .ok (.iload_n 2, 1) := by decide +kernel
theorem d_jdk_41_method_12_11 : decode jdk_41_method_12_code 11 = .ok (.if_icmp .le 11, 3) := by decide +kernel
theorem d_jdk_41_method_12_22 : decode jdk_41_method_12_code 22 = .ok (.iload_n 0, 1) := by decide +kernel
theorem d_jdk_41_method_12_23 : decode jdk_41_method_12_code 23 = .ok (.ireturn, 1) := by decide +kernel
theorem pn_2 : plainName "jdk/internal/util/Preconditions" = true := by first | (simp [plainName, overriddenIn]; done) | decide +kernel
theorem ef_chkFT (m : MethodId) (p1 : Int32) (p2 : Int32) (p3 : Int32) (v4 : Value) (hv4 : v4.isRef = true) : entryFrame m #[(.int p1), (.int p2), (.int p3), v4] 4 = mkF m 0 #[.val (.int p1), .val (.int p2), .val (.int p3), .val v4] [] := by rcases ref_cases hv4 with rfl | ⟨_, rfl⟩ <;> first | (simp [entryFrame, mkF, argsToLocals, Value.category, maxLocals]; done) | rfl
def Q_chkFT (Z : State) (p1 : Int32) (p2 : Int32) (p3 : Int32) (v4 : Value) (h0 : Heap) (n0 : Nat) (v : Option Value) (h : Heap) (L : List Loc) : Prop := (v = some (.int p1)) ∧ (L = []) ∧ (h = h0)
set_option maxRecDepth 65536 in
set_option maxHeartbeats 40000000 in
theorem rm_chkFT (l : Launch) (Z : State) (a0 : Array Value) (hw : ∀ d ∈ tables_1, d.before a0 Z = true) (ws : List Jvm.Cond) (p1 : Int32) (p2 : Int32) (p3 : Int32) (v4 : Value) (hv4 : v4.isRef = true) (h0 : Heap) (n0 : Nat) (O0 : Old Z n0 h0)  (h1 : ¬ p1 < (0 : Int32)) (h2 : ¬ p2 < p1) (h3 : ¬ p3 < p2) :
    MetFree l (⟨"jdk/internal/util/Preconditions", "checkFromToIndex", "(IIILjava/util/function/BiFunction;)I"⟩ : MethodName) (head1 ((Jvm.Cond.code (⟨"jdk/internal/util/Preconditions", "checkFromToIndex", "(IIILjava/util/function/BiFunction;)I"⟩ : MethodName) jdk_41_method_12_code 4 (some .int)) :: ws) ({ frames := 0, cells := 0, slots := 0, locals := 0 } : Room)) (fun a U => a = #[(.int p1), (.int p2), (.int p3), v4] ∧ Z.Warmed39 U.vm ∧ U.heap = h0) (fun _ _ _ _ _ => True) (fun _ U o U' => ∃ v L, o = .returned v ∧ Q_chkFT Z p1 p2 p3 v4 h0 n0 v U'.heap L ∧ FrameEnd U o U' L ({ frames := 0, cells := 0, slots := 0, locals := 0 } : Room).cells ({ frames := 0, cells := 0, slots := 0, locals := 0 } : Room).slots) := by
  refine MetFree.of_bodySF (plainFor_of_name pn_2) hisR ?_
  intro p e s m args below meth c s₁ Bd hml0 hP hK
  obtain ⟨rfl, hZ, hh⟩ := hP
  have hx := Bd.exec
  have hby := Bd.bytes
  have hml : c.maxLocals = 4 := hml0
  have hown : s.vm.findClass "jdk/internal/util/Preconditions" = some m.cls := (findClass_of_methodNamed Bd.named :)
  have hnm := (name_of_methodNamed Bd.named Bd.method).1
  have X0 : Stand p l e ({ frames := 0, cells := 0, slots := 0, locals := 0 } : Room) s m #[(.int p1), (.int p2), (.int p3), v4] below meth c s₁ [] 0 0 := Stand.of_body Bd
  have e0 : s₁.heap = h0 := by rw [← hh, Bd.state]; rfl
  have N0 := Fr.nil n0
  have K0 : Keep h0 h0 [] := Keep.refl _ _
  suffices hG : Goes p e below (fun o U' => ∃ v L, o = .returned v ∧ Q_chkFT Z p1 p2 p3 v4 h0 n0 v U'.heap L ∧ FrameEnd s o U' L ({ frames := 0, cells := 0, slots := 0, locals := 0 } : Room).cells ({ frames := 0, cells := 0, slots := 0, locals := 0 } : Room).slots) s₁ (mkF m 0 #[.val (.int p1), .val (.int p2), .val (.int p3), .val v4] []) by
    obtain ⟨t, o, h1, h2⟩ := hG; exact ⟨t, o, castTop (ef_chkFT m p1 p2 p3 v4 hv4) h1, h2⟩
  refine Goes.step (T' := s₁) (g' := (mkF m 1 #[.val (.int p1), .val (.int p2), .val (.int p3), .val v4] [(.int p1)])) (fun _ kz => XS.iloadN X0.here hx rfl (hb hby d_jdk_41_method_12_0) rfl  kz) ?_
  refine Goes.step (T' := s₁) (g' := (mkF m 4 #[.val (.int p1), .val (.int p2), .val (.int p3), .val v4] [])) (fun _ kz => XS.ifNo X0.here hx rfl (hb hby d_jdk_41_method_12_1) rfl ((if0 _ _).trans (flt h1).1) kz) ?_
  refine Goes.step (T' := s₁) (g' := (mkF m 5 #[.val (.int p1), .val (.int p2), .val (.int p3), .val v4] [(.int p1)])) (fun _ kz => XS.iloadN X0.here hx rfl (hb hby d_jdk_41_method_12_4) rfl  kz) ?_
  refine Goes.step (T' := s₁) (g' := (mkF m 6 #[.val (.int p1), .val (.int p2), .val (.int p3), .val v4] [(.int p2), (.int p1)])) (fun _ kz => XS.iloadN X0.here hx rfl (hb hby d_jdk_41_method_12_5) rfl  kz) ?_
  refine Goes.step (T' := s₁) (g' := (mkF m 9 #[.val (.int p1), .val (.int p2), .val (.int p3), .val v4] [])) (fun _ kz => XS.icmpNo X0.here hx rfl (hb hby d_jdk_41_method_12_6) rfl (flt h2).2.2.1 kz) ?_
  refine Goes.step (T' := s₁) (g' := (mkF m 10 #[.val (.int p1), .val (.int p2), .val (.int p3), .val v4] [(.int p2)])) (fun _ kz => XS.iloadN X0.here hx rfl (hb hby d_jdk_41_method_12_9) rfl  kz) ?_
  refine Goes.step (T' := s₁) (g' := (mkF m 11 #[.val (.int p1), .val (.int p2), .val (.int p3), .val v4] [(.int p3), (.int p2)])) (fun _ kz => XS.iloadN X0.here hx rfl (hb hby d_jdk_41_method_12_10) rfl  kz) ?_
  refine Goes.step (T' := s₁) (g' := (mkF m 22 #[.val (.int p1), .val (.int p2), .val (.int p3), .val v4] [])) (fun _ kz => XS.icmpYes X0.here hx rfl (pc0 := 11) (pc' := 22) rfl (hb hby d_jdk_41_method_12_11) rfl (flt h3).2.2.2 (by decide) (by decide) kz) ?_
  refine Goes.step (T' := s₁) (g' := (mkF m 23 #[.val (.int p1), .val (.int p2), .val (.int p3), .val v4] [(.int p1)])) (fun _ kz => XS.iloadN X0.here hx rfl (hb hby d_jdk_41_method_12_22) rfl  kz) ?_
  obtain ⟨fs, hr, hrun, hended, hW, hsame⟩ := X0.leave (v := some (.int p1)) (fun h => by rw [Bd.returns] at h; cases h)
  exact ⟨_, _, retOut X0 hx Bd.returns rfl (Or.inl ⟨rfl, Or.inl rfl, _, rfl⟩) (hb hby d_jdk_41_method_12_23) hr, hrun, hended, _, _, rfl, (by show Q_chkFT Z p1 p2 p3 v4 h0 n0 _ s₁.heap _; rw [e0]; exact ⟨rfl, rfl, rfl⟩), ⟨_, rfl⟩, hW, hsame.mono (by decide) (by decide)⟩
theorem d_jdk_42_method_158_0 : decode jdk_42_method_158_code 0 = .ok (.iload_n 0, 1) := by decide +kernel
theorem d_jdk_42_method_158_1 : decode jdk_42_method_158_code 1 = .ok (.iload_n 1, 1) := by decide +kernel
theorem d_jdk_42_method_158_2 : decode jdk_42_method_158_code 2 = .ok (.iload_n 2, 1) := by decide +kernel
theorem d_jdk_42_method_158_3 : decode jdk_42_method_158_code 3 = .ok (.getstatic 1053, 3) := by decide +kernel
theorem d_jdk_42_method_158_6 : decode jdk_42_method_158_code 6 = .ok (.invokestatic 1062, 3) := by decide +kernel
theorem pd_6 : parseMethodDescriptor "(IIILjava/util/function/BiFunction;)I" = some ⟨[.int, .int, .int, (.object "java/util/function/BiFunction")], some .int⟩ := by decide +kernel
theorem d_jdk_42_method_158_9 : decode jdk_42_method_158_code 9 = .ok (.pop, 1) := by decide +kernel
theorem d_jdk_42_method_158_10 : decode jdk_42_method_158_code 10 = .ok (.return_, 1) := by decide +kernel
theorem ef_chkB (m : MethodId) (p1 : Int32) (p2 : Int32) (p3 : Int32) : entryFrame m #[(.int p1), (.int p2), (.int p3)] 3 = mkF m 0 #[.val (.int p1), .val (.int p2), .val (.int p3)] [] := by first | (simp [entryFrame, mkF, argsToLocals, Value.category, maxLocals]; done) | rfl
def Q_chkB (Z : State) (p1 : Int32) (p2 : Int32) (p3 : Int32) (h0 : Heap) (n0 : Nat) (v : Option Value) (h : Heap) (L : List Loc) : Prop := (v = none) ∧ (L = []) ∧ (h = h0)
set_option maxRecDepth 65536 in
set_option maxHeartbeats 40000000 in
theorem rm_chkB (l : Launch) (Z : State) (a0 : Array Value) (hw : ∀ d ∈ tables_1, d.before a0 Z = true) (ws : List Jvm.Cond) (p1 : Int32) (p2 : Int32) (p3 : Int32) (h0 : Heap) (n0 : Nat) (O0 : Old Z n0 h0) (fmt : Value) (Sfm : Sta Z Z.heap "jdk/internal/util/Preconditions" "SIOOBE_FORMATTER" "Ljava/util/function/BiFunction;" fmt) (hz_Sfm : fmt.isRef = true) (h1 : ¬ p1 < (0 : Int32)) (h2 : ¬ p2 < p1) (h3 : ¬ p3 < p2) :
    MetFree l (⟨"java/lang/String", "checkBoundsBeginEnd", "(III)V"⟩ : MethodName) (head1 ((Jvm.Cond.code (⟨"java/lang/String", "checkBoundsBeginEnd", "(III)V"⟩ : MethodName) jdk_42_method_158_code 3 none) :: ws) ({ frames := 1, cells := 0, slots := 0, locals := 15 } : Room)) (fun a U => a = #[(.int p1), (.int p2), (.int p3)] ∧ Z.Warmed39 U.vm ∧ U.heap = h0) (fun _ _ _ _ _ => True) (fun _ U o U' => ∃ v L, o = .returned v ∧ Q_chkB Z p1 p2 p3 h0 n0 v U'.heap L ∧ FrameEnd U o U' L ({ frames := 1, cells := 0, slots := 0, locals := 15 } : Room).cells ({ frames := 1, cells := 0, slots := 0, locals := 15 } : Room).slots) := by
  refine MetFree.of_bodySF (plainFor_of_name pn_0) hisR ?_
  intro p e s m args below meth c s₁ Bd hml0 hP hK
  obtain ⟨rfl, hZ, hh⟩ := hP
  have hx := Bd.exec
  have hby := Bd.bytes
  have hml : c.maxLocals = 3 := hml0
  have hown : s.vm.findClass "java/lang/String" = some m.cls := (findClass_of_methodNamed Bd.named :)
  have hnm := (name_of_methodNamed Bd.named Bd.method).1
  have X0 : Stand p l e ({ frames := 1, cells := 0, slots := 0, locals := 15 } : Room) s m #[(.int p1), (.int p2), (.int p3)] below meth c s₁ [] 0 0 := Stand.of_body Bd
  have e0 : s₁.heap = h0 := by rw [← hh, Bd.state]; rfl
  have N0 := Fr.nil n0
  have K0 : Keep h0 h0 [] := Keep.refl _ _
  suffices hG : Goes p e below (fun o U' => ∃ v L, o = .returned v ∧ Q_chkB Z p1 p2 p3 h0 n0 v U'.heap L ∧ FrameEnd s o U' L ({ frames := 1, cells := 0, slots := 0, locals := 15 } : Room).cells ({ frames := 1, cells := 0, slots := 0, locals := 15 } : Room).slots) s₁ (mkF m 0 #[.val (.int p1), .val (.int p2), .val (.int p3)] []) by
    obtain ⟨t, o, h1, h2⟩ := hG; exact ⟨t, o, castTop (ef_chkB m p1 p2 p3) h1, h2⟩
  refine Goes.step (T' := s₁) (g' := (mkF m 1 #[.val (.int p1), .val (.int p2), .val (.int p3)] [(.int p1)])) (fun _ kz => XS.iloadN X0.here hx rfl (hb hby d_jdk_42_method_158_0) rfl  kz) ?_
  refine Goes.step (T' := s₁) (g' := (mkF m 2 #[.val (.int p1), .val (.int p2), .val (.int p3)] [(.int p2), (.int p1)])) (fun _ kz => XS.iloadN X0.here hx rfl (hb hby d_jdk_42_method_158_1) rfl  kz) ?_
  refine Goes.step (T' := s₁) (g' := (mkF m 3 #[.val (.int p1), .val (.int p2), .val (.int p3)] [(.int p3), (.int p2), (.int p1)])) (fun _ kz => XS.iloadN X0.here hx rfl (hb hby d_jdk_42_method_158_2) rfl  kz) ?_
  obtain ⟨T23, X23, e23, st23⟩ := getS2 X0 hx hZ hown (host := "") (Or.inl (hw _ (List.mem_of_getElem? (i := 140) rfl))) Via.refl e0 (Sfm.ext O0.2) (g := (mkF m 3 #[.val (.int p1), .val (.int p2), .val (.int p3)] [(.int p3), (.int p2), (.int p1)])) rfl (hb hby d_jdk_42_method_158_3)
  refine Goes.step (T' := T23) (g' := (mkF m 6 #[.val (.int p1), .val (.int p2), .val (.int p3)] [fmt, (.int p3), (.int p2), (.int p1)])) st23 ?_
  obtain ⟨_, _, ⟨T24, L24, k24, n24⟩, -, X24, ⟨Lc24, hQ24, l24, y24, z24⟩, st24⟩ := Jvm.LawKit.callS X23 hx (y := (⟨"jdk/internal/util/Preconditions", "checkFromToIndex", "(IIILjava/util/function/BiFunction;)I"⟩ : MethodName)) hown (mvT hZ (hw _ (List.mem_of_getElem? (i := 142) rfl))) (mvT hZ (hw _ (List.mem_of_getElem? (i := 143) rfl))) (mvT hZ (hw _ (List.mem_of_getElem? (i := 141) rfl))) (mvT hZ (hw _ (List.mem_of_getElem? (i := 144) rfl))) (by decide) (backOf (W := 0) (rm_chkFT l Z a0 hw [] p1 p2 p3 fmt hz_Sfm h0 n0 O0  h1 h2 h3) hZ (hw _ (List.mem_of_getElem? (i := 144) rfl)) (hw _ (List.mem_of_getElem? (i := 141) rfl)) (by decide) (by decide)) (g := (mkF m 6 #[.val (.int p1), .val (.int p2), .val (.int p3)] [fmt, (.int p3), (.int p2), (.int p1)])) rfl (by rw [hml]; rfl) (argsL := [(.int p1), (.int p2), (.int p3), fmt]) (rest := []) (lenOf pd_6 rfl) rfl (by show 2 * 0 + _ ≤ _; exact Nat.le_of_eq rfl) (hb hby d_jdk_42_method_158_6) (fun _ _ => ⟨rfl, e23, (by decide : 0 + 0 ≤ _), (by decide : 0 + 0 ≤ _)⟩)
  dsimp only [Pt.U, Pt.locs, Pt.cells, Pt.slots] at X24 l24 y24 z24 st24 hQ24
  subst l24 y24 z24
  obtain ⟨rfl, rfl, e24⟩ := hQ24
  replace N0 := Fr.app N0 (Fr.nil n0)
  refine Goes.step (T' := T24) (g' := (mkF m 9 #[.val (.int p1), .val (.int p2), .val (.int p3)] [(.int p1)])) st24 ?_
  refine Goes.step (T' := T24) (g' := (mkF m 10 #[.val (.int p1), .val (.int p2), .val (.int p3)] [])) (fun _ kz => XS.pop X24.here hx rfl (hb hby d_jdk_42_method_158_9) rfl rfl kz) ?_
  obtain ⟨fs, hr, hrun, hended, hW, hsame⟩ := X24.leave (v := none) (fun _ => rfl)
  exact ⟨_, _, X24.returnOut hx Bd.returns (hb hby d_jdk_42_method_158_10) hr, hrun, hended, _, _, rfl, (by show Q_chkB Z p1 p2 p3 h0 n0 _ T24.heap _; rw [e24]; exact ⟨rfl, rfl, rfl⟩), ⟨_, rfl⟩, hW, hsame.mono (by decide) (by decide)⟩
theorem d_jdk_65_method_131_0 : decode jdk_65_method_131_code 0 = .ok (.iload_n 1, 1) := by decide +kernel
theorem d_jdk_65_method_131_1 : decode jdk_65_method_131_code 1 = .ok (.iload_n 0, 1) := by decide +kernel
theorem d_jdk_65_method_131_2 : decode jdk_65_method_131_code 2 = .ok (.if_icmp .ge 35, 3) := by decide +kernel
theorem d_jdk_65_method_131_37 : decode jdk_65_method_131_code 37 = .ok (.return_, 1) := by decide +kernel
theorem pn_3 : plainName "java/util/Arrays" = true := by first | (simp [plainName, overriddenIn]; done) | decide +kernel
theorem ef_chkLen (m : MethodId) (p1 : Int32) (p2 : Int32) : entryFrame m #[(.int p1), (.int p2)] 2 = mkF m 0 #[.val (.int p1), .val (.int p2)] [] := by first | (simp [entryFrame, mkF, argsToLocals, Value.category, maxLocals]; done) | rfl
def Q_chkLen (Z : State) (p1 : Int32) (p2 : Int32) (h0 : Heap) (n0 : Nat) (v : Option Value) (h : Heap) (L : List Loc) : Prop := (v = none) ∧ (L = []) ∧ (h = h0)
set_option maxRecDepth 65536 in
set_option maxHeartbeats 40000000 in
theorem rm_chkLen (l : Launch) (Z : State) (a0 : Array Value) (hw : ∀ d ∈ tables_1, d.before a0 Z = true) (ws : List Jvm.Cond) (p1 : Int32) (p2 : Int32) (h0 : Heap) (n0 : Nat) (O0 : Old Z n0 h0)  (hr : ¬ p2 < p1) :
    MetFree l (⟨"java/util/Arrays", "checkLength", "(II)V"⟩ : MethodName) (head1 ((Jvm.Cond.code (⟨"java/util/Arrays", "checkLength", "(II)V"⟩ : MethodName) jdk_65_method_131_code 2 none) :: ws) ({ frames := 0, cells := 0, slots := 0, locals := 0 } : Room)) (fun a U => a = #[(.int p1), (.int p2)] ∧ Z.Warmed39 U.vm ∧ U.heap = h0) (fun _ _ _ _ _ => True) (fun _ U o U' => ∃ v L, o = .returned v ∧ Q_chkLen Z p1 p2 h0 n0 v U'.heap L ∧ FrameEnd U o U' L ({ frames := 0, cells := 0, slots := 0, locals := 0 } : Room).cells ({ frames := 0, cells := 0, slots := 0, locals := 0 } : Room).slots) := by
  refine MetFree.of_bodySF (plainFor_of_name pn_3) hisR ?_
  intro p e s m args below meth c s₁ Bd hml0 hP hK
  obtain ⟨rfl, hZ, hh⟩ := hP
  have hx := Bd.exec
  have hby := Bd.bytes
  have hml : c.maxLocals = 2 := hml0
  have hown : s.vm.findClass "java/util/Arrays" = some m.cls := (findClass_of_methodNamed Bd.named :)
  have hnm := (name_of_methodNamed Bd.named Bd.method).1
  have X0 : Stand p l e ({ frames := 0, cells := 0, slots := 0, locals := 0 } : Room) s m #[(.int p1), (.int p2)] below meth c s₁ [] 0 0 := Stand.of_body Bd
  have e0 : s₁.heap = h0 := by rw [← hh, Bd.state]; rfl
  have N0 := Fr.nil n0
  have K0 : Keep h0 h0 [] := Keep.refl _ _
  suffices hG : Goes p e below (fun o U' => ∃ v L, o = .returned v ∧ Q_chkLen Z p1 p2 h0 n0 v U'.heap L ∧ FrameEnd s o U' L ({ frames := 0, cells := 0, slots := 0, locals := 0 } : Room).cells ({ frames := 0, cells := 0, slots := 0, locals := 0 } : Room).slots) s₁ (mkF m 0 #[.val (.int p1), .val (.int p2)] []) by
    obtain ⟨t, o, h1, h2⟩ := hG; exact ⟨t, o, castTop (ef_chkLen m p1 p2) h1, h2⟩
  refine Goes.step (T' := s₁) (g' := (mkF m 1 #[.val (.int p1), .val (.int p2)] [(.int p2)])) (fun _ kz => XS.iloadN X0.here hx rfl (hb hby d_jdk_65_method_131_0) rfl  kz) ?_
  refine Goes.step (T' := s₁) (g' := (mkF m 2 #[.val (.int p1), .val (.int p2)] [(.int p1), (.int p2)])) (fun _ kz => XS.iloadN X0.here hx rfl (hb hby d_jdk_65_method_131_1) rfl  kz) ?_
  refine Goes.step (T' := s₁) (g' := (mkF m 37 #[.val (.int p1), .val (.int p2)] [])) (fun _ kz => XS.icmpYes X0.here hx rfl (pc0 := 2) (pc' := 37) rfl (hb hby d_jdk_65_method_131_2) rfl (flt hr).2.1 (by decide) (by decide) kz) ?_
  obtain ⟨fs, hr, hrun, hended, hW, hsame⟩ := X0.leave (v := none) (fun _ => rfl)
  exact ⟨_, _, X0.returnOut hx Bd.returns (hb hby d_jdk_65_method_131_37) hr, hrun, hended, _, _, rfl, (by show Q_chkLen Z p1 p2 h0 n0 _ s₁.heap _; rw [e0]; exact ⟨rfl, rfl, rfl⟩), ⟨_, rfl⟩, hW, hsame.mono (by decide) (by decide)⟩
theorem d_jdk_65_method_133_0 : decode jdk_65_method_133_code 0 = .ok (.iload_n 1, 1) := by decide +kernel
theorem d_jdk_65_method_133_1 : decode jdk_65_method_133_code 1 = .ok (.iload_n 2, 1) := by decide +kernel
theorem d_jdk_65_method_133_2 : decode jdk_65_method_133_code 2 = .ok (.invokestatic 343, 3) := by decide +kernel
theorem pd_7 : parseMethodDescriptor "(II)V" = some ⟨[.int, .int], none⟩ := by decide +kernel
theorem d_jdk_65_method_133_5 : decode jdk_65_method_133_code 5 = .ok (.iload_n 2, 1) := by decide +kernel
theorem d_jdk_65_method_133_6 : decode jdk_65_method_133_code 6 = .ok (.iload_n 1, 1) := by decide +kernel
theorem d_jdk_65_method_133_7 : decode jdk_65_method_133_code 7 = .ok (.isub, 1) := by decide +kernel
theorem d_jdk_65_method_133_8 : decode jdk_65_method_133_code 8 = .ok (.istore_n 3, 1) := by decide +kernel
theorem d_jdk_65_method_133_9 : decode jdk_65_method_133_code 9 = .ok (.iload_n 3, 1) := by decide +kernel
theorem d_jdk_65_method_133_10 : decode jdk_65_method_133_code 10 = .ok (.newarray .byte, 2) := by decide +kernel
theorem d_jdk_65_method_133_12 : decode jdk_65_method_133_code 12 = .ok (.astore 4, 2) := by decide +kernel
theorem d_jdk_65_method_133_14 : decode jdk_65_method_133_code 14 = .ok (.aload_n 0, 1) := by decide +kernel
theorem d_jdk_65_method_133_15 : decode jdk_65_method_133_code 15 = .ok (.iload_n 1, 1) := by decide +kernel
theorem d_jdk_65_method_133_16 : decode jdk_65_method_133_code 16 = .ok (.aload 4, 2) := by decide +kernel
theorem d_jdk_65_method_133_18 : decode jdk_65_method_133_code 18 = .ok (.iconst 0, 1) := by decide +kernel
theorem d_jdk_65_method_133_19 : decode jdk_65_method_133_code 19 = .ok (.aload_n 0, 1) := by decide +kernel
theorem d_jdk_65_method_133_20 : decode jdk_65_method_133_code 20 = .ok (.arraylength, 1) := by decide +kernel
theorem d_jdk_65_method_133_21 : decode jdk_65_method_133_code 21 = .ok (.iload_n 1, 1) := by decide +kernel
theorem d_jdk_65_method_133_22 : decode jdk_65_method_133_code 22 = .ok (.isub, 1) := by decide +kernel
theorem d_jdk_65_method_133_23 : decode jdk_65_method_133_code 23 = .ok (.iload_n 3, 1) := by decide +kernel
theorem d_jdk_65_method_133_24 : decode jdk_65_method_133_code 24 = .ok (.invokestatic 304, 3) := by decide +kernel
theorem d_jdk_65_method_133_27 : decode jdk_65_method_133_code 27 = .ok (.invokestatic 150, 3) := by decide +kernel
theorem d_jdk_65_method_133_30 : decode jdk_65_method_133_code 30 = .ok (.aload 4, 2) := by decide +kernel
theorem d_jdk_65_method_133_32 : decode jdk_65_method_133_code 32 = .ok (.areturn, 1) := by decide +kernel
theorem ef_corB (m : MethodId) (a1 : Addr) (q1 : Int32) (q2 : Int32) : entryFrame m #[(.ref a1), (.int q1), (.int q2)] 5 = mkF m 0 #[.val (.ref a1), .val (.int q1), .val (.int q2), .unset, .unset] [] := by first | (simp [entryFrame, mkF, argsToLocals, Value.category, maxLocals]; done) | rfl
def Q_corB (Z : State) (a1 : Addr) (kb : ClassId) (cs : List Int32) (k : Nat) (h0 : Heap) (n0 : Nat) (v : Option Value) (h : Heap) (L : List Loc) : Prop := ∃ t2 : Addr, ∃ k2 : ClassId, (v = some (.ref t2)) ∧ (Fr n0 L) ∧ (Keep h0 h []) ∧ (h0.size ≤ t2) ∧ (Arv Z h t2 k2 .byte (Int32.ofNat (cs.length - k)) ((cs.drop k).map fun c => Value.int (c.toInt8.toInt32)) (.int (0 : Int32)))
set_option maxRecDepth 65536 in
set_option maxHeartbeats 40000000 in
theorem rm_corB (l : Launch) (Z : State) (a0 : Array Value) (hw : ∀ d ∈ tables_1, d.before a0 Z = true) (ws : List Jvm.Cond) (a1 : Addr) (kb : ClassId) (cs : List Int32) (k : Nat) (h0 : Heap) (n0 : Nat) (O0 : Old Z n0 h0)  (V_a1 : Arv Z h0 a1 kb .byte (Int32.ofNat cs.length) (cs.map fun c => Value.int (c.toInt8.toInt32)) (.int (0 : Int32))) (hl : cs.length ≤ 5) (hk : k ≤ cs.length) :
    MetFree l (⟨"java/util/Arrays", "copyOfRangeByte", "([BII)[B"⟩ : MethodName) (head1 ((Jvm.Cond.code (⟨"java/util/Arrays", "copyOfRangeByte", "([BII)[B"⟩ : MethodName) jdk_65_method_133_code 5 (some (.array .byte))) :: ws) ({ frames := 1, cells := 1, slots := 5, locals := 18 } : Room)) (fun a U => a = #[(.ref a1), (.int (Int32.ofNat k)), (.int (Int32.ofNat cs.length))] ∧ Z.Warmed39 U.vm ∧ U.heap = h0) (fun _ _ _ _ _ => True) (fun _ U o U' => ∃ v L, o = .returned v ∧ Q_corB Z a1 kb cs k h0 n0 v U'.heap L ∧ FrameEnd U o U' L ({ frames := 1, cells := 1, slots := 5, locals := 18 } : Room).cells ({ frames := 1, cells := 1, slots := 5, locals := 18 } : Room).slots) := by
  refine MetFree.of_bodySF (plainFor_of_name pn_3) hisR ?_
  intro p e s m args below meth c s₁ Bd hml0 hP hK
  obtain ⟨rfl, hZ, hh⟩ := hP
  have hx := Bd.exec
  have hby := Bd.bytes
  have hml : c.maxLocals = 5 := hml0
  have hown : s.vm.findClass "java/util/Arrays" = some m.cls := (findClass_of_methodNamed Bd.named :)
  have hnm := (name_of_methodNamed Bd.named Bd.method).1
  have X0 : Stand p l e ({ frames := 1, cells := 1, slots := 5, locals := 18 } : Room) s m #[(.ref a1), (.int (Int32.ofNat k)), (.int (Int32.ofNat cs.length))] below meth c s₁ [] 0 0 := Stand.of_body Bd
  have e0 : s₁.heap = h0 := by rw [← hh, Bd.state]; rfl
  have N0 := Fr.nil n0
  have K0 : Keep h0 h0 [] := Keep.refl _ _
  suffices hG : Goes p e below (fun o U' => ∃ v L, o = .returned v ∧ Q_corB Z a1 kb cs k h0 n0 v U'.heap L ∧ FrameEnd s o U' L ({ frames := 1, cells := 1, slots := 5, locals := 18 } : Room).cells ({ frames := 1, cells := 1, slots := 5, locals := 18 } : Room).slots) s₁ (mkF m 0 #[.val (.ref a1), .val (.int (Int32.ofNat k)), .val (.int (Int32.ofNat cs.length)), .unset, .unset] []) by
    obtain ⟨t, o, h1, h2⟩ := hG; exact ⟨t, o, castTop (ef_corB m a1 (Int32.ofNat k) (Int32.ofNat cs.length)) h1, h2⟩
  refine Goes.step (T' := s₁) (g' := (mkF m 1 #[.val (.ref a1), .val (.int (Int32.ofNat k)), .val (.int (Int32.ofNat cs.length)), .unset, .unset] [(.int (Int32.ofNat k))])) (fun _ kz => XS.iloadN X0.here hx rfl (hb hby d_jdk_65_method_133_0) rfl  kz) ?_
  refine Goes.step (T' := s₁) (g' := (mkF m 2 #[.val (.ref a1), .val (.int (Int32.ofNat k)), .val (.int (Int32.ofNat cs.length)), .unset, .unset] [(.int (Int32.ofNat cs.length)), (.int (Int32.ofNat k))])) (fun _ kz => XS.iloadN X0.here hx rfl (hb hby d_jdk_65_method_133_1) rfl  kz) ?_
  obtain ⟨_, _, ⟨T25, L25, k25, n25⟩, -, X25, ⟨Lc25, hQ25, l25, y25, z25⟩, st25⟩ := Jvm.LawKit.callS X0 hx (y := (⟨"java/util/Arrays", "checkLength", "(II)V"⟩ : MethodName)) hown (mvT hZ (hw _ (List.mem_of_getElem? (i := 156) rfl))) (mvT hZ (hw _ (List.mem_of_getElem? (i := 157) rfl))) (mvT hZ (hw _ (List.mem_of_getElem? (i := 151) rfl))) (mvT hZ (hw _ (List.mem_of_getElem? (i := 158) rfl))) (by decide) (backOf (W := 0) (rm_chkLen l Z a0 hw [] (Int32.ofNat k) (Int32.ofNat cs.length) h0 n0 O0  (fun q => absurd ((own_lt (by omega) (by omega)).mp q) (by omega))) hZ (hw _ (List.mem_of_getElem? (i := 158) rfl)) (hw _ (List.mem_of_getElem? (i := 151) rfl)) (by decide) (by decide)) (g := (mkF m 2 #[.val (.ref a1), .val (.int (Int32.ofNat k)), .val (.int (Int32.ofNat cs.length)), .unset, .unset] [(.int (Int32.ofNat cs.length)), (.int (Int32.ofNat k))])) rfl (by rw [hml]; rfl) (argsL := [(.int (Int32.ofNat k)), (.int (Int32.ofNat cs.length))]) (rest := []) (lenOf pd_7 rfl) rfl (by show 2 * 0 + _ ≤ _; exact Nat.le_of_eq rfl) (hb hby d_jdk_65_method_133_2) (fun _ _ => ⟨rfl, e0, (by decide : 0 + 0 ≤ _), (by decide : 0 + 0 ≤ _)⟩)
  dsimp only [Pt.U, Pt.locs, Pt.cells, Pt.slots] at X25 l25 y25 z25 st25 hQ25
  subst l25 y25 z25
  obtain ⟨rfl, rfl, e25⟩ := hQ25
  replace N0 := Fr.app N0 (Fr.nil n0)
  refine Goes.step (T' := T25) (g' := (mkF m 5 #[.val (.ref a1), .val (.int (Int32.ofNat k)), .val (.int (Int32.ofNat cs.length)), .unset, .unset] [])) st25 ?_
  refine Goes.step (T' := T25) (g' := (mkF m 6 #[.val (.ref a1), .val (.int (Int32.ofNat k)), .val (.int (Int32.ofNat cs.length)), .unset, .unset] [(.int (Int32.ofNat cs.length))])) (fun _ kz => XS.iloadN X25.here hx rfl (hb hby d_jdk_65_method_133_5) rfl  kz) ?_
  refine Goes.step (T' := T25) (g' := (mkF m 7 #[.val (.ref a1), .val (.int (Int32.ofNat k)), .val (.int (Int32.ofNat cs.length)), .unset, .unset] [(.int (Int32.ofNat k)), (.int (Int32.ofNat cs.length))])) (fun _ kz => XS.iloadN X25.here hx rfl (hb hby d_jdk_65_method_133_6) rfl  kz) ?_
  refine Goes.step (T' := T25) (g' := (mkF m 8 #[.val (.ref a1), .val (.int (Int32.ofNat k)), .val (.int (Int32.ofNat cs.length)), .unset, .unset] [(.int ((Int32.ofNat cs.length) - (Int32.ofNat k)))])) (fun _ kz => XS.isub X25.here hx rfl (hb hby d_jdk_65_method_133_7) rfl kz) ?_
  rw [own_subN hk hl]
  refine Goes.step (T' := T25) (g' := (mkF m 9 #[.val (.ref a1), .val (.int (Int32.ofNat k)), .val (.int (Int32.ofNat cs.length)), .val (.int (Int32.ofNat (cs.length - k))), .unset] [])) (fun _ kz => XS.istoreN X25.here hx rfl (hb hby d_jdk_65_method_133_8) rfl (l' := #[.val (.ref a1), .val (.int (Int32.ofNat k)), .val (.int (Int32.ofNat cs.length)), .val (.int (Int32.ofNat (cs.length - k))), .unset]) rfl kz) ?_
  refine Goes.step (T' := T25) (g' := (mkF m 10 #[.val (.ref a1), .val (.int (Int32.ofNat k)), .val (.int (Int32.ofNat cs.length)), .val (.int (Int32.ofNat (cs.length - k))), .unset] [(.int (Int32.ofNat (cs.length - k)))])) (fun _ kz => XS.iloadN X25.here hx rfl (hb hby d_jdk_65_method_133_9) rfl  kz) ?_
  obtain ⟨T26, h26, kc26, X26, e26, Ex26, A26, st26⟩ := newP X25 hx hZ (hw _ (List.mem_of_getElem? (i := 27) rfl)) e25 (g := (mkF m 10 #[.val (.ref a1), .val (.int (Int32.ofNat k)), .val (.int (Int32.ofNat cs.length)), .val (.int (Int32.ofNat (cs.length - k))), .unset] [(.int (Int32.ofNat (cs.length - k)))])) rfl (hb hby d_jdk_65_method_133_10) rfl (own_nn (by omega)) (cap := 5) (by rw [own_clamp (by omega)]; omega) (by decide) (by decide) (by decide)
  obtain ⟨b26, gg26⟩ : ∃ z, z = h0.size := ⟨_, rfl⟩
  rw [← gg26] at A26 st26
  have g_b26 : n0 ≤ b26 := Nat.le_trans (own_n0 O0) (Nat.le_of_eq gg26.symm)
  have sz_b26 : h0.size ≤ b26 := Nat.le_trans K0.1 (Nat.le_of_eq gg26.symm)
  have ne_a1_b26 : a1 ≠ b26 := Nat.ne_of_lt (Nat.lt_of_lt_of_le V_a1.lt (Nat.le_of_eq gg26.symm))
  replace V_a1 := V_a1.ext Ex26
  replace O0 := O0.ext Ex26
  replace K0 := K0.ext Ex26
  have V_b26 : Arv Z h26 b26 kc26 .byte (Int32.ofNat (cs.length - k)) [] (.int (0 : Int32)) := Arv.new A26 (own_nn (by omega))
  refine Goes.step (T' := T26) (g' := (mkF m 12 #[.val (.ref a1), .val (.int (Int32.ofNat k)), .val (.int (Int32.ofNat cs.length)), .val (.int (Int32.ofNat (cs.length - k))), .unset] [(.ref b26)])) st26 ?_
  refine Goes.step (T' := T26) (g' := (mkF m 14 #[.val (.ref a1), .val (.int (Int32.ofNat k)), .val (.int (Int32.ofNat cs.length)), .val (.int (Int32.ofNat (cs.length - k))), .val (.ref b26)] [])) (fun _ kz => XS.astore X26.here hx rfl (hb hby d_jdk_65_method_133_12) rfl rfl (l' := #[.val (.ref a1), .val (.int (Int32.ofNat k)), .val (.int (Int32.ofNat cs.length)), .val (.int (Int32.ofNat (cs.length - k))), .val (.ref b26)]) rfl kz) ?_
  refine Goes.step (T' := T26) (g' := (mkF m 15 #[.val (.ref a1), .val (.int (Int32.ofNat k)), .val (.int (Int32.ofNat cs.length)), .val (.int (Int32.ofNat (cs.length - k))), .val (.ref b26)] [(.ref a1)])) (fun _ kz => XS.aloadN X26.here hx rfl (hb hby d_jdk_65_method_133_14) rfl rfl kz) ?_
  refine Goes.step (T' := T26) (g' := (mkF m 16 #[.val (.ref a1), .val (.int (Int32.ofNat k)), .val (.int (Int32.ofNat cs.length)), .val (.int (Int32.ofNat (cs.length - k))), .val (.ref b26)] [(.int (Int32.ofNat k)), (.ref a1)])) (fun _ kz => XS.iloadN X26.here hx rfl (hb hby d_jdk_65_method_133_15) rfl  kz) ?_
  refine Goes.step (T' := T26) (g' := (mkF m 18 #[.val (.ref a1), .val (.int (Int32.ofNat k)), .val (.int (Int32.ofNat cs.length)), .val (.int (Int32.ofNat (cs.length - k))), .val (.ref b26)] [(.ref b26), (.int (Int32.ofNat k)), (.ref a1)])) (fun _ kz => XS.aload X26.here hx rfl (hb hby d_jdk_65_method_133_16) rfl rfl kz) ?_
  refine Goes.step (T' := T26) (g' := (mkF m 19 #[.val (.ref a1), .val (.int (Int32.ofNat k)), .val (.int (Int32.ofNat cs.length)), .val (.int (Int32.ofNat (cs.length - k))), .val (.ref b26)] [(.int (0 : Int32)), (.ref b26), (.int (Int32.ofNat k)), (.ref a1)])) (fun _ kz => XS.iconst X26.here hx rfl (hb hby d_jdk_65_method_133_18) kz) ?_
  refine Goes.step (T' := T26) (g' := (mkF m 20 #[.val (.ref a1), .val (.int (Int32.ofNat k)), .val (.int (Int32.ofNat cs.length)), .val (.int (Int32.ofNat (cs.length - k))), .val (.ref b26)] [(.ref a1), (.int (0 : Int32)), (.ref b26), (.int (Int32.ofNat k)), (.ref a1)])) (fun _ kz => XS.aloadN X26.here hx rfl (hb hby d_jdk_65_method_133_19) rfl rfl kz) ?_
  obtain ⟨cl27, Ar27, q27, Sz27, Nn27, Hs27, Gs27⟩ := (id V_a1 : Arv Z h26 a1 kb .byte (Int32.ofNat cs.length) (cs.map fun c => Value.int (c.toInt8.toInt32)) (.int (0 : Int32)))
  have al27 := X26.arraylength hx (by rw [e26]; exact Ar27.1) (State.isArrayOf_alike hZ.alike Ar27.2.1) (g := (mkF m 20 #[.val (.ref a1), .val (.int (Int32.ofNat k)), .val (.int (Int32.ofNat cs.length)), .val (.int (Int32.ofNat (cs.length - k))), .val (.ref b26)] [(.ref a1), (.int (0 : Int32)), (.ref b26), (.int (Int32.ofNat k)), (.ref a1)])) rfl rfl (hb hby d_jdk_65_method_133_20)
  rw [len_of Sz27 Nn27] at al27
  refine Goes.step (T' := T26) (g' := (mkF m 21 #[.val (.ref a1), .val (.int (Int32.ofNat k)), .val (.int (Int32.ofNat cs.length)), .val (.int (Int32.ofNat (cs.length - k))), .val (.ref b26)] [(.int (Int32.ofNat cs.length)), (.int (0 : Int32)), (.ref b26), (.int (Int32.ofNat k)), (.ref a1)])) al27 ?_
  refine Goes.step (T' := T26) (g' := (mkF m 22 #[.val (.ref a1), .val (.int (Int32.ofNat k)), .val (.int (Int32.ofNat cs.length)), .val (.int (Int32.ofNat (cs.length - k))), .val (.ref b26)] [(.int (Int32.ofNat k)), (.int (Int32.ofNat cs.length)), (.int (0 : Int32)), (.ref b26), (.int (Int32.ofNat k)), (.ref a1)])) (fun _ kz => XS.iloadN X26.here hx rfl (hb hby d_jdk_65_method_133_21) rfl  kz) ?_
  refine Goes.step (T' := T26) (g' := (mkF m 23 #[.val (.ref a1), .val (.int (Int32.ofNat k)), .val (.int (Int32.ofNat cs.length)), .val (.int (Int32.ofNat (cs.length - k))), .val (.ref b26)] [(.int ((Int32.ofNat cs.length) - (Int32.ofNat k))), (.int (0 : Int32)), (.ref b26), (.int (Int32.ofNat k)), (.ref a1)])) (fun _ kz => XS.isub X26.here hx rfl (hb hby d_jdk_65_method_133_22) rfl kz) ?_
  rw [own_subN hk hl]
  refine Goes.step (T' := T26) (g' := (mkF m 24 #[.val (.ref a1), .val (.int (Int32.ofNat k)), .val (.int (Int32.ofNat cs.length)), .val (.int (Int32.ofNat (cs.length - k))), .val (.ref b26)] [(.int (Int32.ofNat (cs.length - k))), (.int (Int32.ofNat (cs.length - k))), (.int (0 : Int32)), (.ref b26), (.int (Int32.ofNat k)), (.ref a1)])) (fun _ kz => XS.iloadN X26.here hx rfl (hb hby d_jdk_65_method_133_23) rfl  kz) ?_
  obtain ⟨_, _, ⟨T28, L28, k28, n28⟩, -, X28, ⟨Lc28, hQ28, l28, y28, z28⟩, st28⟩ := Jvm.LawKit.callS X26 hx (y := (⟨"java/lang/Math", "min", "(II)I"⟩ : MethodName)) hown (mvT hZ (hw _ (List.mem_of_getElem? (i := 159) rfl))) (mvT hZ (hw _ (List.mem_of_getElem? (i := 124) rfl))) (mvT hZ (hw _ (List.mem_of_getElem? (i := 125) rfl))) (mvT hZ (hw _ (List.mem_of_getElem? (i := 126) rfl))) (by decide) (backOf (W := 4) (rm_mathmin l Z a0 hw [] (Int32.ofNat (cs.length - k)) (Int32.ofNat (cs.length - k)) h26 n0 O0  ) hZ (hw _ (List.mem_of_getElem? (i := 126) rfl)) (hw _ (List.mem_of_getElem? (i := 125) rfl)) (by decide) (by decide)) (g := (mkF m 24 #[.val (.ref a1), .val (.int (Int32.ofNat k)), .val (.int (Int32.ofNat cs.length)), .val (.int (Int32.ofNat (cs.length - k))), .val (.ref b26)] [(.int (Int32.ofNat (cs.length - k))), (.int (Int32.ofNat (cs.length - k))), (.int (0 : Int32)), (.ref b26), (.int (Int32.ofNat k)), (.ref a1)])) rfl (by rw [hml]; rfl) (argsL := [(.int (Int32.ofNat (cs.length - k))), (.int (Int32.ofNat (cs.length - k)))]) (rest := [(.int (0 : Int32)), (.ref b26), (.int (Int32.ofNat k)), (.ref a1)]) (lenOf pd_2 rfl) rfl (by show 2 * 0 + _ ≤ _; exact Nat.le_of_eq rfl) (hb hby d_jdk_65_method_133_24) (fun _ _ => ⟨rfl, e26, (by decide : 1 + 0 ≤ _), (by decide : 5 + 0 ≤ _)⟩)
  dsimp only [Pt.U, Pt.locs, Pt.cells, Pt.slots] at X28 l28 y28 z28 st28 hQ28
  subst l28 y28 z28
  obtain ⟨rfl, rfl, e28⟩ := hQ28
  replace N0 := Fr.app N0 (Fr.nil n0)
  refine Goes.step (T' := T28) (g' := (mkF m 27 #[.val (.ref a1), .val (.int (Int32.ofNat k)), .val (.int (Int32.ofNat cs.length)), .val (.int (Int32.ofNat (cs.length - k))), .val (.ref b26)] [(.int (if (Int32.ofNat (cs.length - k)) < (Int32.ofNat (cs.length - k)) then (Int32.ofNat (cs.length - k)) else (Int32.ofNat (cs.length - k)))), (.int (0 : Int32)), (.ref b26), (.int (Int32.ofNat k)), (.ref a1)])) st28 ?_
  rw [own_minS]
  replace V_b26 : Arv Z h26 b26 kc26 .byte (Int32.ofNat (cs.length - k)) ([] ++ List.replicate (Int32.ofNat (cs.length - k)).toNatClampNeg (.int (0 : Int32))) (.int (0 : Int32)) := V_b26.pad (pad_rep _ _ _)
  obtain ⟨T29, h29, Lc29, X29, e29, Nq29, Kq29, V_q29, st29⟩ := cpA X28 hx hZ hown (hw _ (List.mem_of_getElem? (i := 160) rfl)) (hw _ (List.mem_of_getElem? (i := 163) rfl)) (hw _ (List.mem_of_getElem? (i := 161) rfl)) (hw _ (List.mem_of_getElem? (i := 162) rfl)) e28 V_a1 V_b26 (Or.inl ⟨rfl, rfl⟩) (sp := (Int32.ofNat k)) (dp := (0 : Int32)) (nn := (Int32.ofNat (cs.length - k))) (us := ((cs.drop k).map fun c => Value.int (c.toInt8.toInt32))) (own_nn (by omega)) (by decide) (own_nn (by omega)) (by rw [own_clamp (by omega), own_clamp (by omega), own_clamp (by omega)]; omega) (by rw [own_clamp (by omega)]; simp) (own_rngD (own_clamp (by omega)) (own_clamp (by omega)) rfl) (by simp) N0 g_b26 (g := (mkF m 27 #[.val (.ref a1), .val (.int (Int32.ofNat k)), .val (.int (Int32.ofNat cs.length)), .val (.int (Int32.ofNat (cs.length - k))), .val (.ref b26)] [(.int (Int32.ofNat (cs.length - k))), (.int (0 : Int32)), (.ref b26), (.int (Int32.ofNat k)), (.ref a1)])) rfl (by rw [hml]; rfl) rfl (hb hby d_jdk_65_method_133_27) (by decide) (W := 0) (by show 2 * 0 + _ ≤ _; exact Nat.le_of_eq rfl) (by decide)
  replace N0 := Nq29
  replace V_a1 := V_a1.keep Kq29 (ninS ne_a1_b26 nin0)
  clear V_b26
  replace O0 := O0.keep Kq29 (allS g_b26 all0)
  replace K0 := K0.trans Kq29 (allS (Or.inr sz_b26) all0)
  have V_b26 : Arv Z h29 b26 kc26 .byte (Int32.ofNat (cs.length - k)) ((cs.drop k).map fun c => Value.int (c.toInt8.toInt32)) (.int (0 : Int32)) := (own_cat0 (us := ((cs.drop k).map fun c => Value.int (c.toInt8.toInt32))) (dv := (.int (0 : Int32))) (d := (0 : Int32).toNatClampNeg) (k := (Int32.ofNat (cs.length - k)).toNatClampNeg) (by decide) (by rw [own_clamp (by omega)]; simp)) ▸ V_q29
  refine Goes.step (T' := T29) (g' := (mkF m 30 #[.val (.ref a1), .val (.int (Int32.ofNat k)), .val (.int (Int32.ofNat cs.length)), .val (.int (Int32.ofNat (cs.length - k))), .val (.ref b26)] [])) st29 ?_
  refine Goes.step (T' := T29) (g' := (mkF m 32 #[.val (.ref a1), .val (.int (Int32.ofNat k)), .val (.int (Int32.ofNat cs.length)), .val (.int (Int32.ofNat (cs.length - k))), .val (.ref b26)] [(.ref b26)])) (fun _ kz => XS.aload X29.here hx rfl (hb hby d_jdk_65_method_133_30) rfl rfl kz) ?_
  obtain ⟨fs, hr, hrun, hended, hW, hsame⟩ := X29.leave (v := some (.ref b26)) (fun h => by rw [Bd.returns] at h; cases h)
  exact ⟨_, _, retOut X29 hx Bd.returns rfl (Or.inr (Or.inr (Or.inr (Or.inr ⟨rfl, rfl, rfl⟩)))) (hb hby d_jdk_65_method_133_32) hr, hrun, hended, _, _, rfl, (by show Q_corB Z a1 kb cs k h0 n0 _ T29.heap _; rw [e29]; exact ⟨b26, kc26, rfl, N0, K0, sz_b26, V_b26⟩), ⟨_, rfl⟩, hW, hsame.mono (by decide) (by decide)⟩
theorem d_jdk_65_method_132_0 : decode jdk_65_method_132_code 0 = .ok (.iload_n 1, 1) := by decide +kernel
theorem d_jdk_65_method_132_1 : decode jdk_65_method_132_code 1 = .ok (.ifCond .ne 9, 3) := by decide +kernel
theorem d_jdk_65_method_132_10 : decode jdk_65_method_132_code 10 = .ok (.aload_n 0, 1) := by decide +kernel
theorem d_jdk_65_method_132_11 : decode jdk_65_method_132_code 11 = .ok (.iload_n 1, 1) := by decide +kernel
theorem d_jdk_65_method_132_12 : decode jdk_65_method_132_code 12 = .ok (.iload_n 2, 1) := by decide +kernel
theorem d_jdk_65_method_132_13 : decode jdk_65_method_132_code 13 = .ok (.invokestatic 339, 3) := by decide +kernel
theorem pd_8 : parseMethodDescriptor "([BII)[B" = some ⟨[(.array .byte), .int, .int], some (.array .byte)⟩ := by decide +kernel
theorem d_jdk_65_method_132_16 : decode jdk_65_method_132_code 16 = .ok (.areturn, 1) := by decide +kernel
theorem ef_cor (m : MethodId) (a1 : Addr) (q1 : Int32) (q2 : Int32) : entryFrame m #[(.ref a1), (.int q1), (.int q2)] 3 = mkF m 0 #[.val (.ref a1), .val (.int q1), .val (.int q2)] [] := by first | (simp [entryFrame, mkF, argsToLocals, Value.category, maxLocals]; done) | rfl
def Q_cor (Z : State) (a1 : Addr) (kb : ClassId) (cs : List Int32) (k : Nat) (h0 : Heap) (n0 : Nat) (v : Option Value) (h : Heap) (L : List Loc) : Prop := ∃ t2 : Addr, ∃ k2 : ClassId, (v = some (.ref t2)) ∧ (Fr n0 L) ∧ (Keep h0 h []) ∧ (h0.size ≤ t2) ∧ (Arv Z h t2 k2 .byte (Int32.ofNat (cs.length - k)) ((cs.drop k).map fun c => Value.int (c.toInt8.toInt32)) (.int (0 : Int32)))
set_option maxRecDepth 65536 in
set_option maxHeartbeats 40000000 in
theorem rm_cor (l : Launch) (Z : State) (a0 : Array Value) (hw : ∀ d ∈ tables_1, d.before a0 Z = true) (ws : List Jvm.Cond) (a1 : Addr) (kb : ClassId) (cs : List Int32) (k : Nat) (h0 : Heap) (n0 : Nat) (O0 : Old Z n0 h0)  (V_a1 : Arv Z h0 a1 kb .byte (Int32.ofNat cs.length) (cs.map fun c => Value.int (c.toInt8.toInt32)) (.int (0 : Int32))) (hl : cs.length ≤ 5) (hk : k ≤ cs.length) (hk0 : ¬ Int32.ofNat k = (0 : Int32)) :
    MetFree l (⟨"java/util/Arrays", "copyOfRange", "([BII)[B"⟩ : MethodName) (head1 ((Jvm.Cond.code (⟨"java/util/Arrays", "copyOfRange", "([BII)[B"⟩ : MethodName) jdk_65_method_132_code 3 (some (.array .byte))) :: ws) ({ frames := 2, cells := 1, slots := 5, locals := 34 } : Room)) (fun a U => a = #[(.ref a1), (.int (Int32.ofNat k)), (.int (Int32.ofNat cs.length))] ∧ Z.Warmed39 U.vm ∧ U.heap = h0) (fun _ _ _ _ _ => True) (fun _ U o U' => ∃ v L, o = .returned v ∧ Q_cor Z a1 kb cs k h0 n0 v U'.heap L ∧ FrameEnd U o U' L ({ frames := 2, cells := 1, slots := 5, locals := 34 } : Room).cells ({ frames := 2, cells := 1, slots := 5, locals := 34 } : Room).slots) := by
  refine MetFree.of_bodySF (plainFor_of_name pn_3) hisR ?_
  intro p e s m args below meth c s₁ Bd hml0 hP hK
  obtain ⟨rfl, hZ, hh⟩ := hP
  have hx := Bd.exec
  have hby := Bd.bytes
  have hml : c.maxLocals = 3 := hml0
  have hown : s.vm.findClass "java/util/Arrays" = some m.cls := (findClass_of_methodNamed Bd.named :)
  have hnm := (name_of_methodNamed Bd.named Bd.method).1
  have X0 : Stand p l e ({ frames := 2, cells := 1, slots := 5, locals := 34 } : Room) s m #[(.ref a1), (.int (Int32.ofNat k)), (.int (Int32.ofNat cs.length))] below meth c s₁ [] 0 0 := Stand.of_body Bd
  have e0 : s₁.heap = h0 := by rw [← hh, Bd.state]; rfl
  have N0 := Fr.nil n0
  have K0 : Keep h0 h0 [] := Keep.refl _ _
  suffices hG : Goes p e below (fun o U' => ∃ v L, o = .returned v ∧ Q_cor Z a1 kb cs k h0 n0 v U'.heap L ∧ FrameEnd s o U' L ({ frames := 2, cells := 1, slots := 5, locals := 34 } : Room).cells ({ frames := 2, cells := 1, slots := 5, locals := 34 } : Room).slots) s₁ (mkF m 0 #[.val (.ref a1), .val (.int (Int32.ofNat k)), .val (.int (Int32.ofNat cs.length))] []) by
    obtain ⟨t, o, h1, h2⟩ := hG; exact ⟨t, o, castTop (ef_cor m a1 (Int32.ofNat k) (Int32.ofNat cs.length)) h1, h2⟩
  refine Goes.step (T' := s₁) (g' := (mkF m 1 #[.val (.ref a1), .val (.int (Int32.ofNat k)), .val (.int (Int32.ofNat cs.length))] [(.int (Int32.ofNat k))])) (fun _ kz => XS.iloadN X0.here hx rfl (hb hby d_jdk_65_method_132_0) rfl  kz) ?_
  refine Goes.step (T' := s₁) (g' := (mkF m 10 #[.val (.ref a1), .val (.int (Int32.ofNat k)), .val (.int (Int32.ofNat cs.length))] [])) (fun _ kz => XS.ifYes X0.here hx rfl (pc0 := 1) (pc' := 10) rfl (hb hby d_jdk_65_method_132_1) rfl ((if0 _ _).trans (feq hk0).2) (by decide) (by decide) kz) ?_
  refine Goes.step (T' := s₁) (g' := (mkF m 11 #[.val (.ref a1), .val (.int (Int32.ofNat k)), .val (.int (Int32.ofNat cs.length))] [(.ref a1)])) (fun _ kz => XS.aloadN X0.here hx rfl (hb hby d_jdk_65_method_132_10) rfl rfl kz) ?_
  refine Goes.step (T' := s₁) (g' := (mkF m 12 #[.val (.ref a1), .val (.int (Int32.ofNat k)), .val (.int (Int32.ofNat cs.length))] [(.int (Int32.ofNat k)), (.ref a1)])) (fun _ kz => XS.iloadN X0.here hx rfl (hb hby d_jdk_65_method_132_11) rfl  kz) ?_
  refine Goes.step (T' := s₁) (g' := (mkF m 13 #[.val (.ref a1), .val (.int (Int32.ofNat k)), .val (.int (Int32.ofNat cs.length))] [(.int (Int32.ofNat cs.length)), (.int (Int32.ofNat k)), (.ref a1)])) (fun _ kz => XS.iloadN X0.here hx rfl (hb hby d_jdk_65_method_132_12) rfl  kz) ?_
  obtain ⟨_, _, ⟨T30, L30, k30, n30⟩, -, X30, ⟨Lc30, hQ30, l30, y30, z30⟩, st30⟩ := Jvm.LawKit.callS X0 hx (y := (⟨"java/util/Arrays", "copyOfRangeByte", "([BII)[B"⟩ : MethodName)) hown (mvT hZ (hw _ (List.mem_of_getElem? (i := 153) rfl))) (mvT hZ (hw _ (List.mem_of_getElem? (i := 154) rfl))) (mvT hZ (hw _ (List.mem_of_getElem? (i := 151) rfl))) (mvT hZ (hw _ (List.mem_of_getElem? (i := 155) rfl))) (by decide) (backOf (W := 0) (rm_corB l Z a0 hw [] a1 (kb) (cs) (k) h0 n0 O0  V_a1 (by first | assumption | decide) (by first | assumption | decide)) hZ (hw _ (List.mem_of_getElem? (i := 155) rfl)) (hw _ (List.mem_of_getElem? (i := 151) rfl)) (by decide) (by decide)) (g := (mkF m 13 #[.val (.ref a1), .val (.int (Int32.ofNat k)), .val (.int (Int32.ofNat cs.length))] [(.int (Int32.ofNat cs.length)), (.int (Int32.ofNat k)), (.ref a1)])) rfl (by rw [hml]; rfl) (argsL := [(.ref a1), (.int (Int32.ofNat k)), (.int (Int32.ofNat cs.length))]) (rest := []) (lenOf pd_8 rfl) rfl (by show 2 * 0 + _ ≤ _; exact Nat.le_of_eq rfl) (hb hby d_jdk_65_method_132_13) (fun _ _ => ⟨rfl, e0, (by decide : 0 + 1 ≤ _), (by decide : 0 + 5 ≤ _)⟩)
  dsimp only [Pt.U, Pt.locs, Pt.cells, Pt.slots] at X30 l30 y30 z30 st30 hQ30
  subst l30 y30 z30
  obtain ⟨h30, e30⟩ : ∃ z, T30.heap = z := ⟨_, rfl⟩
  rw [e30] at hQ30
  obtain ⟨t2_30, k2_30, rfl, Nq30, Kq30, fr30_t2_30, V_t2_30_q30⟩ := hQ30
  replace N0 := Fr.app N0 Nq30
  have g_t2_30 : n0 ≤ t2_30 := Nat.le_trans (own_n0 O0) fr30_t2_30
  have sz_t2_30 : h0.size ≤ t2_30 := Nat.le_trans K0.1 fr30_t2_30
  have ne_a1_t2_30 : a1 ≠ t2_30 := Nat.ne_of_lt (Nat.lt_of_lt_of_le V_a1.lt fr30_t2_30)
  replace V_a1 := V_a1.keep Kq30 nin0
  replace O0 := O0.keep Kq30 all0
  replace K0 := K0.trans Kq30 all0
  have V_t2_30 := V_t2_30_q30
  refine Goes.step (T' := T30) (g' := (mkF m 16 #[.val (.ref a1), .val (.int (Int32.ofNat k)), .val (.int (Int32.ofNat cs.length))] [(.ref t2_30)])) st30 ?_
  obtain ⟨fs, hr, hrun, hended, hW, hsame⟩ := X30.leave (v := some (.ref t2_30)) (fun h => by rw [Bd.returns] at h; cases h)
  exact ⟨_, _, retOut X30 hx Bd.returns rfl (Or.inr (Or.inr (Or.inr (Or.inr ⟨rfl, rfl, rfl⟩)))) (hb hby d_jdk_65_method_132_16) hr, hrun, hended, _, _, rfl, (by show Q_cor Z a1 kb cs k h0 n0 _ T30.heap _; rw [e30]; exact ⟨t2_30, k2_30, rfl, N0, K0, sz_t2_30, V_t2_30⟩), ⟨_, rfl⟩, hW, hsame.mono (by decide) (by decide)⟩
theorem d_jdk_42_method_151_0 : decode jdk_42_method_151_code 0 = .ok (.aload_n 0, 1) := by decide +kernel
theorem d_jdk_42_method_151_1 : decode jdk_42_method_151_code 1 = .ok (.invokespecial 1, 3) := by decide +kernel
theorem d_jdk_42_method_151_4 : decode jdk_42_method_151_code 4 = .ok (.aload_n 0, 1) := by decide +kernel
theorem d_jdk_42_method_151_5 : decode jdk_42_method_151_code 5 = .ok (.aload_n 1, 1) := by decide +kernel
theorem d_jdk_42_method_151_6 : decode jdk_42_method_151_code 6 = .ok (.putfield 9, 3) := by decide +kernel
theorem d_jdk_42_method_151_9 : decode jdk_42_method_151_code 9 = .ok (.aload_n 0, 1) := by decide +kernel
theorem d_jdk_42_method_151_10 : decode jdk_42_method_151_code 10 = .ok (.iload_n 2, 1) := by decide +kernel
theorem d_jdk_42_method_151_11 : decode jdk_42_method_151_code 11 = .ok (.putfield 15, 3) := by decide +kernel
theorem d_jdk_42_method_151_14 : decode jdk_42_method_151_code 14 = .ok (.return_, 1) := by decide +kernel
theorem ef_initBB (m : MethodId) (a1 : Addr) (a2 : Addr) : entryFrame m #[(.ref a1), (.ref a2), (.int (0 : Int32))] 3 = mkF m 0 #[.val (.ref a1), .val (.ref a2), .val (.int (0 : Int32))] [] := by first | (simp [entryFrame, mkF, argsToLocals, Value.category, maxLocals]; done) | rfl
def Q_initBB (Z : State) (a1 : Addr) (a2 : Addr) (h0 : Heap) (n0 : Nat) (v : Option Value) (h : Heap) (L : List Loc) : Prop := (v = none) ∧ (Fr n0 L) ∧ (Keep h0 h [a1]) ∧ (Exa Z h a1 "java/lang/String") ∧ (Fld Z h a1 "java/lang/String" "value" "[B" (.ref a2)) ∧ (Fld Z h a1 "java/lang/String" "coder" "B" (.int (0 : Int32)))
set_option maxRecDepth 65536 in
set_option maxHeartbeats 40000000 in
theorem rm_initBB (l : Launch) (Z : State) (a0 : Array Value) (hw : ∀ d ∈ tables_1, d.before a0 Z = true) (ws : List Jvm.Cond) (a1 : Addr) (a2 : Addr) (h0 : Heap) (n0 : Nat) (O0 : Old Z n0 h0)  (E_a1 : Exa Z h0 a1 "java/lang/String") (F_a1_value : Fld Z h0 a1 "java/lang/String" "value" "[B" .null) (F_a1_coder : Fld Z h0 a1 "java/lang/String" "coder" "B" (.int (0 : Int32))) (g_a1 : n0 ≤ a1) :
    MetFree l (⟨"java/lang/String", "<init>", "([BB)V"⟩ : MethodName) (head1 ((Jvm.Cond.code (⟨"java/lang/String", "<init>", "([BB)V"⟩ : MethodName) jdk_42_method_151_code 3 none) :: ws) ({ frames := 1, cells := 0, slots := 0, locals := 12 } : Room)) (fun a U => a = #[(.ref a1), (.ref a2), (.int (0 : Int32))] ∧ Z.Warmed39 U.vm ∧ U.heap = h0) (fun _ _ _ _ _ => True) (fun _ U o U' => ∃ v L, o = .returned v ∧ Q_initBB Z a1 a2 h0 n0 v U'.heap L ∧ FrameEnd U o U' L ({ frames := 1, cells := 0, slots := 0, locals := 12 } : Room).cells ({ frames := 1, cells := 0, slots := 0, locals := 12 } : Room).slots) := by
  refine MetFree.of_bodySF (plainFor_of_name pn_0) hisR ?_
  intro p e s m args below meth c s₁ Bd hml0 hP hK
  obtain ⟨rfl, hZ, hh⟩ := hP
  have hx := Bd.exec
  have hby := Bd.bytes
  have hml : c.maxLocals = 3 := hml0
  have hown : s.vm.findClass "java/lang/String" = some m.cls := (findClass_of_methodNamed Bd.named :)
  have hnm := (name_of_methodNamed Bd.named Bd.method).1
  have X0 : Stand p l e ({ frames := 1, cells := 0, slots := 0, locals := 12 } : Room) s m #[(.ref a1), (.ref a2), (.int (0 : Int32))] below meth c s₁ [] 0 0 := Stand.of_body Bd
  have e0 : s₁.heap = h0 := by rw [← hh, Bd.state]; rfl
  have N0 := Fr.nil n0
  have K0 : Keep h0 h0 [a1] := Keep.refl _ _
  suffices hG : Goes p e below (fun o U' => ∃ v L, o = .returned v ∧ Q_initBB Z a1 a2 h0 n0 v U'.heap L ∧ FrameEnd s o U' L ({ frames := 1, cells := 0, slots := 0, locals := 12 } : Room).cells ({ frames := 1, cells := 0, slots := 0, locals := 12 } : Room).slots) s₁ (mkF m 0 #[.val (.ref a1), .val (.ref a2), .val (.int (0 : Int32))] []) by
    obtain ⟨t, o, h1, h2⟩ := hG; exact ⟨t, o, castTop (ef_initBB m a1 a2) h1, h2⟩
  refine Goes.step (T' := s₁) (g' := (mkF m 1 #[.val (.ref a1), .val (.ref a2), .val (.int (0 : Int32))] [(.ref a1)])) (fun _ kz => XS.aloadN X0.here hx rfl (hb hby d_jdk_42_method_151_0) rfl rfl kz) ?_
  obtain ⟨T31, X31, e31, st31⟩ := initO X0 hx hZ hown (hw _ (List.mem_of_getElem? (i := 19) rfl)) (hw _ (List.mem_of_getElem? (i := 20) rfl)) (hw _ (List.mem_of_getElem? (i := 21) rfl)) e0 (g := (mkF m 1 #[.val (.ref a1), .val (.ref a2), .val (.int (0 : Int32))] [(.ref a1)])) rfl (by rw [hml]; rfl) rfl (hb hby d_jdk_42_method_151_1) (by decide) (W := 0) (by show 2 * 0 + _ ≤ _; exact Nat.le_of_eq rfl) (by decide)
  refine Goes.step (T' := T31) (g' := (mkF m 4 #[.val (.ref a1), .val (.ref a2), .val (.int (0 : Int32))] [])) st31 ?_
  refine Goes.step (T' := T31) (g' := (mkF m 5 #[.val (.ref a1), .val (.ref a2), .val (.int (0 : Int32))] [(.ref a1)])) (fun _ kz => XS.aloadN X31.here hx rfl (hb hby d_jdk_42_method_151_4) rfl rfl kz) ?_
  refine Goes.step (T' := T31) (g' := (mkF m 6 #[.val (.ref a1), .val (.ref a2), .val (.int (0 : Int32))] [(.ref a2), (.ref a1)])) (fun _ kz => XS.aloadN X31.here hx rfl (hb hby d_jdk_42_method_151_5) rfl rfl kz) ?_
  obtain ⟨T32, h32, X32, e32, W32, st32⟩ := putF X31 hx hZ hown (host := "") (Or.inl (hw _ (List.mem_of_getElem? (i := 36) rfl))) Via.refl e31 F_a1_value E_a1 (Or.inr ⟨(hw _ (List.mem_of_getElem? (i := 37) rfl)), rfl, hnm⟩) (hw _ (List.mem_of_getElem? (i := 10) rfl)) (ty := (.array .byte)) (by decide) rfl rfl (g := (mkF m 6 #[.val (.ref a1), .val (.ref a2), .val (.int (0 : Int32))] [(.ref a2), (.ref a1)])) rfl rfl (hb hby d_jdk_42_method_151_6)
  replace N0 := Fr.snoc X32 N0 g_a1
  replace E_a1 := E_a1.wr W32
  replace F_a1_value := F_a1_value.same W32
  replace F_a1_coder := F_a1_coder.other W32 (Or.inr (slot_ne (Or.inr (hw _ (List.mem_of_getElem? (i := 35) rfl))) (Or.inr (hw _ (List.mem_of_getElem? (i := 37) rfl))) (by decide) (t := .byte) (t' := (.array .byte)) (by decide) (by decide)))
  replace O0 := O0.wr W32 g_a1
  replace K0 := K0.wr W32 (Or.inl (List.mem_of_getElem? (i := 0) rfl))
  refine Goes.step (T' := T32) (g' := (mkF m 9 #[.val (.ref a1), .val (.ref a2), .val (.int (0 : Int32))] [])) st32 ?_
  refine Goes.step (T' := T32) (g' := (mkF m 10 #[.val (.ref a1), .val (.ref a2), .val (.int (0 : Int32))] [(.ref a1)])) (fun _ kz => XS.aloadN X32.here hx rfl (hb hby d_jdk_42_method_151_9) rfl rfl kz) ?_
  refine Goes.step (T' := T32) (g' := (mkF m 11 #[.val (.ref a1), .val (.ref a2), .val (.int (0 : Int32))] [(.int (0 : Int32)), (.ref a1)])) (fun _ kz => XS.iloadN X32.here hx rfl (hb hby d_jdk_42_method_151_10) rfl  kz) ?_
  obtain ⟨T33, h33, X33, e33, W33, st33⟩ := putF X32 hx hZ hown (host := "") (Or.inl (hw _ (List.mem_of_getElem? (i := 34) rfl))) Via.refl e32 F_a1_coder E_a1 (Or.inr ⟨(hw _ (List.mem_of_getElem? (i := 35) rfl)), rfl, hnm⟩) (hw _ (List.mem_of_getElem? (i := 10) rfl)) (ty := .byte) (by decide) rfl rfl (g := (mkF m 11 #[.val (.ref a1), .val (.ref a2), .val (.int (0 : Int32))] [(.int (0 : Int32)), (.ref a1)])) rfl rfl (hb hby d_jdk_42_method_151_11)
  replace N0 := Fr.snoc X33 N0 g_a1
  replace E_a1 := E_a1.wr W33
  replace F_a1_value := F_a1_value.other W33 (Or.inr (slot_ne (Or.inr (hw _ (List.mem_of_getElem? (i := 37) rfl))) (Or.inr (hw _ (List.mem_of_getElem? (i := 35) rfl))) (by decide) (t := (.array .byte)) (t' := .byte) (by decide) (by decide)))
  replace F_a1_coder := F_a1_coder.same W33
  replace O0 := O0.wr W33 g_a1
  replace K0 := K0.wr W33 (Or.inl (List.mem_of_getElem? (i := 0) rfl))
  refine Goes.step (T' := T33) (g' := (mkF m 14 #[.val (.ref a1), .val (.ref a2), .val (.int (0 : Int32))] [])) st33 ?_
  obtain ⟨fs, hr, hrun, hended, hW, hsame⟩ := X33.leave (v := none) (fun _ => rfl)
  exact ⟨_, _, X33.returnOut hx Bd.returns (hb hby d_jdk_42_method_151_14) hr, hrun, hended, _, _, rfl, (by show Q_initBB Z a1 a2 h0 n0 _ T33.heap _; rw [e33]; exact ⟨rfl, N0, K0, E_a1, F_a1_value, F_a1_coder⟩), ⟨_, rfl⟩, hW, hsame.mono (by decide) (by decide)⟩
theorem d_jdk_43_method_47_0 : decode jdk_43_method_47_code 0 = .ok (.iload_n 2, 1) := by decide +kernel
theorem d_jdk_43_method_47_1 : decode jdk_43_method_47_code 1 = .ok (.ifCond .ne 6, 3) := by decide +kernel
theorem d_jdk_43_method_47_4 : decode jdk_43_method_47_code 4 = .ok (.ldc 151, 2) := by decide +kernel
theorem d_jdk_43_method_47_6 : decode jdk_43_method_47_code 6 = .ok (.areturn, 1) := by decide +kernel
theorem d_jdk_43_method_47_7 : decode jdk_43_method_47_code 7 = .ok (.new 1, 3) := by decide +kernel
theorem d_jdk_43_method_47_10 : decode jdk_43_method_47_code 10 = .ok (.dup, 1) := by decide +kernel
theorem d_jdk_43_method_47_11 : decode jdk_43_method_47_code 11 = .ok (.aload_n 0, 1) := by decide +kernel
theorem d_jdk_43_method_47_12 : decode jdk_43_method_47_code 12 = .ok (.iload_n 1, 1) := by decide +kernel
theorem d_jdk_43_method_47_13 : decode jdk_43_method_47_code 13 = .ok (.iload_n 1, 1) := by decide +kernel
theorem d_jdk_43_method_47_14 : decode jdk_43_method_47_code 14 = .ok (.iload_n 2, 1) := by decide +kernel
theorem d_jdk_43_method_47_15 : decode jdk_43_method_47_code 15 = .ok (.iadd, 1) := by decide +kernel
theorem d_jdk_43_method_47_16 : decode jdk_43_method_47_code 16 = .ok (.invokestatic 232, 3) := by decide +kernel
theorem d_jdk_43_method_47_19 : decode jdk_43_method_47_code 19 = .ok (.iconst 0, 1) := by decide +kernel
theorem d_jdk_43_method_47_20 : decode jdk_43_method_47_code 20 = .ok (.invokespecial 112, 3) := by decide +kernel
theorem pd_9 : parseMethodDescriptor "([BB)V" = some ⟨[(.array .byte), .byte], none⟩ := by decide +kernel
theorem d_jdk_43_method_47_23 : decode jdk_43_method_47_code 23 = .ok (.areturn, 1) := by decide +kernel
theorem ef_newS (m : MethodId) (a1 : Addr) (q1 : Int32) (q2 : Int32) : entryFrame m #[(.ref a1), (.int q1), (.int q2)] 3 = mkF m 0 #[.val (.ref a1), .val (.int q1), .val (.int q2)] [] := by first | (simp [entryFrame, mkF, argsToLocals, Value.category, maxLocals]; done) | rfl
def Q_newS (Z : State) (a1 : Addr) (kb : ClassId) (cs : List Int32) (k : Nat) (h0 : Heap) (n0 : Nat) (v : Option Value) (h : Heap) (L : List Loc) : Prop := ∃ b : Addr, (v = some (.ref b)) ∧ (Fr n0 L) ∧ (Keep h0 h []) ∧ (Exa Z h b "java/lang/String") ∧ (SX Z h b (cs.drop k))
set_option maxRecDepth 65536 in
set_option maxHeartbeats 40000000 in
theorem rm_newS (l : Launch) (Z : State) (a0 : Array Value) (hw : ∀ d ∈ tables_1, d.before a0 Z = true) (ws : List Jvm.Cond) (hEL : EW Z a0 EL) (a1 : Addr) (kb : ClassId) (cs : List Int32) (k : Nat) (h0 : Heap) (n0 : Nat) (O0 : Old Z n0 h0)  (V_a1 : Arv Z h0 a1 kb .byte (Int32.ofNat cs.length) (cs.map fun c => Value.int (c.toInt8.toInt32)) (.int (0 : Int32))) (hl : cs.length ≤ 5) (hbd : ∀ c ∈ cs, ¬ c < 0 ∧ ¬ (255 : Int32) < c) (hk : k ≤ cs.length) (hk0 : ¬ Int32.ofNat k = (0 : Int32)) :
    MetFree l (⟨"java/lang/StringLatin1", "newString", "([BII)Ljava/lang/String;"⟩ : MethodName) (head1 ((Jvm.Cond.code (⟨"java/lang/StringLatin1", "newString", "([BII)Ljava/lang/String;"⟩ : MethodName) jdk_43_method_47_code 3 (some (.object "java/lang/String"))) :: ws) ({ frames := 3, cells := 2, slots := 9, locals := 50 } : Room)) (fun a U => a = #[(.ref a1), (.int (Int32.ofNat k)), (.int (Int32.ofNat (cs.length - k)))] ∧ Z.Warmed39 U.vm ∧ U.heap = h0 ∧ CHv Z EL U.vm h0) (fun _ _ _ _ _ => True) (fun _ U o U' => ∃ v L, o = .returned v ∧ Q_newS Z a1 kb cs k h0 n0 v U'.heap L ∧ CHr Z EL U.vm U.heap U'.vm U'.heap ∧ ReturnedEndW U o U' L ({ frames := 3, cells := 2, slots := 9, locals := 50 } : Room).cells ({ frames := 3, cells := 2, slots := 9, locals := 50 } : Room).slots) := by
  refine MetFree.of_bodySF (plainFor_of_name pn_1) hisR ?_
  intro p e s m args below meth c s₁ Bd hml0 hP hK
  obtain ⟨rfl, hZ, hh, hCH⟩ := hP
  have hx := Bd.exec
  have hby := Bd.bytes
  have hml : c.maxLocals = 3 := hml0
  have hown : (s.setVm s.vm).vm.findClass "java/lang/StringLatin1" = some m.cls := (findClass_of_methodNamed Bd.named :)
  have hnm := (name_of_methodNamed Bd.named Bd.method).1
  have X0 : Stand p l e ({ frames := 3, cells := 2, slots := 9, locals := 50 } : Room) (s.setVm s.vm) m #[(.ref a1), (.int (Int32.ofNat k)), (.int (Int32.ofNat (cs.length - k)))] below meth c s₁ [] 0 0 := Stand.of_body Bd
  have e0 : s₁.heap = h0 := by rw [← hh, Bd.state]; rfl
  have N0 := Fr.nil n0
  have K0 : Keep h0 h0 [] := Keep.refl _ _
  have C0 : CHr Z EL s.vm h0 s.vm h0 := CHr.refl hCH
  have hS0 : s.Since s.vm h0.size := own_since0 s _
  have hk0 : h0.size ≤ h0.size := Nat.le_refl _
  suffices hG : Goes p e below (fun o U' => ∃ v L, o = .returned v ∧ Q_newS Z a1 kb cs k h0 n0 v U'.heap L ∧ CHr Z EL s.vm s.heap U'.vm U'.heap ∧ ReturnedEndW s o U' L ({ frames := 3, cells := 2, slots := 9, locals := 50 } : Room).cells ({ frames := 3, cells := 2, slots := 9, locals := 50 } : Room).slots) s₁ (mkF m 0 #[.val (.ref a1), .val (.int (Int32.ofNat k)), .val (.int (Int32.ofNat (cs.length - k)))] []) by
    obtain ⟨t, o, h1, h2⟩ := hG; exact ⟨t, o, castTop (ef_newS m a1 (Int32.ofNat k) (Int32.ofNat (cs.length - k))) h1, h2⟩
  refine Goes.step (T' := s₁) (g' := (mkF m 1 #[.val (.ref a1), .val (.int (Int32.ofNat k)), .val (.int (Int32.ofNat (cs.length - k)))] [(.int (Int32.ofNat (cs.length - k)))])) (fun _ kz => XS.iloadN X0.here hx rfl (hb hby d_jdk_43_method_47_0) rfl  kz) ?_
  by_cases hc1_34 : (Int32.ofNat (cs.length - k)) = (0 : Int32)
  ·
    refine Goes.step (T' := s₁) (g' := (mkF m 4 #[.val (.ref a1), .val (.int (Int32.ofNat k)), .val (.int (Int32.ofNat (cs.length - k)))] [])) (fun _ kz => XS.ifNo X0.here hx rfl (hb hby d_jdk_43_method_47_1) rfl ((if0 _ _).trans (teq hc1_34).2) kz) ?_
    obtain ⟨ca35, T35, h35, k35, ct35, kc35, X35, e35, Ex35, hS35, hk35, hZ35, hown35, E_ca35, F_ca35_coder, F_ca35_value, V_ct35, la35, lt35, C35, Lit35, hne35, st35⟩ := ldcCH X0 hx hZ hown (hw _ (List.mem_of_getElem? (i := 188) rfl)) (own_wS hw) e0 hS0 hk0 hEL (by simp [EL, consts_1]) C0.1 (vs := []) (z := 0) (by decide) (by decide) (by decide) (g := (mkF m 4 #[.val (.ref a1), .val (.int (Int32.ofNat k)), .val (.int (Int32.ofNat (cs.length - k)))] [])) rfl (hb hby d_jdk_43_method_47_4) (n := 0) (by decide) (by decide) (by decide) (by decide)
    replace C0 := C0.trans C35
    replace V_a1 := V_a1.ext Ex35
    replace O0 := O0.ext Ex35
    replace K0 := K0.ext Ex35
    clear hS0 hk0 hZ hown
    have hS0 := hS35
    have hk0 := hk35
    have hZ := hZ35
    have hown := hown35
    refine Goes.step (T' := T35) (g' := (mkF m 6 #[.val (.ref a1), .val (.int (Int32.ofNat k)), .val (.int (Int32.ofNat (cs.length - k)))] [(.ref ca35)])) st35 ?_
    obtain ⟨fs, hr, hrun, hended, hend⟩ := X35.leaveW hS0 (by rw [e35]; exact hk0) (v := some (.ref ca35)) (fun h => by rw [Bd.returns] at h; cases h)
    have hdk : cs.drop k = [] := List.drop_eq_nil_of_le (by have := (own_eq (b := 0) (by omega) (by omega)).mp hc1_34; omega)
    have G_ca35 : SX Z h35 ca35 (cs.drop k) := by rw [hdk]; exact ⟨E_ca35, F_ca35_coder, (fun _ h => nomatch h), ct35, kc35, F_ca35_value, V_ct35⟩
    exact ⟨_, _, retOut X35 hx Bd.returns rfl (Or.inr (Or.inr (Or.inr (Or.inr ⟨rfl, rfl, rfl⟩)))) (hb hby d_jdk_43_method_47_6) hr, hrun, hended, _, _, rfl, (by show Q_newS Z a1 kb cs k h0 n0 _ T35.heap _; rw [e35]; exact ⟨ca35, rfl, N0, K0, E_ca35, G_ca35⟩), (by show CHr Z EL s.vm s.heap T35.vm T35.heap; rw [e35, hh]; exact C0.trans (CHv.at X35 hZ hEL C0.1)), own_mono hend (by decide) (by decide)⟩
  ·
    refine Goes.step (T' := s₁) (g' := (mkF m 7 #[.val (.ref a1), .val (.int (Int32.ofNat k)), .val (.int (Int32.ofNat (cs.length - k)))] [])) (fun _ kz => XS.ifYes X0.here hx rfl (pc0 := 1) (pc' := 7) rfl (hb hby d_jdk_43_method_47_1) rfl ((if0 _ _).trans (feq hc1_34).2) (by decide) (by decide) kz) ?_
    obtain ⟨T36, h36, X36, e36, Ex36, A36, D36, -, st36⟩ := newO X0 hx hZ hown (hw _ (List.mem_of_getElem? (i := 148) rfl)) (hw _ (List.mem_of_getElem? (i := 10) rfl)) (hw _ (List.mem_of_getElem? (i := 11) rfl)) e0 (g := (mkF m 7 #[.val (.ref a1), .val (.int (Int32.ofNat k)), .val (.int (Int32.ofNat (cs.length - k)))] [])) rfl (hb hby d_jdk_43_method_47_7) (by decide) (by decide)
    obtain ⟨b36, gg36⟩ : ∃ z, z = h0.size := ⟨_, rfl⟩
    rw [← gg36] at A36 D36 st36
    have g_b36 : n0 ≤ b36 := Nat.le_trans (own_n0 O0) (Nat.le_of_eq gg36.symm)
    have sz_b36 : h0.size ≤ b36 := Nat.le_trans K0.1 (Nat.le_of_eq gg36.symm)
    have ne_a1_b36 : a1 ≠ b36 := Nat.ne_of_lt (Nat.lt_of_lt_of_le V_a1.lt (Nat.le_of_eq gg36.symm))
    have S_b36 := (Safe.new (Z := Z) (EL := EL) (vm := s.vm) (Nat.le_of_eq gg36.symm)).ext Ex36 C0.1
    replace V_a1 := V_a1.ext Ex36
    replace O0 := O0.ext Ex36
    replace K0 := K0.ext Ex36
    replace C0 := C0.trans (CHr.ext Ex36 C0.1)
    replace hk0 := Nat.le_trans hk0 Ex36.1
    have E_b36 := A36
    have F_b36_coder : Fld Z h36 b36 "java/lang/String" "coder" "B" (.int (0 : Int32)) := D36 (Or.inr (hw _ (List.mem_of_getElem? (i := 35) rfl))) (ty := .byte) (by decide)
    have F_b36_value : Fld Z h36 b36 "java/lang/String" "value" "[B" .null := D36 (Or.inr (hw _ (List.mem_of_getElem? (i := 37) rfl))) (ty := (.array .byte)) (by decide)
    refine Goes.step (T' := T36) (g' := (mkF m 10 #[.val (.ref a1), .val (.int (Int32.ofNat k)), .val (.int (Int32.ofNat (cs.length - k)))] [(.ref b36)])) st36 ?_
    clear D36 A36
    refine Goes.step (T' := T36) (g' := (mkF m 11 #[.val (.ref a1), .val (.int (Int32.ofNat k)), .val (.int (Int32.ofNat (cs.length - k)))] [(.ref b36), (.ref b36)])) (fun _ kz => XS.dup X36.here hx rfl (hb hby d_jdk_43_method_47_10) rfl rfl kz) ?_
    refine Goes.step (T' := T36) (g' := (mkF m 12 #[.val (.ref a1), .val (.int (Int32.ofNat k)), .val (.int (Int32.ofNat (cs.length - k)))] [(.ref a1), (.ref b36), (.ref b36)])) (fun _ kz => XS.aloadN X36.here hx rfl (hb hby d_jdk_43_method_47_11) rfl rfl kz) ?_
    refine Goes.step (T' := T36) (g' := (mkF m 13 #[.val (.ref a1), .val (.int (Int32.ofNat k)), .val (.int (Int32.ofNat (cs.length - k)))] [(.int (Int32.ofNat k)), (.ref a1), (.ref b36), (.ref b36)])) (fun _ kz => XS.iloadN X36.here hx rfl (hb hby d_jdk_43_method_47_12) rfl  kz) ?_
    refine Goes.step (T' := T36) (g' := (mkF m 14 #[.val (.ref a1), .val (.int (Int32.ofNat k)), .val (.int (Int32.ofNat (cs.length - k)))] [(.int (Int32.ofNat k)), (.int (Int32.ofNat k)), (.ref a1), (.ref b36), (.ref b36)])) (fun _ kz => XS.iloadN X36.here hx rfl (hb hby d_jdk_43_method_47_13) rfl  kz) ?_
    refine Goes.step (T' := T36) (g' := (mkF m 15 #[.val (.ref a1), .val (.int (Int32.ofNat k)), .val (.int (Int32.ofNat (cs.length - k)))] [(.int (Int32.ofNat (cs.length - k))), (.int (Int32.ofNat k)), (.int (Int32.ofNat k)), (.ref a1), (.ref b36), (.ref b36)])) (fun _ kz => XS.iloadN X36.here hx rfl (hb hby d_jdk_43_method_47_14) rfl  kz) ?_
    refine Goes.step (T' := T36) (g' := (mkF m 16 #[.val (.ref a1), .val (.int (Int32.ofNat k)), .val (.int (Int32.ofNat (cs.length - k)))] [(.int ((Int32.ofNat k) + (Int32.ofNat (cs.length - k)))), (.int (Int32.ofNat k)), (.ref a1), (.ref b36), (.ref b36)])) (fun _ kz => XS.iadd X36.here hx rfl (hb hby d_jdk_43_method_47_15) rfl kz) ?_
    rw [own_addN hk]
    obtain ⟨_, _, ⟨T37, L37, k37, n37⟩, -, X37, ⟨Lc37, hQ37, l37, y37, z37⟩, st37⟩ := Jvm.LawKit.callS X36 hx (y := (⟨"java/util/Arrays", "copyOfRange", "([BII)[B"⟩ : MethodName)) hown (mvT hZ (hw _ (List.mem_of_getElem? (i := 149) rfl))) (mvT hZ (hw _ (List.mem_of_getElem? (i := 150) rfl))) (mvT hZ (hw _ (List.mem_of_getElem? (i := 151) rfl))) (mvT hZ (hw _ (List.mem_of_getElem? (i := 152) rfl))) (by decide) (backOf (W := 2) (rm_cor l Z a0 hw [] a1 (kb) (cs) (k) h36 n0 O0  V_a1 (by first | assumption | decide) (by first | assumption | decide) (by first | assumption | decide)) hZ (hw _ (List.mem_of_getElem? (i := 152) rfl)) (hw _ (List.mem_of_getElem? (i := 151) rfl)) (by decide) (by decide)) (g := (mkF m 16 #[.val (.ref a1), .val (.int (Int32.ofNat k)), .val (.int (Int32.ofNat (cs.length - k)))] [(.int (Int32.ofNat cs.length)), (.int (Int32.ofNat k)), (.ref a1), (.ref b36), (.ref b36)])) rfl (by rw [hml]; rfl) (argsL := [(.ref a1), (.int (Int32.ofNat k)), (.int (Int32.ofNat cs.length))]) (rest := [(.ref b36), (.ref b36)]) (lenOf pd_8 rfl) rfl (by show 2 * 0 + _ ≤ _; exact Nat.le_of_eq rfl) (hb hby d_jdk_43_method_47_16) (fun _ _ => ⟨rfl, e36, (by decide : 1 + 1 ≤ _), (by decide : 4 + 5 ≤ _)⟩)
    dsimp only [Pt.U, Pt.locs, Pt.cells, Pt.slots] at X37 l37 y37 z37 st37 hQ37
    subst l37 y37 z37
    obtain ⟨h37, e37⟩ : ∃ z, T37.heap = z := ⟨_, rfl⟩
    rw [e37] at hQ37
    obtain ⟨t2_37, k2_37, rfl, Nq37, Kq37, fr37_t2_37, V_t2_37_q37⟩ := hQ37
    replace N0 := Fr.app N0 Nq37
    have g_t2_37 : n0 ≤ t2_37 := Nat.le_trans (own_n0 O0) fr37_t2_37
    have sz_t2_37 : h0.size ≤ t2_37 := Nat.le_trans K0.1 fr37_t2_37
    have ne_a1_t2_37 : a1 ≠ t2_37 := Nat.ne_of_lt (Nat.lt_of_lt_of_le V_a1.lt fr37_t2_37)
    have ne_b36_t2_37 : b36 ≠ t2_37 := Nat.ne_of_lt (Nat.lt_of_lt_of_le E_b36.lt fr37_t2_37)
    have S_t2_37 := Safe.new (Z := Z) (EL := EL) (vm := s.vm) fr37_t2_37
    have Ss := (sf0 (Z := Z) (EL := EL) (vm := s.vm) (h := h36))
    replace S_b36 := S_b36.keep Kq37 Ss C0.1
    replace S_t2_37 := S_t2_37.keep Kq37 Ss C0.1
    replace C0 := C0.trans (CHr.keep Kq37 Ss C0.1)
    replace hk0 := Nat.le_trans hk0 Kq37.1
    replace V_a1 := V_a1.keep Kq37 nin0
    replace E_b36 := E_b36.keep Kq37
    replace F_b36_coder := F_b36_coder.keep Kq37 nin0
    replace F_b36_value := F_b36_value.keep Kq37 nin0
    replace O0 := O0.keep Kq37 all0
    replace K0 := K0.trans Kq37 all0
    have V_t2_37 := V_t2_37_q37
    refine Goes.step (T' := T37) (g' := (mkF m 19 #[.val (.ref a1), .val (.int (Int32.ofNat k)), .val (.int (Int32.ofNat (cs.length - k)))] [(.ref t2_37), (.ref b36), (.ref b36)])) st37 ?_
    refine Goes.step (T' := T37) (g' := (mkF m 20 #[.val (.ref a1), .val (.int (Int32.ofNat k)), .val (.int (Int32.ofNat (cs.length - k)))] [(.int (0 : Int32)), (.ref t2_37), (.ref b36), (.ref b36)])) (fun _ kz => XS.iconst X37.here hx rfl (hb hby d_jdk_43_method_47_19) kz) ?_
    obtain ⟨_, _, ⟨T38, L38, k38, n38⟩, -, X38, ⟨Lc38, hQ38, l38, y38, z38⟩, st38⟩ := X37.specialBack hx (y := (⟨"java/lang/String", "<init>", "([BB)V"⟩ : MethodName)) rfl hown (mvT hZ (hw _ (List.mem_of_getElem? (i := 164) rfl))) (mvT hZ (hw _ (List.mem_of_getElem? (i := 165) rfl))) (mvT hZ (hw _ (List.mem_of_getElem? (i := 166) rfl))) (by decide) (backOf (W := 1) (rm_initBB l Z a0 hw [] b36 t2_37 h37 n0 O0  E_b36 F_b36_value F_b36_coder g_b36) hZ (hw _ (List.mem_of_getElem? (i := 166) rfl)) (hw _ (List.mem_of_getElem? (i := 11) rfl)) (by decide) (by decide)) (g := (mkF m 20 #[.val (.ref a1), .val (.int (Int32.ofNat k)), .val (.int (Int32.ofNat (cs.length - k)))] [(.int (0 : Int32)), (.ref t2_37), (.ref b36), (.ref b36)])) rfl (by rw [hml]; rfl) (Steps.refl _) (a := b36) (argsL := [(.ref t2_37), (.int (0 : Int32))]) (rest := [(.ref b36)]) (lenOf pd_9 rfl) rfl (by show 2 * 0 + _ ≤ _; exact Nat.le_of_eq rfl) (hb hby d_jdk_43_method_47_20) (fun _ _ => ⟨rfl, e37, (by decide : 2 + 0 ≤ _), (by decide : 9 + 0 ≤ _)⟩)
    dsimp only [Pt.U, Pt.locs, Pt.cells, Pt.slots] at X38 l38 y38 z38 st38 hQ38
    subst l38 y38 z38
    obtain ⟨h38, e38⟩ : ∃ z, T38.heap = z := ⟨_, rfl⟩
    rw [e38] at hQ38
    obtain ⟨rfl, Nq38, Kq38, E_b36_q38, F_b36_value_q38, F_b36_coder_q38⟩ := hQ38
    replace N0 := Fr.app N0 Nq38
    have Ss := (sfS S_b36 sf0)
    replace S_b36 := S_b36.keep Kq38 Ss C0.1
    replace S_t2_37 := S_t2_37.keep Kq38 Ss C0.1
    replace C0 := C0.trans (CHr.keep Kq38 Ss C0.1)
    replace hk0 := Nat.le_trans hk0 Kq38.1
    replace V_a1 := V_a1.keep Kq38 (ninS ne_a1_b36 nin0)
    clear E_b36
    clear F_b36_coder
    clear F_b36_value
    replace V_t2_37 := V_t2_37.keep Kq38 (ninS (Ne.symm ne_b36_t2_37) nin0)
    replace O0 := O0.keep Kq38 (allS g_b36 all0)
    replace K0 := K0.trans Kq38 (allS (Or.inr sz_b36) all0)
    have E_b36 := E_b36_q38
    have F_b36_value := F_b36_value_q38
    have F_b36_coder := F_b36_coder_q38
    refine Goes.run (T' := T38) (g' := (mkF m 23 #[.val (.ref a1), .val (.int (Int32.ofNat k)), .val (.int (Int32.ofNat (cs.length - k)))] [(.ref b36)])) st38 ?_
    obtain ⟨fs, hr, hrun, hended, hend⟩ := X38.leaveW hS0 (by rw [e38]; exact hk0) (v := some (.ref b36)) (fun h => by rw [Bd.returns] at h; cases h)
    have G_b36 : SX Z h38 b36 (cs.drop k) := ⟨E_b36, F_b36_coder, (fun c hc => hbd c (List.mem_of_mem_drop hc)), t2_37, k2_37, F_b36_value, (by rw [List.length_drop]; exact V_t2_37)⟩
    exact ⟨_, _, retOut X38 hx Bd.returns rfl (Or.inr (Or.inr (Or.inr (Or.inr ⟨rfl, rfl, rfl⟩)))) (hb hby d_jdk_43_method_47_23) hr, hrun, hended, _, _, rfl, (by show Q_newS Z a1 kb cs k h0 n0 _ T38.heap _; rw [e38]; exact ⟨b36, rfl, N0, K0, E_b36, G_b36⟩), (by show CHr Z EL s.vm s.heap T38.vm T38.heap; rw [e38, hh]; exact C0.trans (CHv.at X38 hZ hEL C0.1)), own_mono hend (by decide) (by decide)⟩
theorem d_jdk_42_method_92_0 : decode jdk_42_method_92_code 0 = .ok (.aload_n 0, 1) := by decide +kernel
theorem d_jdk_42_method_92_1 : decode jdk_42_method_92_code 1 = .ok (.invokevirtual 505, 3) := by decide +kernel
theorem d_jdk_42_method_92_4 : decode jdk_42_method_92_code 4 = .ok (.istore_n 3, 1) := by decide +kernel
theorem d_jdk_42_method_92_5 : decode jdk_42_method_92_code 5 = .ok (.iload_n 1, 1) := by decide +kernel
theorem d_jdk_42_method_92_6 : decode jdk_42_method_92_code 6 = .ok (.iload_n 2, 1) := by decide +kernel
theorem d_jdk_42_method_92_7 : decode jdk_42_method_92_code 7 = .ok (.iload_n 3, 1) := by decide +kernel
theorem d_jdk_42_method_92_8 : decode jdk_42_method_92_code 8 = .ok (.invokestatic 521, 3) := by decide +kernel
theorem pd_10 : parseMethodDescriptor "(III)V" = some ⟨[.int, .int, .int], none⟩ := by decide +kernel
theorem d_jdk_42_method_92_11 : decode jdk_42_method_92_code 11 = .ok (.iload_n 1, 1) := by decide +kernel
theorem d_jdk_42_method_92_12 : decode jdk_42_method_92_code 12 = .ok (.ifCond .ne 10, 3) := by decide +kernel
theorem d_jdk_42_method_92_15 : decode jdk_42_method_92_code 15 = .ok (.iload_n 2, 1) := by decide +kernel
theorem d_jdk_42_method_92_16 : decode jdk_42_method_92_code 16 = .ok (.iload_n 3, 1) := by decide +kernel
theorem d_jdk_42_method_92_17 : decode jdk_42_method_92_code 17 = .ok (.if_icmp .ne 5, 3) := by decide +kernel
theorem d_jdk_42_method_92_20 : decode jdk_42_method_92_code 20 = .ok (.aload_n 0, 1) := by decide +kernel
theorem d_jdk_42_method_92_21 : decode jdk_42_method_92_code 21 = .ok (.areturn, 1) := by decide +kernel
theorem d_jdk_42_method_92_22 : decode jdk_42_method_92_code 22 = .ok (.iload_n 2, 1) := by decide +kernel
theorem d_jdk_42_method_92_23 : decode jdk_42_method_92_code 23 = .ok (.iload_n 1, 1) := by decide +kernel
theorem d_jdk_42_method_92_24 : decode jdk_42_method_92_code 24 = .ok (.isub, 1) := by decide +kernel
theorem d_jdk_42_method_92_25 : decode jdk_42_method_92_code 25 = .ok (.istore 4, 2) := by decide +kernel
theorem d_jdk_42_method_92_27 : decode jdk_42_method_92_code 27 = .ok (.aload_n 0, 1) := by decide +kernel
theorem d_jdk_42_method_92_28 : decode jdk_42_method_92_code 28 = .ok (.invokevirtual 492, 3) := by decide +kernel
theorem d_jdk_42_method_92_31 : decode jdk_42_method_92_code 31 = .ok (.ifCond .eq 16, 3) := by decide +kernel
theorem d_jdk_42_method_92_34 : decode jdk_42_method_92_code 34 = .ok (.aload_n 0, 1) := by decide +kernel
theorem d_jdk_42_method_92_35 : decode jdk_42_method_92_code 35 = .ok (.getfield 9, 3) := by decide +kernel
theorem d_jdk_42_method_92_38 : decode jdk_42_method_92_code 38 = .ok (.iload_n 1, 1) := by decide +kernel
theorem d_jdk_42_method_92_39 : decode jdk_42_method_92_code 39 = .ok (.iload 4, 2) := by decide +kernel
theorem d_jdk_42_method_92_41 : decode jdk_42_method_92_code 41 = .ok (.invokestatic 685, 3) := by decide +kernel
theorem pd_11 : parseMethodDescriptor "([BII)Ljava/lang/String;" = some ⟨[(.array .byte), .int, .int], some (.object "java/lang/String")⟩ := by decide +kernel
theorem d_jdk_42_method_92_44 : decode jdk_42_method_92_code 44 = .ok (.goto 13, 3) := by decide +kernel
theorem d_jdk_42_method_92_57 : decode jdk_42_method_92_code 57 = .ok (.areturn, 1) := by decide +kernel
theorem ef_sub2 (m : MethodId) (a1 : Addr) (q1 : Int32) (q2 : Int32) : entryFrame m #[(.ref a1), (.int q1), (.int q2)] 5 = mkF m 0 #[.val (.ref a1), .val (.int q1), .val (.int q2), .unset, .unset] [] := by first | (simp [entryFrame, mkF, argsToLocals, Value.category, maxLocals]; done) | rfl
def Q_sub2 (Z : State) (a1 : Addr) (cs : List Int32) (k : Nat) (h0 : Heap) (n0 : Nat) (v : Option Value) (h : Heap) (L : List Loc) : Prop := ∃ b : Addr, (v = some (.ref b)) ∧ (Fr n0 L) ∧ (Keep h0 h []) ∧ (Exa Z h b "java/lang/String") ∧ (SX Z h b (cs.drop k))
set_option maxRecDepth 65536 in
set_option maxHeartbeats 40000000 in
theorem rm_sub2 (l : Launch) (Z : State) (a0 : Array Value) (hw : ∀ d ∈ tables_1, d.before a0 Z = true) (ws : List Jvm.Cond) (hEL : EW Z a0 EL) (a1 : Addr) (cs : List Int32) (k : Nat) (h0 : Heap) (n0 : Nat) (O0 : Old Z n0 h0) (zcs : Int32) (Scs : Sta Z Z.heap "java/lang/String" "COMPACT_STRINGS" "Z" (.int zcs)) (hz_Scs : ¬ zcs = 0) (fmt : Value) (Sfm : Sta Z Z.heap "jdk/internal/util/Preconditions" "SIOOBE_FORMATTER" "Ljava/util/function/BiFunction;" fmt) (hz_Sfm : fmt.isRef = true) (E_a1 : Exa Z h0 a1 "java/lang/String") (G_a1 : SX Z h0 a1 cs) (hl : cs.length ≤ 5) (hk : k ≤ cs.length) :
    MetFree l (⟨"java/lang/String", "substring", "(II)Ljava/lang/String;"⟩ : MethodName) (head1 ((Jvm.Cond.code (⟨"java/lang/String", "substring", "(II)Ljava/lang/String;"⟩ : MethodName) jdk_42_method_92_code 5 (some (.object "java/lang/String"))) :: ws) ({ frames := 4, cells := 2, slots := 9, locals := 64 } : Room)) (fun a U => a = #[(.ref a1), (.int (Int32.ofNat k)), (.int (Int32.ofNat cs.length))] ∧ Z.Warmed39 U.vm ∧ U.heap = h0 ∧ CHv Z EL U.vm h0) (fun _ _ _ _ _ => True) (fun _ U o U' => ∃ v L, o = .returned v ∧ Q_sub2 Z a1 cs k h0 n0 v U'.heap L ∧ CHr Z EL U.vm U.heap U'.vm U'.heap ∧ ReturnedEndW U o U' L ({ frames := 4, cells := 2, slots := 9, locals := 64 } : Room).cells ({ frames := 4, cells := 2, slots := 9, locals := 64 } : Room).slots) := by
  refine MetFree.of_bodySF (plainFor_of_name pn_0) hisR ?_
  intro p e s m args below meth c s₁ Bd hml0 hP hK
  obtain ⟨rfl, hZ, hh, hCH⟩ := hP
  have hx := Bd.exec
  have hby := Bd.bytes
  have hml : c.maxLocals = 5 := hml0
  have hown : (s.setVm s.vm).vm.findClass "java/lang/String" = some m.cls := (findClass_of_methodNamed Bd.named :)
  have hnm := (name_of_methodNamed Bd.named Bd.method).1
  have X0 : Stand p l e ({ frames := 4, cells := 2, slots := 9, locals := 64 } : Room) (s.setVm s.vm) m #[(.ref a1), (.int (Int32.ofNat k)), (.int (Int32.ofNat cs.length))] below meth c s₁ [] 0 0 := Stand.of_body Bd
  have e0 : s₁.heap = h0 := by rw [← hh, Bd.state]; rfl
  have N0 := Fr.nil n0
  have K0 : Keep h0 h0 [] := Keep.refl _ _
  have C0 : CHr Z EL s.vm h0 s.vm h0 := CHr.refl hCH
  have hS0 : s.Since s.vm h0.size := own_since0 s _
  have hk0 : h0.size ≤ h0.size := Nat.le_refl _
  suffices hG : Goes p e below (fun o U' => ∃ v L, o = .returned v ∧ Q_sub2 Z a1 cs k h0 n0 v U'.heap L ∧ CHr Z EL s.vm s.heap U'.vm U'.heap ∧ ReturnedEndW s o U' L ({ frames := 4, cells := 2, slots := 9, locals := 64 } : Room).cells ({ frames := 4, cells := 2, slots := 9, locals := 64 } : Room).slots) s₁ (mkF m 0 #[.val (.ref a1), .val (.int (Int32.ofNat k)), .val (.int (Int32.ofNat cs.length)), .unset, .unset] []) by
    obtain ⟨t, o, h1, h2⟩ := hG; exact ⟨t, o, castTop (ef_sub2 m a1 (Int32.ofNat k) (Int32.ofNat cs.length)) h1, h2⟩
  obtain ⟨E_a1, F_a1_coder, hb_a1, t_a1, kb_a1, F_a1_value, V_t_a1⟩ := (id G_a1 : SX Z h0 a1 cs)
  refine Goes.step (T' := s₁) (g' := (mkF m 1 #[.val (.ref a1), .val (.int (Int32.ofNat k)), .val (.int (Int32.ofNat cs.length)), .unset, .unset] [(.ref a1)])) (fun _ kz => XS.aloadN X0.here hx rfl (hb hby d_jdk_42_method_92_0) rfl rfl kz) ?_
  obtain ⟨cq39, kq39, qa39, qb39, qc39⟩ := isOf hZ e0 E_a1
  obtain ⟨_, _, ⟨T39, L39, k39, n39⟩, -, X39, ⟨Lc39, hQ39, l39, y39, z39⟩, st39⟩ := X0.virtualBack hx (y := (⟨"java/lang/String", "length", "()I"⟩ : MethodName)) (z := (⟨"java/lang/String", "length", "()I"⟩ : MethodName)) hown (mvT hZ (hw _ (List.mem_of_getElem? (i := 96) rfl))) (mvT hZ (hw _ (List.mem_of_getElem? (i := 97) rfl))) (notFace_of_selects (args := #[]) (mvT hZ (hw _ (List.mem_of_getElem? (i := 99) rfl)))) (mvT hZ (hw _ (List.mem_of_getElem? (i := 99) rfl))) (mvT hZ (hw _ (List.mem_of_getElem? (i := 98) rfl))) (by decide) (own_lenW (W := 0) hZ hw (hw _ (List.mem_of_getElem? (i := 10) rfl)) G_a1 ((by omega)) (Scs.ext O0.2) hz_Scs (by decide) (by decide)) qa39 qc39 (g := (mkF m 1 #[.val (.ref a1), .val (.int (Int32.ofNat k)), .val (.int (Int32.ofNat cs.length)), .unset, .unset] [(.ref a1)])) rfl (by rw [hml]; rfl) (Steps.refl _) (argsL := []) (rest := []) (lenOf pd_5 rfl) rfl (by show 2 * 0 + _ ≤ _; exact Nat.le_of_eq rfl) (hb hby d_jdk_42_method_92_1) (fun _ _ => ⟨rfl, e0, (by decide : 0 + 0 ≤ _), (by decide : 0 + 0 ≤ _)⟩)
  dsimp only [Pt.U, Pt.locs, Pt.cells, Pt.slots] at X39 l39 y39 z39 st39 hQ39
  subst l39 y39 z39
  obtain ⟨rfl, rfl, e39⟩ := hQ39
  replace N0 := Fr.app N0 (Fr.nil n0)
  refine Goes.run (T' := T39) (g' := (mkF m 4 #[.val (.ref a1), .val (.int (Int32.ofNat k)), .val (.int (Int32.ofNat cs.length)), .unset, .unset] [(.int (Int32.ofNat cs.length))])) st39 ?_
  refine Goes.step (T' := T39) (g' := (mkF m 5 #[.val (.ref a1), .val (.int (Int32.ofNat k)), .val (.int (Int32.ofNat cs.length)), .val (.int (Int32.ofNat cs.length)), .unset] [])) (fun _ kz => XS.istoreN X39.here hx rfl (hb hby d_jdk_42_method_92_4) rfl (l' := #[.val (.ref a1), .val (.int (Int32.ofNat k)), .val (.int (Int32.ofNat cs.length)), .val (.int (Int32.ofNat cs.length)), .unset]) rfl kz) ?_
  refine Goes.step (T' := T39) (g' := (mkF m 6 #[.val (.ref a1), .val (.int (Int32.ofNat k)), .val (.int (Int32.ofNat cs.length)), .val (.int (Int32.ofNat cs.length)), .unset] [(.int (Int32.ofNat k))])) (fun _ kz => XS.iloadN X39.here hx rfl (hb hby d_jdk_42_method_92_5) rfl  kz) ?_
  refine Goes.step (T' := T39) (g' := (mkF m 7 #[.val (.ref a1), .val (.int (Int32.ofNat k)), .val (.int (Int32.ofNat cs.length)), .val (.int (Int32.ofNat cs.length)), .unset] [(.int (Int32.ofNat cs.length)), (.int (Int32.ofNat k))])) (fun _ kz => XS.iloadN X39.here hx rfl (hb hby d_jdk_42_method_92_6) rfl  kz) ?_
  refine Goes.step (T' := T39) (g' := (mkF m 8 #[.val (.ref a1), .val (.int (Int32.ofNat k)), .val (.int (Int32.ofNat cs.length)), .val (.int (Int32.ofNat cs.length)), .unset] [(.int (Int32.ofNat cs.length)), (.int (Int32.ofNat cs.length)), (.int (Int32.ofNat k))])) (fun _ kz => XS.iloadN X39.here hx rfl (hb hby d_jdk_42_method_92_7) rfl  kz) ?_
  obtain ⟨_, _, ⟨T40, L40, k40, n40⟩, -, X40, ⟨Lc40, hQ40, l40, y40, z40⟩, st40⟩ := Jvm.LawKit.callS X39 hx (y := (⟨"java/lang/String", "checkBoundsBeginEnd", "(III)V"⟩ : MethodName)) hown (mvT hZ (hw _ (List.mem_of_getElem? (i := 137) rfl))) (mvT hZ (hw _ (List.mem_of_getElem? (i := 138) rfl))) (mvT hZ (hw _ (List.mem_of_getElem? (i := 11) rfl))) (mvT hZ (hw _ (List.mem_of_getElem? (i := 139) rfl))) (by decide) (backOf (W := 0) (rm_chkB l Z a0 hw [] (Int32.ofNat k) (Int32.ofNat cs.length) (Int32.ofNat cs.length) h0 n0 O0 fmt Sfm hz_Sfm (own_nn (by omega)) (fun q => absurd ((own_lt (by omega) (by omega)).mp q) (by omega)) (fun q => absurd ((own_lt (by omega) (by omega)).mp q) (by omega))) hZ (hw _ (List.mem_of_getElem? (i := 139) rfl)) (hw _ (List.mem_of_getElem? (i := 11) rfl)) (by decide) (by decide)) (g := (mkF m 8 #[.val (.ref a1), .val (.int (Int32.ofNat k)), .val (.int (Int32.ofNat cs.length)), .val (.int (Int32.ofNat cs.length)), .unset] [(.int (Int32.ofNat cs.length)), (.int (Int32.ofNat cs.length)), (.int (Int32.ofNat k))])) rfl (by rw [hml]; rfl) (argsL := [(.int (Int32.ofNat k)), (.int (Int32.ofNat cs.length)), (.int (Int32.ofNat cs.length))]) (rest := []) (lenOf pd_10 rfl) rfl (by show 2 * 0 + _ ≤ _; exact Nat.le_of_eq rfl) (hb hby d_jdk_42_method_92_8) (fun _ _ => ⟨rfl, e39, (by decide : 0 + 0 ≤ _), (by decide : 0 + 0 ≤ _)⟩)
  dsimp only [Pt.U, Pt.locs, Pt.cells, Pt.slots] at X40 l40 y40 z40 st40 hQ40
  subst l40 y40 z40
  obtain ⟨rfl, rfl, e40⟩ := hQ40
  replace N0 := Fr.app N0 (Fr.nil n0)
  refine Goes.step (T' := T40) (g' := (mkF m 11 #[.val (.ref a1), .val (.int (Int32.ofNat k)), .val (.int (Int32.ofNat cs.length)), .val (.int (Int32.ofNat cs.length)), .unset] [])) st40 ?_
  refine Goes.step (T' := T40) (g' := (mkF m 12 #[.val (.ref a1), .val (.int (Int32.ofNat k)), .val (.int (Int32.ofNat cs.length)), .val (.int (Int32.ofNat cs.length)), .unset] [(.int (Int32.ofNat k))])) (fun _ kz => XS.iloadN X40.here hx rfl (hb hby d_jdk_42_method_92_11) rfl  kz) ?_
  by_cases hc12_41 : (Int32.ofNat k) = (0 : Int32)
  ·
    refine Goes.step (T' := T40) (g' := (mkF m 15 #[.val (.ref a1), .val (.int (Int32.ofNat k)), .val (.int (Int32.ofNat cs.length)), .val (.int (Int32.ofNat cs.length)), .unset] [])) (fun _ kz => XS.ifNo X40.here hx rfl (hb hby d_jdk_42_method_92_12) rfl ((if0 _ _).trans (teq hc12_41).2) kz) ?_
    refine Goes.step (T' := T40) (g' := (mkF m 16 #[.val (.ref a1), .val (.int (Int32.ofNat k)), .val (.int (Int32.ofNat cs.length)), .val (.int (Int32.ofNat cs.length)), .unset] [(.int (Int32.ofNat cs.length))])) (fun _ kz => XS.iloadN X40.here hx rfl (hb hby d_jdk_42_method_92_15) rfl  kz) ?_
    refine Goes.step (T' := T40) (g' := (mkF m 17 #[.val (.ref a1), .val (.int (Int32.ofNat k)), .val (.int (Int32.ofNat cs.length)), .val (.int (Int32.ofNat cs.length)), .unset] [(.int (Int32.ofNat cs.length)), (.int (Int32.ofNat cs.length))])) (fun _ kz => XS.iloadN X40.here hx rfl (hb hby d_jdk_42_method_92_16) rfl  kz) ?_
    refine Goes.step (T' := T40) (g' := (mkF m 20 #[.val (.ref a1), .val (.int (Int32.ofNat k)), .val (.int (Int32.ofNat cs.length)), .val (.int (Int32.ofNat cs.length)), .unset] [])) (fun _ kz => XS.icmpNo X40.here hx rfl (hb hby d_jdk_42_method_92_17) rfl (teq (rfl : (Int32.ofNat cs.length) = (Int32.ofNat cs.length))).2 kz) ?_
    refine Goes.step (T' := T40) (g' := (mkF m 21 #[.val (.ref a1), .val (.int (Int32.ofNat k)), .val (.int (Int32.ofNat cs.length)), .val (.int (Int32.ofNat cs.length)), .unset] [(.ref a1)])) (fun _ kz => XS.aloadN X40.here hx rfl (hb hby d_jdk_42_method_92_20) rfl rfl kz) ?_
    obtain ⟨fs, hr, hrun, hended, hend⟩ := X40.leaveW hS0 (by rw [e40]; exact hk0) (v := some (.ref a1)) (fun h => by rw [Bd.returns] at h; cases h)
    exact ⟨_, _, retOut X40 hx Bd.returns rfl (Or.inr (Or.inr (Or.inr (Or.inr ⟨rfl, rfl, rfl⟩)))) (hb hby d_jdk_42_method_92_21) hr, hrun, hended, _, _, rfl, (by show Q_sub2 Z a1 cs k h0 n0 _ T40.heap _; rw [e40]; exact ⟨a1, rfl, N0, K0, E_a1, (by rw [show k = 0 from (own_eq (b := 0) (by omega) (by omega)).mp hc12_41]; exact G_a1)⟩), (by show CHr Z EL s.vm s.heap T40.vm T40.heap; rw [e40, hh]; exact C0.trans (CHv.at X40 hZ hEL C0.1)), own_mono hend (by decide) (by decide)⟩
  ·
    refine Goes.step (T' := T40) (g' := (mkF m 22 #[.val (.ref a1), .val (.int (Int32.ofNat k)), .val (.int (Int32.ofNat cs.length)), .val (.int (Int32.ofNat cs.length)), .unset] [])) (fun _ kz => XS.ifYes X40.here hx rfl (pc0 := 12) (pc' := 22) rfl (hb hby d_jdk_42_method_92_12) rfl ((if0 _ _).trans (feq hc12_41).2) (by decide) (by decide) kz) ?_
    refine Goes.step (T' := T40) (g' := (mkF m 23 #[.val (.ref a1), .val (.int (Int32.ofNat k)), .val (.int (Int32.ofNat cs.length)), .val (.int (Int32.ofNat cs.length)), .unset] [(.int (Int32.ofNat cs.length))])) (fun _ kz => XS.iloadN X40.here hx rfl (hb hby d_jdk_42_method_92_22) rfl  kz) ?_
    refine Goes.step (T' := T40) (g' := (mkF m 24 #[.val (.ref a1), .val (.int (Int32.ofNat k)), .val (.int (Int32.ofNat cs.length)), .val (.int (Int32.ofNat cs.length)), .unset] [(.int (Int32.ofNat k)), (.int (Int32.ofNat cs.length))])) (fun _ kz => XS.iloadN X40.here hx rfl (hb hby d_jdk_42_method_92_23) rfl  kz) ?_
    refine Goes.step (T' := T40) (g' := (mkF m 25 #[.val (.ref a1), .val (.int (Int32.ofNat k)), .val (.int (Int32.ofNat cs.length)), .val (.int (Int32.ofNat cs.length)), .unset] [(.int ((Int32.ofNat cs.length) - (Int32.ofNat k)))])) (fun _ kz => XS.isub X40.here hx rfl (hb hby d_jdk_42_method_92_24) rfl kz) ?_
    rw [own_subN hk hl]
    refine Goes.step (T' := T40) (g' := (mkF m 27 #[.val (.ref a1), .val (.int (Int32.ofNat k)), .val (.int (Int32.ofNat cs.length)), .val (.int (Int32.ofNat cs.length)), .val (.int (Int32.ofNat (cs.length - k)))] [])) (fun _ kz => XS.istore X40.here hx rfl (hb hby d_jdk_42_method_92_25) rfl (l' := #[.val (.ref a1), .val (.int (Int32.ofNat k)), .val (.int (Int32.ofNat cs.length)), .val (.int (Int32.ofNat cs.length)), .val (.int (Int32.ofNat (cs.length - k)))]) rfl kz) ?_
    refine Goes.step (T' := T40) (g' := (mkF m 28 #[.val (.ref a1), .val (.int (Int32.ofNat k)), .val (.int (Int32.ofNat cs.length)), .val (.int (Int32.ofNat cs.length)), .val (.int (Int32.ofNat (cs.length - k)))] [(.ref a1)])) (fun _ kz => XS.aloadN X40.here hx rfl (hb hby d_jdk_42_method_92_27) rfl rfl kz) ?_
    obtain ⟨cq42, kq42, qa42, qb42, qc42⟩ := isOf hZ e40 E_a1
    obtain ⟨_, _, ⟨T42, L42, k42, n42⟩, -, X42, ⟨Lc42, hQ42, l42, y42, z42⟩, st42⟩ := X40.virtualBack hx (y := (⟨"java/lang/String", "isLatin1", "()Z"⟩ : MethodName)) (z := (⟨"java/lang/String", "isLatin1", "()Z"⟩ : MethodName)) hown (mvT hZ (hw _ (List.mem_of_getElem? (i := 111) rfl))) (mvT hZ (hw _ (List.mem_of_getElem? (i := 112) rfl))) (notFace_of_selects (args := #[]) (mvT hZ (hw _ (List.mem_of_getElem? (i := 114) rfl)))) (mvT hZ (hw _ (List.mem_of_getElem? (i := 114) rfl))) (mvT hZ (hw _ (List.mem_of_getElem? (i := 113) rfl))) (by decide) (backOf (W := 0) (rm_isLat l Z a0 hw [] a1 h0 n0 O0 zcs Scs hz_Scs F_a1_coder) hZ (hw _ (List.mem_of_getElem? (i := 115) rfl)) (hw _ (List.mem_of_getElem? (i := 11) rfl)) (by decide) (by decide)) qa42 qc42 (g := (mkF m 28 #[.val (.ref a1), .val (.int (Int32.ofNat k)), .val (.int (Int32.ofNat cs.length)), .val (.int (Int32.ofNat cs.length)), .val (.int (Int32.ofNat (cs.length - k)))] [(.ref a1)])) rfl (by rw [hml]; rfl) (Steps.refl _) (argsL := []) (rest := []) (lenOf pd_3 rfl) rfl (by show 2 * 0 + _ ≤ _; exact Nat.le_of_eq rfl) (hb hby d_jdk_42_method_92_28) (fun _ _ => ⟨rfl, e40, (by decide : 0 + 0 ≤ _), (by decide : 0 + 0 ≤ _)⟩)
    dsimp only [Pt.U, Pt.locs, Pt.cells, Pt.slots] at X42 l42 y42 z42 st42 hQ42
    subst l42 y42 z42
    obtain ⟨rfl, rfl, e42⟩ := hQ42
    replace N0 := Fr.app N0 (Fr.nil n0)
    refine Goes.run (T' := T42) (g' := (mkF m 31 #[.val (.ref a1), .val (.int (Int32.ofNat k)), .val (.int (Int32.ofNat cs.length)), .val (.int (Int32.ofNat cs.length)), .val (.int (Int32.ofNat (cs.length - k)))] [(.int (1 : Int32))])) st42 ?_
    refine Goes.step (T' := T42) (g' := (mkF m 34 #[.val (.ref a1), .val (.int (Int32.ofNat k)), .val (.int (Int32.ofNat cs.length)), .val (.int (Int32.ofNat cs.length)), .val (.int (Int32.ofNat (cs.length - k)))] [])) (fun _ kz => XS.ifNo X42.here hx rfl (hb hby d_jdk_42_method_92_31) rfl ((if0 _ _).trans (feq (by decide : ¬ ((1 : Int32) = (0 : Int32)))).1) kz) ?_
    refine Goes.step (T' := T42) (g' := (mkF m 35 #[.val (.ref a1), .val (.int (Int32.ofNat k)), .val (.int (Int32.ofNat cs.length)), .val (.int (Int32.ofNat cs.length)), .val (.int (Int32.ofNat (cs.length - k)))] [(.ref a1)])) (fun _ kz => XS.aloadN X42.here hx rfl (hb hby d_jdk_42_method_92_34) rfl rfl kz) ?_
    obtain ⟨T43, X43, e43, st43⟩ := getF X42 hx hZ hown (host := "") (Or.inl (hw _ (List.mem_of_getElem? (i := 36) rfl))) Via.refl e42 F_a1_value (g := (mkF m 35 #[.val (.ref a1), .val (.int (Int32.ofNat k)), .val (.int (Int32.ofNat cs.length)), .val (.int (Int32.ofNat cs.length)), .val (.int (Int32.ofNat (cs.length - k)))] [(.ref a1)])) rfl rfl (hb hby d_jdk_42_method_92_35)
    refine Goes.step (T' := T43) (g' := (mkF m 38 #[.val (.ref a1), .val (.int (Int32.ofNat k)), .val (.int (Int32.ofNat cs.length)), .val (.int (Int32.ofNat cs.length)), .val (.int (Int32.ofNat (cs.length - k)))] [(.ref t_a1)])) st43 ?_
    refine Goes.step (T' := T43) (g' := (mkF m 39 #[.val (.ref a1), .val (.int (Int32.ofNat k)), .val (.int (Int32.ofNat cs.length)), .val (.int (Int32.ofNat cs.length)), .val (.int (Int32.ofNat (cs.length - k)))] [(.int (Int32.ofNat k)), (.ref t_a1)])) (fun _ kz => XS.iloadN X43.here hx rfl (hb hby d_jdk_42_method_92_38) rfl  kz) ?_
    refine Goes.step (T' := T43) (g' := (mkF m 41 #[.val (.ref a1), .val (.int (Int32.ofNat k)), .val (.int (Int32.ofNat cs.length)), .val (.int (Int32.ofNat cs.length)), .val (.int (Int32.ofNat (cs.length - k)))] [(.int (Int32.ofNat (cs.length - k))), (.int (Int32.ofNat k)), (.ref t_a1)])) (fun _ kz => XS.iload X43.here hx rfl (hb hby d_jdk_42_method_92_39) rfl  kz) ?_
    obtain ⟨_, _, ⟨T44, L44, k44, n44⟩, -, X44, hS44, hgr44, ⟨Lc44, hQ44, l44, y44, z44, Ch44⟩, st44⟩ := callSS X43 hx (y := (⟨"java/lang/StringLatin1", "newString", "([BII)Ljava/lang/String;"⟩ : MethodName)) hown (mvT hZ (hw _ (List.mem_of_getElem? (i := 145) rfl))) (mvT hZ (hw _ (List.mem_of_getElem? (i := 146) rfl))) (mvT hZ (hw _ (List.mem_of_getElem? (i := 118) rfl))) (mvT hZ (hw _ (List.mem_of_getElem? (i := 147) rfl))) (by decide) (backOfSH (W := 0) (rm_newS l Z a0 hw [] hEL t_a1 (kb_a1) (cs) (k) h0 n0 O0  V_t_a1 (by first | assumption | decide) hb_a1 (by first | assumption | decide) (by first | assumption | decide)) hZ (hw _ (List.mem_of_getElem? (i := 147) rfl)) (hw _ (List.mem_of_getElem? (i := 118) rfl)) (by decide) (by decide) hEL C0.1) (g := (mkF m 41 #[.val (.ref a1), .val (.int (Int32.ofNat k)), .val (.int (Int32.ofNat cs.length)), .val (.int (Int32.ofNat cs.length)), .val (.int (Int32.ofNat (cs.length - k)))] [(.int (Int32.ofNat (cs.length - k))), (.int (Int32.ofNat k)), (.ref t_a1)])) rfl (by rw [hml]; rfl) (argsL := [(.ref t_a1), (.int (Int32.ofNat k)), (.int (Int32.ofNat (cs.length - k)))]) (rest := []) (lenOf pd_11 rfl) rfl (by show 2 * 0 + _ ≤ _; exact Nat.le_of_eq rfl) (hb hby d_jdk_42_method_92_41) (fun _ _ => ⟨rfl, e43, (by decide : 0 + 2 ≤ _), (by decide : 0 + 9 ≤ _)⟩)
    dsimp only [Pt.U, Pt.locs, Pt.cells, Pt.slots] at X44 l44 y44 z44 st44 hQ44 hS44 hgr44 Ch44
    subst l44 y44 z44
    obtain ⟨h44, e44⟩ : ∃ z, T44.heap = z := ⟨_, rfl⟩
    rw [e44] at hQ44 Ch44
    obtain ⟨b_44, rfl, Nq44, Kq44, E_b_44_q44, G_b_44_q44⟩ := hQ44
    replace N0 := Fr.app N0 Nq44
    replace C0 := C0.trans Ch44
    replace G_a1 := G_a1.ext (own_kext Kq44)
    replace E_a1 := E_a1.keep Kq44
    replace F_a1_coder := F_a1_coder.keep Kq44 nin0
    replace F_a1_value := F_a1_value.keep Kq44 nin0
    replace V_t_a1 := V_t_a1.keep Kq44 nin0
    replace O0 := O0.keep Kq44 all0
    replace K0 := K0.trans Kq44 all0
    have E_b_44 := E_b_44_q44
    have G_b_44 := G_b_44_q44
    obtain ⟨X44, hS44, hZ44, hown44⟩ := rebS hS0 (by rw [e43]; exact hk0) X44 hS44 hgr44 hZ hown
    rw [e44] at hS44
    clear hS0 hk0 hZ hown
    have hS0 := hS44
    have hk0 : h44.size ≤ h44.size := Nat.le_refl _
    have hZ := hZ44
    have hown := hown44
    refine Goes.run (T' := T44) (g' := (mkF m 44 #[.val (.ref a1), .val (.int (Int32.ofNat k)), .val (.int (Int32.ofNat cs.length)), .val (.int (Int32.ofNat cs.length)), .val (.int (Int32.ofNat (cs.length - k)))] [(.ref b_44)])) st44 ?_
    refine Goes.step (T' := T44) (g' := (mkF m 57 #[.val (.ref a1), .val (.int (Int32.ofNat k)), .val (.int (Int32.ofNat cs.length)), .val (.int (Int32.ofNat cs.length)), .val (.int (Int32.ofNat (cs.length - k)))] [(.ref b_44)])) (fun _ kz => XS.goto X44.here hx rfl (pc0 := 44) (pc' := 57) rfl (hb hby d_jdk_42_method_92_44) (by decide) (by decide) kz) ?_
    obtain ⟨fs, hr, hrun, hended, hend⟩ := X44.leaveW hS0 (by rw [e44]; exact hk0) (v := some (.ref b_44)) (fun h => by rw [Bd.returns] at h; cases h)
    exact ⟨_, _, retOut X44 hx Bd.returns rfl (Or.inr (Or.inr (Or.inr (Or.inr ⟨rfl, rfl, rfl⟩)))) (hb hby d_jdk_42_method_92_57) hr, hrun, hended, _, _, rfl, (by show Q_sub2 Z a1 cs k h0 n0 _ T44.heap _; rw [e44]; exact ⟨b_44, rfl, N0, K0, E_b_44, G_b_44⟩), (by show CHr Z EL s.vm s.heap T44.vm T44.heap; rw [e44, hh]; exact C0.trans (CHv.at X44 hZ hEL C0.1)), own_mono hend (by decide) (by decide)⟩
theorem d_jdk_42_method_91_0 : decode jdk_42_method_91_code 0 = .ok (.aload_n 0, 1) := by decide +kernel
theorem d_jdk_42_method_91_1 : decode jdk_42_method_91_code 1 = .ok (.iload_n 1, 1) := by decide +kernel
theorem d_jdk_42_method_91_2 : decode jdk_42_method_91_code 2 = .ok (.aload_n 0, 1) := by decide +kernel
theorem d_jdk_42_method_91_3 : decode jdk_42_method_91_code 3 = .ok (.invokevirtual 505, 3) := by decide +kernel
theorem d_jdk_42_method_91_6 : decode jdk_42_method_91_code 6 = .ok (.invokevirtual 681, 3) := by decide +kernel
theorem pd_12 : parseMethodDescriptor "(II)Ljava/lang/String;" = some ⟨[.int, .int], some (.object "java/lang/String")⟩ := by decide +kernel
theorem d_jdk_42_method_91_9 : decode jdk_42_method_91_code 9 = .ok (.areturn, 1) := by decide +kernel
theorem ef_sub1 (m : MethodId) (a1 : Addr) (q1 : Int32) : entryFrame m #[(.ref a1), (.int q1)] 2 = mkF m 0 #[.val (.ref a1), .val (.int q1)] [] := by first | (simp [entryFrame, mkF, argsToLocals, Value.category, maxLocals]; done) | rfl
def Q_sub1 (Z : State) (a1 : Addr) (cs : List Int32) (k : Nat) (h0 : Heap) (n0 : Nat) (v : Option Value) (h : Heap) (L : List Loc) : Prop := ∃ b : Addr, (v = some (.ref b)) ∧ (Fr n0 L) ∧ (Keep h0 h []) ∧ (Exa Z h b "java/lang/String") ∧ (SX Z h b (cs.drop k))
set_option maxRecDepth 65536 in
set_option maxHeartbeats 40000000 in
theorem rm_sub1 (l : Launch) (Z : State) (a0 : Array Value) (hw : ∀ d ∈ tables_1, d.before a0 Z = true) (ws : List Jvm.Cond) (hEL : EW Z a0 EL) (a1 : Addr) (cs : List Int32) (k : Nat) (h0 : Heap) (n0 : Nat) (O0 : Old Z n0 h0) (zcs : Int32) (Scs : Sta Z Z.heap "java/lang/String" "COMPACT_STRINGS" "Z" (.int zcs)) (hz_Scs : ¬ zcs = 0) (fmt : Value) (Sfm : Sta Z Z.heap "jdk/internal/util/Preconditions" "SIOOBE_FORMATTER" "Ljava/util/function/BiFunction;" fmt) (hz_Sfm : fmt.isRef = true) (E_a1 : Exa Z h0 a1 "java/lang/String") (G_a1 : SX Z h0 a1 cs) (hl : cs.length ≤ 5) (hk : k ≤ cs.length) :
    MetFree l (⟨"java/lang/String", "substring", "(I)Ljava/lang/String;"⟩ : MethodName) (head1 ((Jvm.Cond.code (⟨"java/lang/String", "substring", "(I)Ljava/lang/String;"⟩ : MethodName) jdk_42_method_91_code 2 (some (.object "java/lang/String"))) :: ws) ({ frames := 5, cells := 2, slots := 9, locals := 80 } : Room)) (fun a U => a = #[(.ref a1), (.int (Int32.ofNat k))] ∧ Z.Warmed39 U.vm ∧ U.heap = h0 ∧ CHv Z EL U.vm h0) (fun _ _ _ _ _ => True) (fun _ U o U' => ∃ v L, o = .returned v ∧ Q_sub1 Z a1 cs k h0 n0 v U'.heap L ∧ CHr Z EL U.vm U.heap U'.vm U'.heap ∧ ReturnedEndW U o U' L ({ frames := 5, cells := 2, slots := 9, locals := 80 } : Room).cells ({ frames := 5, cells := 2, slots := 9, locals := 80 } : Room).slots) := by
  refine MetFree.of_bodySF (plainFor_of_name pn_0) hisR ?_
  intro p e s m args below meth c s₁ Bd hml0 hP hK
  obtain ⟨rfl, hZ, hh, hCH⟩ := hP
  have hx := Bd.exec
  have hby := Bd.bytes
  have hml : c.maxLocals = 2 := hml0
  have hown : (s.setVm s.vm).vm.findClass "java/lang/String" = some m.cls := (findClass_of_methodNamed Bd.named :)
  have hnm := (name_of_methodNamed Bd.named Bd.method).1
  have X0 : Stand p l e ({ frames := 5, cells := 2, slots := 9, locals := 80 } : Room) (s.setVm s.vm) m #[(.ref a1), (.int (Int32.ofNat k))] below meth c s₁ [] 0 0 := Stand.of_body Bd
  have e0 : s₁.heap = h0 := by rw [← hh, Bd.state]; rfl
  have N0 := Fr.nil n0
  have K0 : Keep h0 h0 [] := Keep.refl _ _
  have C0 : CHr Z EL s.vm h0 s.vm h0 := CHr.refl hCH
  have hS0 : s.Since s.vm h0.size := own_since0 s _
  have hk0 : h0.size ≤ h0.size := Nat.le_refl _
  suffices hG : Goes p e below (fun o U' => ∃ v L, o = .returned v ∧ Q_sub1 Z a1 cs k h0 n0 v U'.heap L ∧ CHr Z EL s.vm s.heap U'.vm U'.heap ∧ ReturnedEndW s o U' L ({ frames := 5, cells := 2, slots := 9, locals := 80 } : Room).cells ({ frames := 5, cells := 2, slots := 9, locals := 80 } : Room).slots) s₁ (mkF m 0 #[.val (.ref a1), .val (.int (Int32.ofNat k))] []) by
    obtain ⟨t, o, h1, h2⟩ := hG; exact ⟨t, o, castTop (ef_sub1 m a1 (Int32.ofNat k)) h1, h2⟩
  refine Goes.step (T' := s₁) (g' := (mkF m 1 #[.val (.ref a1), .val (.int (Int32.ofNat k))] [(.ref a1)])) (fun _ kz => XS.aloadN X0.here hx rfl (hb hby d_jdk_42_method_91_0) rfl rfl kz) ?_
  refine Goes.step (T' := s₁) (g' := (mkF m 2 #[.val (.ref a1), .val (.int (Int32.ofNat k))] [(.int (Int32.ofNat k)), (.ref a1)])) (fun _ kz => XS.iloadN X0.here hx rfl (hb hby d_jdk_42_method_91_1) rfl  kz) ?_
  refine Goes.step (T' := s₁) (g' := (mkF m 3 #[.val (.ref a1), .val (.int (Int32.ofNat k))] [(.ref a1), (.int (Int32.ofNat k)), (.ref a1)])) (fun _ kz => XS.aloadN X0.here hx rfl (hb hby d_jdk_42_method_91_2) rfl rfl kz) ?_
  obtain ⟨cq45, kq45, qa45, qb45, qc45⟩ := isOf hZ e0 E_a1
  obtain ⟨_, _, ⟨T45, L45, k45, n45⟩, -, X45, ⟨Lc45, hQ45, l45, y45, z45⟩, st45⟩ := X0.virtualBack hx (y := (⟨"java/lang/String", "length", "()I"⟩ : MethodName)) (z := (⟨"java/lang/String", "length", "()I"⟩ : MethodName)) hown (mvT hZ (hw _ (List.mem_of_getElem? (i := 96) rfl))) (mvT hZ (hw _ (List.mem_of_getElem? (i := 97) rfl))) (notFace_of_selects (args := #[]) (mvT hZ (hw _ (List.mem_of_getElem? (i := 99) rfl)))) (mvT hZ (hw _ (List.mem_of_getElem? (i := 99) rfl))) (mvT hZ (hw _ (List.mem_of_getElem? (i := 98) rfl))) (by decide) (own_lenW (W := 2) hZ hw (hw _ (List.mem_of_getElem? (i := 10) rfl)) G_a1 ((by omega)) (Scs.ext O0.2) hz_Scs (by decide) (by decide)) qa45 qc45 (g := (mkF m 3 #[.val (.ref a1), .val (.int (Int32.ofNat k))] [(.ref a1), (.int (Int32.ofNat k)), (.ref a1)])) rfl (by rw [hml]; rfl) (Steps.refl _) (argsL := []) (rest := [(.int (Int32.ofNat k)), (.ref a1)]) (lenOf pd_5 rfl) rfl (by show 2 * 0 + _ ≤ _; exact Nat.le_of_eq rfl) (hb hby d_jdk_42_method_91_3) (fun _ _ => ⟨rfl, e0, (by decide : 0 + 0 ≤ _), (by decide : 0 + 0 ≤ _)⟩)
  dsimp only [Pt.U, Pt.locs, Pt.cells, Pt.slots] at X45 l45 y45 z45 st45 hQ45
  subst l45 y45 z45
  obtain ⟨rfl, rfl, e45⟩ := hQ45
  replace N0 := Fr.app N0 (Fr.nil n0)
  refine Goes.run (T' := T45) (g' := (mkF m 6 #[.val (.ref a1), .val (.int (Int32.ofNat k))] [(.int (Int32.ofNat cs.length)), (.int (Int32.ofNat k)), (.ref a1)])) st45 ?_
  obtain ⟨cq46, kq46, qa46, qb46, qc46⟩ := isOf hZ e45 E_a1
  obtain ⟨_, _, ⟨T46, L46, k46, n46⟩, -, X46, hS46, hgr46, ⟨Lc46, hQ46, l46, y46, z46, Ch46⟩, st46⟩ := X45.virtualBackS hx (y := (⟨"java/lang/String", "substring", "(II)Ljava/lang/String;"⟩ : MethodName)) (z := (⟨"java/lang/String", "substring", "(II)Ljava/lang/String;"⟩ : MethodName)) hown (mvT hZ (hw _ (List.mem_of_getElem? (i := 132) rfl))) (mvT hZ (hw _ (List.mem_of_getElem? (i := 133) rfl))) (notFace_of_selects (args := #[]) (mvT hZ (hw _ (List.mem_of_getElem? (i := 135) rfl)))) (mvT hZ (hw _ (List.mem_of_getElem? (i := 135) rfl))) (mvT hZ (hw _ (List.mem_of_getElem? (i := 134) rfl))) (by decide) (backOfSH (W := 0) (rm_sub2 l Z a0 hw [] hEL a1 (cs) (k) h0 n0 O0 zcs Scs hz_Scs fmt Sfm hz_Sfm E_a1 G_a1 (by first | assumption | decide) (by first | assumption | decide)) hZ (hw _ (List.mem_of_getElem? (i := 136) rfl)) (hw _ (List.mem_of_getElem? (i := 11) rfl)) (by decide) (by decide) hEL C0.1) qa46 qc46 (g := (mkF m 6 #[.val (.ref a1), .val (.int (Int32.ofNat k))] [(.int (Int32.ofNat cs.length)), (.int (Int32.ofNat k)), (.ref a1)])) rfl (by rw [hml]; rfl) (Steps.refl _) (argsL := [(.int (Int32.ofNat k)), (.int (Int32.ofNat cs.length))]) (rest := []) (lenOf pd_12 rfl) rfl (by show 2 * 0 + _ ≤ _; exact Nat.le_of_eq rfl) (hb hby d_jdk_42_method_91_6) (fun _ _ => ⟨rfl, e45, (by decide : 0 + 2 ≤ _), (by decide : 0 + 9 ≤ _)⟩)
  dsimp only [Pt.U, Pt.locs, Pt.cells, Pt.slots] at X46 l46 y46 z46 st46 hQ46 hS46 hgr46 Ch46
  subst l46 y46 z46
  obtain ⟨h46, e46⟩ : ∃ z, T46.heap = z := ⟨_, rfl⟩
  rw [e46] at hQ46 Ch46
  obtain ⟨b_46, rfl, Nq46, Kq46, E_b_46_q46, G_b_46_q46⟩ := hQ46
  replace N0 := Fr.app N0 Nq46
  replace C0 := C0.trans Ch46
  replace G_a1 := G_a1.ext (own_kext Kq46)
  replace E_a1 := E_a1.keep Kq46
  replace O0 := O0.keep Kq46 all0
  replace K0 := K0.trans Kq46 all0
  have E_b_46 := E_b_46_q46
  have G_b_46 := G_b_46_q46
  obtain ⟨X46, hS46, hZ46, hown46⟩ := rebS hS0 (by rw [e45]; exact hk0) X46 hS46 hgr46 hZ hown
  rw [e46] at hS46
  clear hS0 hk0 hZ hown
  have hS0 := hS46
  have hk0 : h46.size ≤ h46.size := Nat.le_refl _
  have hZ := hZ46
  have hown := hown46
  refine Goes.run (T' := T46) (g' := (mkF m 9 #[.val (.ref a1), .val (.int (Int32.ofNat k))] [(.ref b_46)])) st46 ?_
  obtain ⟨fs, hr, hrun, hended, hend⟩ := X46.leaveW hS0 (by rw [e46]; exact hk0) (v := some (.ref b_46)) (fun h => by rw [Bd.returns] at h; cases h)
  exact ⟨_, _, retOut X46 hx Bd.returns rfl (Or.inr (Or.inr (Or.inr (Or.inr ⟨rfl, rfl, rfl⟩)))) (hb hby d_jdk_42_method_91_9) hr, hrun, hended, _, _, rfl, (by show Q_sub1 Z a1 cs k h0 n0 _ T46.heap _; rw [e46]; exact ⟨b_46, rfl, N0, K0, E_b_46, G_b_46⟩), (by show CHr Z EL s.vm s.heap T46.vm T46.heap; rw [e46, hh]; exact C0.trans (CHv.at X46 hZ hEL C0.1)), own_mono hend (by decide) (by decide)⟩
theorem d_prog_19_method_6_0 : decode prog_19_method_6_code 0 = .ok (.aload_n 0, 1) := by decide +kernel
theorem d_prog_19_method_6_1 : decode prog_19_method_6_code 1 = .ok (.getfield 7, 3) := by decide +kernel
theorem d_prog_19_method_6_4 : decode prog_19_method_6_code 4 = .ok (.aload_n 0, 1) := by decide +kernel
theorem d_prog_19_method_6_5 : decode prog_19_method_6_code 5 = .ok (.getfield 7, 3) := by decide +kernel
theorem d_prog_19_method_6_8 : decode prog_19_method_6_code 8 = .ok (.bipush 46, 2) := by decide +kernel
theorem d_prog_19_method_6_10 : decode prog_19_method_6_code 10 = .ok (.invokevirtual 145, 3) := by decide +kernel
theorem pd_13 : parseMethodDescriptor "(I)I" = some ⟨[.int], some .int⟩ := by decide +kernel
theorem d_prog_19_method_6_13 : decode prog_19_method_6_code 13 = .ok (.iconst 1, 1) := by decide +kernel
theorem d_prog_19_method_6_14 : decode prog_19_method_6_code 14 = .ok (.iadd, 1) := by decide +kernel
theorem d_prog_19_method_6_15 : decode prog_19_method_6_code 15 = .ok (.invokevirtual 149, 3) := by decide +kernel
theorem pd_14 : parseMethodDescriptor "(I)Ljava/lang/String;" = some ⟨[.int], some (.object "java/lang/String")⟩ := by decide +kernel
theorem d_prog_19_method_6_18 : decode prog_19_method_6_code 18 = .ok (.astore_n 1, 1) := by decide +kernel
theorem d_prog_19_method_6_19 : decode prog_19_method_6_code 19 = .ok (.aload_n 1, 1) := by decide +kernel
theorem d_prog_19_method_6_20 : decode prog_19_method_6_code 20 = .ok (.aload_n 1, 1) := by decide +kernel
theorem d_prog_19_method_6_21 : decode prog_19_method_6_code 21 = .ok (.bipush 36, 2) := by decide +kernel
theorem d_prog_19_method_6_23 : decode prog_19_method_6_code 23 = .ok (.invokevirtual 145, 3) := by decide +kernel
theorem d_prog_19_method_6_26 : decode prog_19_method_6_code 26 = .ok (.iconst 1, 1) := by decide +kernel
theorem d_prog_19_method_6_27 : decode prog_19_method_6_code 27 = .ok (.iadd, 1) := by decide +kernel
theorem d_prog_19_method_6_28 : decode prog_19_method_6_code 28 = .ok (.invokevirtual 149, 3) := by decide +kernel
theorem d_prog_19_method_6_31 : decode prog_19_method_6_code 31 = .ok (.areturn, 1) := by decide +kernel
theorem pn_4 : plainName NAC = true := by first | (simp [plainName, overriddenIn, NAC, site_146]; done) | decide +kernel
theorem ef_simple (m : MethodId) (a1 : Addr) : entryFrame m #[(.ref a1)] 2 = mkF m 0 #[.val (.ref a1), .unset] [] := by first | (simp [entryFrame, mkF, argsToLocals, Value.category, maxLocals]; done) | rfl
def Q_simple (Z : State) (a1 : Addr) (ty : Addr) (cs : List Int32) (h0 : Heap) (n0 : Nat) (v : Option Value) (h : Heap) (L : List Loc) : Prop := ∃ b : Addr, (v = some (.ref b)) ∧ (Fr n0 L) ∧ (Keep h0 h []) ∧ (Exa Z h b "java/lang/String") ∧ (SX Z h b (SNM cs))
set_option maxRecDepth 65536 in
set_option maxHeartbeats 40000000 in
theorem rm_simple (l : Launch) (Z : State) (a0 : Array Value) (hw : ∀ d ∈ tables_1, d.before a0 Z = true) (ws : List Jvm.Cond) (hEL : EW Z a0 EL) (a1 : Addr) (ty : Addr) (cs : List Int32) (h0 : Heap) (n0 : Nat) (O0 : Old Z n0 h0) (zcs : Int32) (Scs : Sta Z Z.heap "java/lang/String" "COMPACT_STRINGS" "Z" (.int zcs)) (hz_Scs : ¬ zcs = 0) (fmt : Value) (Sfm : Sta Z Z.heap "jdk/internal/util/Preconditions" "SIOOBE_FORMATTER" "Ljava/util/function/BiFunction;" fmt) (hz_Sfm : fmt.isRef = true) (E_a1 : Exa Z h0 a1 NAC) (F_a1_type : Fld Z h0 a1 NAC "type" "Ljava/lang/String;" (.ref ty)) (E_ty : Exa Z h0 ty "java/lang/String") (G_ty : SX Z h0 ty cs) (hl : cs.length ≤ 5) :
    MetFree l (⟨NAC, "simpleName", "()Ljava/lang/String;"⟩ : MethodName) (head1 ((Jvm.Cond.code (⟨NAC, "simpleName", "()Ljava/lang/String;"⟩ : MethodName) prog_19_method_6_code 2 (some (.object "java/lang/String"))) :: ws) ({ frames := 6, cells := 4, slots := 18, locals := 93 } : Room)) (fun a U => a = #[(.ref a1)] ∧ Z.Warmed39 U.vm ∧ U.heap = h0 ∧ CHv Z EL U.vm h0) (fun _ _ _ _ _ => True) (fun _ U o U' => ∃ v L, o = .returned v ∧ Q_simple Z a1 ty cs h0 n0 v U'.heap L ∧ CHr Z EL U.vm U.heap U'.vm U'.heap ∧ ReturnedEndW U o U' L ({ frames := 6, cells := 4, slots := 18, locals := 93 } : Room).cells ({ frames := 6, cells := 4, slots := 18, locals := 93 } : Room).slots) := by
  refine MetFree.of_bodySF (plainFor_of_name pn_4) hisR ?_
  intro p e s m args below meth c s₁ Bd hml0 hP hK
  obtain ⟨rfl, hZ, hh, hCH⟩ := hP
  have hx := Bd.exec
  have hby := Bd.bytes
  have hml : c.maxLocals = 2 := hml0
  have hown : (s.setVm s.vm).vm.findClass NAC = some m.cls := (findClass_of_methodNamed Bd.named :)
  have hnm := (name_of_methodNamed Bd.named Bd.method).1
  have X0 : Stand p l e ({ frames := 6, cells := 4, slots := 18, locals := 93 } : Room) (s.setVm s.vm) m #[(.ref a1)] below meth c s₁ [] 0 0 := Stand.of_body Bd
  have e0 : s₁.heap = h0 := by rw [← hh, Bd.state]; rfl
  have N0 := Fr.nil n0
  have K0 : Keep h0 h0 [] := Keep.refl _ _
  have C0 : CHr Z EL s.vm h0 s.vm h0 := CHr.refl hCH
  have hS0 : s.Since s.vm h0.size := own_since0 s _
  have hk0 : h0.size ≤ h0.size := Nat.le_refl _
  suffices hG : Goes p e below (fun o U' => ∃ v L, o = .returned v ∧ Q_simple Z a1 ty cs h0 n0 v U'.heap L ∧ CHr Z EL s.vm s.heap U'.vm U'.heap ∧ ReturnedEndW s o U' L ({ frames := 6, cells := 4, slots := 18, locals := 93 } : Room).cells ({ frames := 6, cells := 4, slots := 18, locals := 93 } : Room).slots) s₁ (mkF m 0 #[.val (.ref a1), .unset] []) by
    obtain ⟨t, o, h1, h2⟩ := hG; exact ⟨t, o, castTop (ef_simple m a1) h1, h2⟩
  refine Goes.step (T' := s₁) (g' := (mkF m 1 #[.val (.ref a1), .unset] [(.ref a1)])) (fun _ kz => XS.aloadN X0.here hx rfl (hb hby d_prog_19_method_6_0) rfl rfl kz) ?_
  obtain ⟨T47, X47, e47, st47⟩ := getF X0 hx hZ hown (host := "") (Or.inl (hw _ (List.mem_of_getElem? (i := 58) rfl))) Via.refl e0 F_a1_type (g := (mkF m 1 #[.val (.ref a1), .unset] [(.ref a1)])) rfl rfl (hb hby d_prog_19_method_6_1)
  refine Goes.step (T' := T47) (g' := (mkF m 4 #[.val (.ref a1), .unset] [(.ref ty)])) st47 ?_
  refine Goes.step (T' := T47) (g' := (mkF m 5 #[.val (.ref a1), .unset] [(.ref a1), (.ref ty)])) (fun _ kz => XS.aloadN X47.here hx rfl (hb hby d_prog_19_method_6_4) rfl rfl kz) ?_
  obtain ⟨T48, X48, e48, st48⟩ := getF X47 hx hZ hown (host := "") (Or.inl (hw _ (List.mem_of_getElem? (i := 58) rfl))) Via.refl e47 F_a1_type (g := (mkF m 5 #[.val (.ref a1), .unset] [(.ref a1), (.ref ty)])) rfl rfl (hb hby d_prog_19_method_6_5)
  refine Goes.step (T' := T48) (g' := (mkF m 8 #[.val (.ref a1), .unset] [(.ref ty), (.ref ty)])) st48 ?_
  refine Goes.step (T' := T48) (g' := (mkF m 10 #[.val (.ref a1), .unset] [(.int (46 : Int32)), (.ref ty), (.ref ty)])) (fun _ kz => XS.bipush X48.here hx rfl (hb hby d_prog_19_method_6_8) kz) ?_
  obtain ⟨cq49, kq49, qa49, qb49, qc49⟩ := isOf hZ e48 E_ty
  obtain ⟨_, _, ⟨T49, L49, k49, n49⟩, -, X49, ⟨Lc49, hQ49, l49, y49, z49⟩, st49⟩ := X48.virtualBack hx (y := (⟨"java/lang/String", "lastIndexOf", "(I)I"⟩ : MethodName)) (z := (⟨"java/lang/String", "lastIndexOf", "(I)I"⟩ : MethodName)) hown (mvT hZ (hw _ (List.mem_of_getElem? (i := 91) rfl))) (mvT hZ (hw _ (List.mem_of_getElem? (i := 92) rfl))) (notFace_of_selects (args := #[]) (mvT hZ (hw _ (List.mem_of_getElem? (i := 94) rfl)))) (mvT hZ (hw _ (List.mem_of_getElem? (i := 94) rfl))) (mvT hZ (hw _ (List.mem_of_getElem? (i := 93) rfl))) (by decide) (backOf (W := 1) (rm_lix1 l Z a0 hw [] ty (46 : Int32) (cs) h0 n0 O0 zcs Scs hz_Scs E_ty G_ty (by first | assumption | decide) (by first | assumption | decide) (by first | assumption | decide)) hZ (hw _ (List.mem_of_getElem? (i := 95) rfl)) (hw _ (List.mem_of_getElem? (i := 11) rfl)) (by decide) (by decide)) qa49 qc49 (g := (mkF m 10 #[.val (.ref a1), .unset] [(.int (46 : Int32)), (.ref ty), (.ref ty)])) rfl (by rw [hml]; rfl) (Steps.refl _) (argsL := [(.int (46 : Int32))]) (rest := [(.ref ty)]) (lenOf pd_13 rfl) rfl (by show 2 * 0 + _ ≤ _; exact Nat.le_of_eq rfl) (hb hby d_prog_19_method_6_10) (fun _ _ => ⟨rfl, e48, (by decide : 0 + 0 ≤ _), (by decide : 0 + 0 ≤ _)⟩)
  dsimp only [Pt.U, Pt.locs, Pt.cells, Pt.slots] at X49 l49 y49 z49 st49 hQ49
  subst l49 y49 z49
  obtain ⟨rfl, rfl, e49⟩ := hQ49
  replace N0 := Fr.app N0 (Fr.nil n0)
  refine Goes.run (T' := T49) (g' := (mkF m 13 #[.val (.ref a1), .unset] [(.int ((Int32.ofNat (LJ (46 : Int32) cs cs.length)) - (1 : Int32))), (.ref ty)])) st49 ?_
  refine Goes.step (T' := T49) (g' := (mkF m 14 #[.val (.ref a1), .unset] [(.int (1 : Int32)), (.int ((Int32.ofNat (LJ (46 : Int32) cs cs.length)) - (1 : Int32))), (.ref ty)])) (fun _ kz => XS.iconst X49.here hx rfl (hb hby d_prog_19_method_6_13) kz) ?_
  refine Goes.step (T' := T49) (g' := (mkF m 15 #[.val (.ref a1), .unset] [(.int (((Int32.ofNat (LJ (46 : Int32) cs cs.length)) - (1 : Int32)) + (1 : Int32))), (.ref ty)])) (fun _ kz => XS.iadd X49.here hx rfl (hb hby d_prog_19_method_6_14) rfl kz) ?_
  rw [Int32.sub_add_cancel]
  obtain ⟨cq50, kq50, qa50, qb50, qc50⟩ := isOf hZ e49 E_ty
  obtain ⟨_, _, ⟨T50, L50, k50, n50⟩, -, X50, hS50, hgr50, ⟨Lc50, hQ50, l50, y50, z50, Ch50⟩, st50⟩ := X49.virtualBackS hx (y := (⟨"java/lang/String", "substring", "(I)Ljava/lang/String;"⟩ : MethodName)) (z := (⟨"java/lang/String", "substring", "(I)Ljava/lang/String;"⟩ : MethodName)) hown (mvT hZ (hw _ (List.mem_of_getElem? (i := 127) rfl))) (mvT hZ (hw _ (List.mem_of_getElem? (i := 128) rfl))) (notFace_of_selects (args := #[]) (mvT hZ (hw _ (List.mem_of_getElem? (i := 130) rfl)))) (mvT hZ (hw _ (List.mem_of_getElem? (i := 130) rfl))) (mvT hZ (hw _ (List.mem_of_getElem? (i := 129) rfl))) (by decide) (backOfSH (W := 0) (rm_sub1 l Z a0 hw [] hEL ty (cs) ((LJ (46 : Int32) cs cs.length)) h0 n0 O0 zcs Scs hz_Scs fmt Sfm hz_Sfm E_ty G_ty (by first | assumption | decide) (LJ_le _ _ _)) hZ (hw _ (List.mem_of_getElem? (i := 131) rfl)) (hw _ (List.mem_of_getElem? (i := 11) rfl)) (by decide) (by decide) hEL C0.1) qa50 qc50 (g := (mkF m 15 #[.val (.ref a1), .unset] [(.int (Int32.ofNat (LJ (46 : Int32) cs cs.length))), (.ref ty)])) rfl (by rw [hml]; rfl) (Steps.refl _) (argsL := [(.int (Int32.ofNat (LJ (46 : Int32) cs cs.length)))]) (rest := []) (lenOf pd_14 rfl) rfl (by show 2 * 0 + _ ≤ _; exact Nat.le_of_eq rfl) (hb hby d_prog_19_method_6_15) (fun _ _ => ⟨rfl, e49, (by decide : 0 + 2 ≤ _), (by decide : 0 + 9 ≤ _)⟩)
  dsimp only [Pt.U, Pt.locs, Pt.cells, Pt.slots] at X50 l50 y50 z50 st50 hQ50 hS50 hgr50 Ch50
  subst l50 y50 z50
  obtain ⟨h50, e50⟩ : ∃ z, T50.heap = z := ⟨_, rfl⟩
  rw [e50] at hQ50 Ch50
  obtain ⟨b_50, rfl, Nq50, Kq50, E_b_50_q50, G_b_50_q50⟩ := hQ50
  replace N0 := Fr.app N0 Nq50
  replace C0 := C0.trans Ch50
  replace G_ty := G_ty.ext (own_kext Kq50)
  replace E_a1 := E_a1.keep Kq50
  replace F_a1_type := F_a1_type.keep Kq50 nin0
  replace E_ty := E_ty.keep Kq50
  replace O0 := O0.keep Kq50 all0
  replace K0 := K0.trans Kq50 all0
  have E_b_50 := E_b_50_q50
  have G_b_50 := G_b_50_q50
  obtain ⟨X50, hS50, hZ50, hown50⟩ := rebS hS0 (by rw [e49]; exact hk0) X50 hS50 hgr50 hZ hown
  rw [e50] at hS50
  clear hS0 hk0 hZ hown
  have hS0 := hS50
  have hk0 : h50.size ≤ h50.size := Nat.le_refl _
  have hZ := hZ50
  have hown := hown50
  refine Goes.run (T' := T50) (g' := (mkF m 18 #[.val (.ref a1), .unset] [(.ref b_50)])) st50 ?_
  obtain ⟨ds, hds⟩ : ∃ z, z = cs.drop (LJ (46 : Int32) cs cs.length) := ⟨_, rfl⟩
  rw [← hds] at G_b_50
  have hld : ds.length ≤ 5 := by rw [hds, List.length_drop]; omega
  refine Goes.step (T' := T50) (g' := (mkF m 19 #[.val (.ref a1), .val (.ref b_50)] [])) (fun _ kz => XS.astoreN X50.here hx rfl (hb hby d_prog_19_method_6_18) rfl rfl (l' := #[.val (.ref a1), .val (.ref b_50)]) rfl kz) ?_
  refine Goes.step (T' := T50) (g' := (mkF m 20 #[.val (.ref a1), .val (.ref b_50)] [(.ref b_50)])) (fun _ kz => XS.aloadN X50.here hx rfl (hb hby d_prog_19_method_6_19) rfl rfl kz) ?_
  refine Goes.step (T' := T50) (g' := (mkF m 21 #[.val (.ref a1), .val (.ref b_50)] [(.ref b_50), (.ref b_50)])) (fun _ kz => XS.aloadN X50.here hx rfl (hb hby d_prog_19_method_6_20) rfl rfl kz) ?_
  refine Goes.step (T' := T50) (g' := (mkF m 23 #[.val (.ref a1), .val (.ref b_50)] [(.int (36 : Int32)), (.ref b_50), (.ref b_50)])) (fun _ kz => XS.bipush X50.here hx rfl (hb hby d_prog_19_method_6_21) kz) ?_
  obtain ⟨cq51, kq51, qa51, qb51, qc51⟩ := isOf hZ e50 E_b_50
  obtain ⟨_, _, ⟨T51, L51, k51, n51⟩, -, X51, ⟨Lc51, hQ51, l51, y51, z51⟩, st51⟩ := X50.virtualBack hx (y := (⟨"java/lang/String", "lastIndexOf", "(I)I"⟩ : MethodName)) (z := (⟨"java/lang/String", "lastIndexOf", "(I)I"⟩ : MethodName)) hown (mvT hZ (hw _ (List.mem_of_getElem? (i := 91) rfl))) (mvT hZ (hw _ (List.mem_of_getElem? (i := 92) rfl))) (notFace_of_selects (args := #[]) (mvT hZ (hw _ (List.mem_of_getElem? (i := 94) rfl)))) (mvT hZ (hw _ (List.mem_of_getElem? (i := 94) rfl))) (mvT hZ (hw _ (List.mem_of_getElem? (i := 93) rfl))) (by decide) (backOf (W := 1) (rm_lix1 l Z a0 hw [] b_50 (36 : Int32) (ds) h50 n0 O0 zcs Scs hz_Scs E_b_50 G_b_50 (by first | assumption | decide) (by first | assumption | decide) (by first | assumption | decide)) hZ (hw _ (List.mem_of_getElem? (i := 95) rfl)) (hw _ (List.mem_of_getElem? (i := 11) rfl)) (by decide) (by decide)) qa51 qc51 (g := (mkF m 23 #[.val (.ref a1), .val (.ref b_50)] [(.int (36 : Int32)), (.ref b_50), (.ref b_50)])) rfl (by rw [hml]; rfl) (Steps.refl _) (argsL := [(.int (36 : Int32))]) (rest := [(.ref b_50)]) (lenOf pd_13 rfl) rfl (by show 2 * 0 + _ ≤ _; exact Nat.le_of_eq rfl) (hb hby d_prog_19_method_6_23) (fun _ _ => ⟨rfl, e50, (by decide : 2 + 0 ≤ _), (by decide : 9 + 0 ≤ _)⟩)
  dsimp only [Pt.U, Pt.locs, Pt.cells, Pt.slots] at X51 l51 y51 z51 st51 hQ51
  subst l51 y51 z51
  obtain ⟨rfl, rfl, e51⟩ := hQ51
  replace N0 := Fr.app N0 (Fr.nil n0)
  refine Goes.run (T' := T51) (g' := (mkF m 26 #[.val (.ref a1), .val (.ref b_50)] [(.int ((Int32.ofNat (LJ (36 : Int32) ds ds.length)) - (1 : Int32))), (.ref b_50)])) st51 ?_
  refine Goes.step (T' := T51) (g' := (mkF m 27 #[.val (.ref a1), .val (.ref b_50)] [(.int (1 : Int32)), (.int ((Int32.ofNat (LJ (36 : Int32) ds ds.length)) - (1 : Int32))), (.ref b_50)])) (fun _ kz => XS.iconst X51.here hx rfl (hb hby d_prog_19_method_6_26) kz) ?_
  refine Goes.step (T' := T51) (g' := (mkF m 28 #[.val (.ref a1), .val (.ref b_50)] [(.int (((Int32.ofNat (LJ (36 : Int32) ds ds.length)) - (1 : Int32)) + (1 : Int32))), (.ref b_50)])) (fun _ kz => XS.iadd X51.here hx rfl (hb hby d_prog_19_method_6_27) rfl kz) ?_
  rw [Int32.sub_add_cancel]
  obtain ⟨cq52, kq52, qa52, qb52, qc52⟩ := isOf hZ e51 E_b_50
  obtain ⟨_, _, ⟨T52, L52, k52, n52⟩, -, X52, hS52, hgr52, ⟨Lc52, hQ52, l52, y52, z52, Ch52⟩, st52⟩ := X51.virtualBackS hx (y := (⟨"java/lang/String", "substring", "(I)Ljava/lang/String;"⟩ : MethodName)) (z := (⟨"java/lang/String", "substring", "(I)Ljava/lang/String;"⟩ : MethodName)) hown (mvT hZ (hw _ (List.mem_of_getElem? (i := 127) rfl))) (mvT hZ (hw _ (List.mem_of_getElem? (i := 128) rfl))) (notFace_of_selects (args := #[]) (mvT hZ (hw _ (List.mem_of_getElem? (i := 130) rfl)))) (mvT hZ (hw _ (List.mem_of_getElem? (i := 130) rfl))) (mvT hZ (hw _ (List.mem_of_getElem? (i := 129) rfl))) (by decide) (backOfSH (W := 0) (rm_sub1 l Z a0 hw [] hEL b_50 (ds) ((LJ (36 : Int32) ds ds.length)) h50 n0 O0 zcs Scs hz_Scs fmt Sfm hz_Sfm E_b_50 G_b_50 (by first | assumption | decide) (LJ_le _ _ _)) hZ (hw _ (List.mem_of_getElem? (i := 131) rfl)) (hw _ (List.mem_of_getElem? (i := 11) rfl)) (by decide) (by decide) hEL C0.1) qa52 qc52 (g := (mkF m 28 #[.val (.ref a1), .val (.ref b_50)] [(.int (Int32.ofNat (LJ (36 : Int32) ds ds.length))), (.ref b_50)])) rfl (by rw [hml]; rfl) (Steps.refl _) (argsL := [(.int (Int32.ofNat (LJ (36 : Int32) ds ds.length)))]) (rest := []) (lenOf pd_14 rfl) rfl (by show 2 * 0 + _ ≤ _; exact Nat.le_of_eq rfl) (hb hby d_prog_19_method_6_28) (fun _ _ => ⟨rfl, e51, (by decide : 2 + 2 ≤ _), (by decide : 9 + 9 ≤ _)⟩)
  dsimp only [Pt.U, Pt.locs, Pt.cells, Pt.slots] at X52 l52 y52 z52 st52 hQ52 hS52 hgr52 Ch52
  subst l52 y52 z52
  obtain ⟨h52, e52⟩ : ∃ z, T52.heap = z := ⟨_, rfl⟩
  rw [e52] at hQ52 Ch52
  obtain ⟨b_52, rfl, Nq52, Kq52, E_b_52_q52, G_b_52_q52⟩ := hQ52
  replace N0 := Fr.app N0 Nq52
  replace C0 := C0.trans Ch52
  replace G_ty := G_ty.ext (own_kext Kq52)
  replace G_b_50 := G_b_50.ext (own_kext Kq52)
  replace E_a1 := E_a1.keep Kq52
  replace F_a1_type := F_a1_type.keep Kq52 nin0
  replace E_ty := E_ty.keep Kq52
  replace E_b_50 := E_b_50.keep Kq52
  replace O0 := O0.keep Kq52 all0
  replace K0 := K0.trans Kq52 all0
  have E_b_52 := E_b_52_q52
  have G_b_52 := G_b_52_q52
  obtain ⟨X52, hS52, hZ52, hown52⟩ := rebS hS0 (by rw [e51]; exact hk0) X52 hS52 hgr52 hZ hown
  rw [e52] at hS52
  clear hS0 hk0 hZ hown
  have hS0 := hS52
  have hk0 : h52.size ≤ h52.size := Nat.le_refl _
  have hZ := hZ52
  have hown := hown52
  refine Goes.run (T' := T52) (g' := (mkF m 31 #[.val (.ref a1), .val (.ref b_50)] [(.ref b_52)])) st52 ?_
  obtain ⟨fs, hr, hrun, hended, hend⟩ := X52.leaveW hS0 (by rw [e52]; exact hk0) (v := some (.ref b_52)) (fun h => by rw [Bd.returns] at h; cases h)
  exact ⟨_, _, retOut X52 hx Bd.returns rfl (Or.inr (Or.inr (Or.inr (Or.inr ⟨rfl, rfl, rfl⟩)))) (hb hby d_prog_19_method_6_31) hr, hrun, hended, _, _, rfl, (by show Q_simple Z a1 ty cs h0 n0 _ T52.heap _; rw [e52]; exact ⟨b_52, rfl, N0, K0, E_b_52, (by rw [SNM, ← hds]; exact G_b_52)⟩), (by show CHr Z EL s.vm s.heap T52.vm T52.heap; rw [e52, hh]; exact C0.trans (CHv.at X52 hZ hEL C0.1)), own_mono hend (by decide) (by decide)⟩
theorem d_jdk_71_method_1_0 : decode jdk_71_method_1_code 0 = .ok (.aload_n 0, 1) := by decide +kernel
theorem d_jdk_71_method_1_1 : decode jdk_71_method_1_code 1 = .ok (.invokespecial 1, 3) := by decide +kernel
theorem d_jdk_71_method_1_4 : decode jdk_71_method_1_code 4 = .ok (.return_, 1) := by decide +kernel
theorem pn_5 : plainName "java/util/AbstractMap" = true := by first | (simp [plainName, overriddenIn]; done) | decide +kernel
theorem ef_amInit (m : MethodId) (a1 : Addr) : entryFrame m #[(.ref a1)] 1 = mkF m 0 #[.val (.ref a1)] [] := by first | (simp [entryFrame, mkF, argsToLocals, Value.category, maxLocals]; done) | rfl
def Q_amInit (Z : State) (a1 : Addr) (h0 : Heap) (n0 : Nat) (v : Option Value) (h : Heap) (L : List Loc) : Prop := (v = none) ∧ (L = []) ∧ (h = h0)
set_option maxRecDepth 65536 in
set_option maxHeartbeats 40000000 in
theorem rm_amInit (l : Launch) (Z : State) (a0 : Array Value) (hw : ∀ d ∈ tables_1, d.before a0 Z = true) (ws : List Jvm.Cond) (a1 : Addr) (h0 : Heap) (n0 : Nat) (O0 : Old Z n0 h0)   :
    MetFree l (⟨"java/util/AbstractMap", "<init>", "()V"⟩ : MethodName) (head1 ((Jvm.Cond.code (⟨"java/util/AbstractMap", "<init>", "()V"⟩ : MethodName) jdk_71_method_1_code 1 none) :: ws) ({ frames := 1, cells := 0, slots := 0, locals := 12 } : Room)) (fun a U => a = #[(.ref a1)] ∧ Z.Warmed39 U.vm ∧ U.heap = h0) (fun _ _ _ _ _ => True) (fun _ U o U' => ∃ v L, o = .returned v ∧ Q_amInit Z a1 h0 n0 v U'.heap L ∧ FrameEnd U o U' L ({ frames := 1, cells := 0, slots := 0, locals := 12 } : Room).cells ({ frames := 1, cells := 0, slots := 0, locals := 12 } : Room).slots) := by
  refine MetFree.of_bodySF (plainFor_of_name pn_5) hisR ?_
  intro p e s m args below meth c s₁ Bd hml0 hP hK
  obtain ⟨rfl, hZ, hh⟩ := hP
  have hx := Bd.exec
  have hby := Bd.bytes
  have hml : c.maxLocals = 1 := hml0
  have hown : s.vm.findClass "java/util/AbstractMap" = some m.cls := (findClass_of_methodNamed Bd.named :)
  have hnm := (name_of_methodNamed Bd.named Bd.method).1
  have X0 : Stand p l e ({ frames := 1, cells := 0, slots := 0, locals := 12 } : Room) s m #[(.ref a1)] below meth c s₁ [] 0 0 := Stand.of_body Bd
  have e0 : s₁.heap = h0 := by rw [← hh, Bd.state]; rfl
  have N0 := Fr.nil n0
  have K0 : Keep h0 h0 [] := Keep.refl _ _
  suffices hG : Goes p e below (fun o U' => ∃ v L, o = .returned v ∧ Q_amInit Z a1 h0 n0 v U'.heap L ∧ FrameEnd s o U' L ({ frames := 1, cells := 0, slots := 0, locals := 12 } : Room).cells ({ frames := 1, cells := 0, slots := 0, locals := 12 } : Room).slots) s₁ (mkF m 0 #[.val (.ref a1)] []) by
    obtain ⟨t, o, h1, h2⟩ := hG; exact ⟨t, o, castTop (ef_amInit m a1) h1, h2⟩
  refine Goes.step (T' := s₁) (g' := (mkF m 1 #[.val (.ref a1)] [(.ref a1)])) (fun _ kz => XS.aloadN X0.here hx rfl (hb hby d_jdk_71_method_1_0) rfl rfl kz) ?_
  obtain ⟨T53, X53, e53, st53⟩ := initO X0 hx hZ hown (hw _ (List.mem_of_getElem? (i := 50) rfl)) (hw _ (List.mem_of_getElem? (i := 20) rfl)) (hw _ (List.mem_of_getElem? (i := 21) rfl)) e0 (g := (mkF m 1 #[.val (.ref a1)] [(.ref a1)])) rfl (by rw [hml]; rfl) rfl (hb hby d_jdk_71_method_1_1) (by decide) (W := 0) (by show 2 * 0 + _ ≤ _; exact Nat.le_of_eq rfl) (by decide)
  refine Goes.step (T' := T53) (g' := (mkF m 4 #[.val (.ref a1)] [])) st53 ?_
  obtain ⟨fs, hr, hrun, hended, hW, hsame⟩ := X53.leave (v := none) (fun _ => rfl)
  exact ⟨_, _, X53.returnOut hx Bd.returns (hb hby d_jdk_71_method_1_4) hr, hrun, hended, _, _, rfl, (by show Q_amInit Z a1 h0 n0 _ T53.heap _; rw [e53]; exact ⟨rfl, rfl, rfl⟩), ⟨_, rfl⟩, hW, hsame.mono (by decide) (by decide)⟩
theorem d_jdk_69_method_7_0 : decode jdk_69_method_7_code 0 = .ok (.aload_n 0, 1) := by decide +kernel
theorem d_jdk_69_method_7_1 : decode jdk_69_method_7_code 1 = .ok (.invokespecial 43, 3) := by decide +kernel
theorem pd_15 : parseMethodDescriptor "()V" = some ⟨[], none⟩ := by decide +kernel
theorem d_jdk_69_method_7_4 : decode jdk_69_method_7_code 4 = .ok (.aload_n 0, 1) := by decide +kernel
theorem d_jdk_69_method_7_5 : decode jdk_69_method_7_code 5 = .ok (.ldc 92, 2) := by decide +kernel
theorem d_jdk_69_method_7_7 : decode jdk_69_method_7_code 7 = .ok (.putfield 81, 3) := by decide +kernel
theorem d_jdk_69_method_7_10 : decode jdk_69_method_7_code 10 = .ok (.return_, 1) := by decide +kernel
theorem pn_6 : plainName "java/util/HashMap" = true := by first | (simp [plainName, overriddenIn]; done) | decide +kernel
theorem ef_hmInit (m : MethodId) (a1 : Addr) : entryFrame m #[(.ref a1)] 1 = mkF m 0 #[.val (.ref a1)] [] := by first | (simp [entryFrame, mkF, argsToLocals, Value.category, maxLocals]; done) | rfl
def Q_hmInit (Z : State) (a1 : Addr) (h0 : Heap) (n0 : Nat) (v : Option Value) (h : Heap) (L : List Loc) : Prop := (v = none) ∧ (Fr n0 L) ∧ (Keep h0 h [a1]) ∧ (Exa Z h a1 "java/util/HashMap")
set_option maxRecDepth 65536 in
set_option maxHeartbeats 40000000 in
theorem rm_hmInit (l : Launch) (Z : State) (a0 : Array Value) (hw : ∀ d ∈ tables_1, d.before a0 Z = true) (ws : List Jvm.Cond) (a1 : Addr) (h0 : Heap) (n0 : Nat) (O0 : Old Z n0 h0)  (E_a1 : Exa Z h0 a1 "java/util/HashMap") (F_a1_loadFactor : Fld Z h0 a1 "java/util/HashMap" "loadFactor" "F" (.float (0 : UInt32))) (g_a1 : n0 ≤ a1) :
    MetFree l (⟨"java/util/HashMap", "<init>", "()V"⟩ : MethodName) (head1 ((Jvm.Cond.code (⟨"java/util/HashMap", "<init>", "()V"⟩ : MethodName) jdk_69_method_7_code 1 none) :: ws) ({ frames := 2, cells := 0, slots := 0, locals := 24 } : Room)) (fun a U => a = #[(.ref a1)] ∧ Z.Warmed39 U.vm ∧ U.heap = h0) (fun _ _ _ _ _ => True) (fun _ U o U' => ∃ v L, o = .returned v ∧ Q_hmInit Z a1 h0 n0 v U'.heap L ∧ FrameEnd U o U' L ({ frames := 2, cells := 0, slots := 0, locals := 24 } : Room).cells ({ frames := 2, cells := 0, slots := 0, locals := 24 } : Room).slots) := by
  refine MetFree.of_bodySF (plainFor_of_name pn_6) hisR ?_
  intro p e s m args below meth c s₁ Bd hml0 hP hK
  obtain ⟨rfl, hZ, hh⟩ := hP
  have hx := Bd.exec
  have hby := Bd.bytes
  have hml : c.maxLocals = 1 := hml0
  have hown : s.vm.findClass "java/util/HashMap" = some m.cls := (findClass_of_methodNamed Bd.named :)
  have hnm := (name_of_methodNamed Bd.named Bd.method).1
  have X0 : Stand p l e ({ frames := 2, cells := 0, slots := 0, locals := 24 } : Room) s m #[(.ref a1)] below meth c s₁ [] 0 0 := Stand.of_body Bd
  have e0 : s₁.heap = h0 := by rw [← hh, Bd.state]; rfl
  have N0 := Fr.nil n0
  have K0 : Keep h0 h0 [a1] := Keep.refl _ _
  suffices hG : Goes p e below (fun o U' => ∃ v L, o = .returned v ∧ Q_hmInit Z a1 h0 n0 v U'.heap L ∧ FrameEnd s o U' L ({ frames := 2, cells := 0, slots := 0, locals := 24 } : Room).cells ({ frames := 2, cells := 0, slots := 0, locals := 24 } : Room).slots) s₁ (mkF m 0 #[.val (.ref a1)] []) by
    obtain ⟨t, o, h1, h2⟩ := hG; exact ⟨t, o, castTop (ef_hmInit m a1) h1, h2⟩
  refine Goes.step (T' := s₁) (g' := (mkF m 1 #[.val (.ref a1)] [(.ref a1)])) (fun _ kz => XS.aloadN X0.here hx rfl (hb hby d_jdk_69_method_7_0) rfl rfl kz) ?_
  obtain ⟨_, _, ⟨T54, L54, k54, n54⟩, -, X54, ⟨Lc54, hQ54, l54, y54, z54⟩, st54⟩ := X0.specialBack hx (y := (⟨"java/util/AbstractMap", "<init>", "()V"⟩ : MethodName)) rfl hown (mvT hZ (hw _ (List.mem_of_getElem? (i := 44) rfl))) (mvT hZ (hw _ (List.mem_of_getElem? (i := 45) rfl))) (mvT hZ (hw _ (List.mem_of_getElem? (i := 49) rfl))) (by decide) (backOf (W := 0) (rm_amInit l Z a0 hw [] a1 h0 n0 O0  ) hZ (hw _ (List.mem_of_getElem? (i := 49) rfl)) (hw _ (List.mem_of_getElem? (i := 48) rfl)) (by decide) (by decide)) (g := (mkF m 1 #[.val (.ref a1)] [(.ref a1)])) rfl (by rw [hml]; rfl) (Steps.refl _) (a := a1) (argsL := []) (rest := []) (lenOf pd_15 rfl) rfl (by show 2 * 0 + _ ≤ _; exact Nat.le_of_eq rfl) (hb hby d_jdk_69_method_7_1) (fun _ _ => ⟨rfl, e0, (by decide : 0 + 0 ≤ _), (by decide : 0 + 0 ≤ _)⟩)
  dsimp only [Pt.U, Pt.locs, Pt.cells, Pt.slots] at X54 l54 y54 z54 st54 hQ54
  subst l54 y54 z54
  obtain ⟨rfl, rfl, e54⟩ := hQ54
  replace N0 := Fr.app N0 (Fr.nil n0)
  refine Goes.run (T' := T54) (g' := (mkF m 4 #[.val (.ref a1)] [])) st54 ?_
  refine Goes.step (T' := T54) (g' := (mkF m 5 #[.val (.ref a1)] [(.ref a1)])) (fun _ kz => XS.aloadN X54.here hx rfl (hb hby d_jdk_69_method_7_4) rfl rfl kz) ?_
  refine Goes.step (T' := T54) (g' := (mkF m 7 #[.val (.ref a1)] [(.float (1061158912 : UInt32)), (.ref a1)])) (X54.ldcFloatC hx hown (mvT hZ (hw _ (List.mem_of_getElem? (i := 51) rfl))) (g := (mkF m 5 #[.val (.ref a1)] [(.ref a1)])) rfl (hb hby d_jdk_69_method_7_5)) ?_
  obtain ⟨T55, h55, X55, e55, W55, st55⟩ := putF X54 hx hZ hown (host := "") (Or.inl (hw _ (List.mem_of_getElem? (i := 52) rfl))) Via.refl e54 F_a1_loadFactor E_a1 (Or.inr ⟨(hw _ (List.mem_of_getElem? (i := 53) rfl)), rfl, hnm⟩) (hw _ (List.mem_of_getElem? (i := 39) rfl)) (ty := .float) (by decide) rfl rfl (g := (mkF m 7 #[.val (.ref a1)] [(.float (1061158912 : UInt32)), (.ref a1)])) rfl rfl (hb hby d_jdk_69_method_7_7)
  replace N0 := Fr.snoc X55 N0 g_a1
  replace E_a1 := E_a1.wr W55
  replace F_a1_loadFactor := F_a1_loadFactor.same W55
  replace O0 := O0.wr W55 g_a1
  replace K0 := K0.wr W55 (Or.inl (List.mem_of_getElem? (i := 0) rfl))
  refine Goes.step (T' := T55) (g' := (mkF m 10 #[.val (.ref a1)] [])) st55 ?_
  obtain ⟨fs, hr, hrun, hended, hW, hsame⟩ := X55.leave (v := none) (fun _ => rfl)
  exact ⟨_, _, X55.returnOut hx Bd.returns (hb hby d_jdk_69_method_7_10) hr, hrun, hended, _, _, rfl, (by show Q_hmInit Z a1 h0 n0 _ T55.heap _; rw [e55]; exact ⟨rfl, N0, K0, E_a1⟩), ⟨_, rfl⟩, hW, hsame.mono (by decide) (by decide)⟩
theorem d_jdk_2500_method_1_0 : decode jdk_2500_method_1_code 0 = .ok (.aload_n 0, 1) := by decide +kernel
theorem d_jdk_2500_method_1_1 : decode jdk_2500_method_1_code 1 = .ok (.invokespecial 1, 3) := by decide +kernel
theorem d_jdk_2500_method_1_4 : decode jdk_2500_method_1_code 4 = .ok (.aload_n 1, 1) := by decide +kernel
theorem d_jdk_2500_method_1_5 : decode jdk_2500_method_1_code 5 = .ok (.ifnonnull 11, 3) := by decide +kernel
theorem d_jdk_2500_method_1_16 : decode jdk_2500_method_1_code 16 = .ok (.aload_n 0, 1) := by decide +kernel
theorem d_jdk_2500_method_1_17 : decode jdk_2500_method_1_code 17 = .ok (.aload_n 1, 1) := by decide +kernel
theorem d_jdk_2500_method_1_18 : decode jdk_2500_method_1_code 18 = .ok (.putfield 10, 3) := by decide +kernel
theorem d_jdk_2500_method_1_21 : decode jdk_2500_method_1_code 21 = .ok (.return_, 1) := by decide +kernel
theorem pn_7 : plainName "java/util/Collections$UnmodifiableMap" = true := by first | (simp [plainName, overriddenIn]; done) | decide +kernel
theorem ef_umInit (m : MethodId) (a1 : Addr) (a2 : Addr) : entryFrame m #[(.ref a1), (.ref a2)] 2 = mkF m 0 #[.val (.ref a1), .val (.ref a2)] [] := by first | (simp [entryFrame, mkF, argsToLocals, Value.category, maxLocals]; done) | rfl
def Q_umInit (Z : State) (a1 : Addr) (a2 : Addr) (h0 : Heap) (n0 : Nat) (v : Option Value) (h : Heap) (L : List Loc) : Prop := (v = none) ∧ (Fr n0 L) ∧ (Keep h0 h [a1]) ∧ (Exa Z h a1 "java/util/Collections$UnmodifiableMap")
set_option maxRecDepth 65536 in
set_option maxHeartbeats 40000000 in
theorem rm_umInit (l : Launch) (Z : State) (a0 : Array Value) (hw : ∀ d ∈ tables_1, d.before a0 Z = true) (ws : List Jvm.Cond) (a1 : Addr) (a2 : Addr) (h0 : Heap) (n0 : Nat) (O0 : Old Z n0 h0)  (E_a1 : Exa Z h0 a1 "java/util/Collections$UnmodifiableMap") (F_a1_m : Fld Z h0 a1 "java/util/Collections$UnmodifiableMap" "m" "Ljava/util/Map;" .null) (g_a1 : n0 ≤ a1) :
    MetFree l (⟨"java/util/Collections$UnmodifiableMap", "<init>", "(Ljava/util/Map;)V"⟩ : MethodName) (head1 ((Jvm.Cond.code (⟨"java/util/Collections$UnmodifiableMap", "<init>", "(Ljava/util/Map;)V"⟩ : MethodName) jdk_2500_method_1_code 2 none) :: ws) ({ frames := 1, cells := 0, slots := 0, locals := 12 } : Room)) (fun a U => a = #[(.ref a1), (.ref a2)] ∧ Z.Warmed39 U.vm ∧ U.heap = h0) (fun _ _ _ _ _ => True) (fun _ U o U' => ∃ v L, o = .returned v ∧ Q_umInit Z a1 a2 h0 n0 v U'.heap L ∧ FrameEnd U o U' L ({ frames := 1, cells := 0, slots := 0, locals := 12 } : Room).cells ({ frames := 1, cells := 0, slots := 0, locals := 12 } : Room).slots) := by
  refine MetFree.of_bodySF (plainFor_of_name pn_7) hisR ?_
  intro p e s m args below meth c s₁ Bd hml0 hP hK
  obtain ⟨rfl, hZ, hh⟩ := hP
  have hx := Bd.exec
  have hby := Bd.bytes
  have hml : c.maxLocals = 2 := hml0
  have hown : s.vm.findClass "java/util/Collections$UnmodifiableMap" = some m.cls := (findClass_of_methodNamed Bd.named :)
  have hnm := (name_of_methodNamed Bd.named Bd.method).1
  have X0 : Stand p l e ({ frames := 1, cells := 0, slots := 0, locals := 12 } : Room) s m #[(.ref a1), (.ref a2)] below meth c s₁ [] 0 0 := Stand.of_body Bd
  have e0 : s₁.heap = h0 := by rw [← hh, Bd.state]; rfl
  have N0 := Fr.nil n0
  have K0 : Keep h0 h0 [a1] := Keep.refl _ _
  suffices hG : Goes p e below (fun o U' => ∃ v L, o = .returned v ∧ Q_umInit Z a1 a2 h0 n0 v U'.heap L ∧ FrameEnd s o U' L ({ frames := 1, cells := 0, slots := 0, locals := 12 } : Room).cells ({ frames := 1, cells := 0, slots := 0, locals := 12 } : Room).slots) s₁ (mkF m 0 #[.val (.ref a1), .val (.ref a2)] []) by
    obtain ⟨t, o, h1, h2⟩ := hG; exact ⟨t, o, castTop (ef_umInit m a1 a2) h1, h2⟩
  refine Goes.step (T' := s₁) (g' := (mkF m 1 #[.val (.ref a1), .val (.ref a2)] [(.ref a1)])) (fun _ kz => XS.aloadN X0.here hx rfl (hb hby d_jdk_2500_method_1_0) rfl rfl kz) ?_
  obtain ⟨T56, X56, e56, st56⟩ := initO X0 hx hZ hown (hw _ (List.mem_of_getElem? (i := 81) rfl)) (hw _ (List.mem_of_getElem? (i := 20) rfl)) (hw _ (List.mem_of_getElem? (i := 21) rfl)) e0 (g := (mkF m 1 #[.val (.ref a1), .val (.ref a2)] [(.ref a1)])) rfl (by rw [hml]; rfl) rfl (hb hby d_jdk_2500_method_1_1) (by decide) (W := 0) (by show 2 * 0 + _ ≤ _; exact Nat.le_of_eq rfl) (by decide)
  refine Goes.step (T' := T56) (g' := (mkF m 4 #[.val (.ref a1), .val (.ref a2)] [])) st56 ?_
  refine Goes.step (T' := T56) (g' := (mkF m 5 #[.val (.ref a1), .val (.ref a2)] [(.ref a2)])) (fun _ kz => XS.aloadN X56.here hx rfl (hb hby d_jdk_2500_method_1_4) rfl rfl kz) ?_
  refine Goes.step (T' := T56) (g' := (mkF m 16 #[.val (.ref a1), .val (.ref a2)] [])) (fun _ kz => XS.ifnonnullYes X56.here hx rfl (pc0 := 5) (pc' := 16) rfl (hb hby d_jdk_2500_method_1_5) rfl (by decide) (by decide) kz) ?_
  refine Goes.step (T' := T56) (g' := (mkF m 17 #[.val (.ref a1), .val (.ref a2)] [(.ref a1)])) (fun _ kz => XS.aloadN X56.here hx rfl (hb hby d_jdk_2500_method_1_16) rfl rfl kz) ?_
  refine Goes.step (T' := T56) (g' := (mkF m 18 #[.val (.ref a1), .val (.ref a2)] [(.ref a2), (.ref a1)])) (fun _ kz => XS.aloadN X56.here hx rfl (hb hby d_jdk_2500_method_1_17) rfl rfl kz) ?_
  obtain ⟨T57, h57, X57, e57, W57, st57⟩ := putF X56 hx hZ hown (host := "") (Or.inl (hw _ (List.mem_of_getElem? (i := 82) rfl))) Via.refl e56 F_a1_m E_a1 (Or.inr ⟨(hw _ (List.mem_of_getElem? (i := 83) rfl)), rfl, hnm⟩) (hw _ (List.mem_of_getElem? (i := 76) rfl)) (ty := (.object "java/util/Map")) (by decide) rfl rfl (g := (mkF m 18 #[.val (.ref a1), .val (.ref a2)] [(.ref a2), (.ref a1)])) rfl rfl (hb hby d_jdk_2500_method_1_18)
  replace N0 := Fr.snoc X57 N0 g_a1
  replace E_a1 := E_a1.wr W57
  replace F_a1_m := F_a1_m.same W57
  replace O0 := O0.wr W57 g_a1
  replace K0 := K0.wr W57 (Or.inl (List.mem_of_getElem? (i := 0) rfl))
  refine Goes.step (T' := T57) (g' := (mkF m 21 #[.val (.ref a1), .val (.ref a2)] [])) st57 ?_
  obtain ⟨fs, hr, hrun, hended, hW, hsame⟩ := X57.leave (v := none) (fun _ => rfl)
  exact ⟨_, _, X57.returnOut hx Bd.returns (hb hby d_jdk_2500_method_1_21) hr, hrun, hended, _, _, rfl, (by show Q_umInit Z a1 a2 h0 n0 _ T57.heap _; rw [e57]; exact ⟨rfl, N0, K0, E_a1⟩), ⟨_, rfl⟩, hW, hsame.mono (by decide) (by decide)⟩
theorem d_jdk_79_method_36_0 : decode jdk_79_method_36_code 0 = .ok (.aload_n 0, 1) := by decide +kernel
theorem d_jdk_79_method_36_1 : decode jdk_79_method_36_code 1 = .ok (.invokeinterface 220 1, 5) := by decide +kernel
theorem d_jdk_79_method_36_6 : decode jdk_79_method_36_code 6 = .ok (.ldc 223, 2) := by decide +kernel
theorem d_jdk_79_method_36_8 : decode jdk_79_method_36_code 8 = .ok (.if_acmp .ne 5, 3) := by decide +kernel
theorem d_jdk_79_method_36_11 : decode jdk_79_method_36_code 11 = .ok (.aload_n 0, 1) := by decide +kernel
theorem d_jdk_79_method_36_12 : decode jdk_79_method_36_code 12 = .ok (.areturn, 1) := by decide +kernel
theorem d_jdk_79_method_36_13 : decode jdk_79_method_36_code 13 = .ok (.new 223, 3) := by decide +kernel
theorem d_jdk_79_method_36_16 : decode jdk_79_method_36_code 16 = .ok (.dup, 1) := by decide +kernel
theorem d_jdk_79_method_36_17 : decode jdk_79_method_36_code 17 = .ok (.aload_n 0, 1) := by decide +kernel
theorem d_jdk_79_method_36_18 : decode jdk_79_method_36_code 18 = .ok (.invokespecial 225, 3) := by decide +kernel
theorem pd_16 : parseMethodDescriptor "(Ljava/util/Map;)V" = some ⟨[(.object "java/util/Map")], none⟩ := by decide +kernel
theorem d_jdk_79_method_36_21 : decode jdk_79_method_36_code 21 = .ok (.areturn, 1) := by decide +kernel
theorem pn_8 : plainName "java/util/Collections" = true := by first | (simp [plainName, overriddenIn]; done) | decide +kernel
theorem ef_unmod (m : MethodId) (a1 : Addr) : entryFrame m #[(.ref a1)] 1 = mkF m 0 #[.val (.ref a1)] [] := by first | (simp [entryFrame, mkF, argsToLocals, Value.category, maxLocals]; done) | rfl
def Q_unmod (Z : State) (a1 : Addr) (h0 : Heap) (n0 : Nat) (v : Option Value) (h : Heap) (L : List Loc) : Prop := ∃ b : Addr, (v = some (.ref b)) ∧ (Fr n0 L) ∧ (Keep h0 h [])
set_option maxRecDepth 65536 in
set_option maxHeartbeats 40000000 in
theorem rm_unmod (l : Launch) (Z : State) (a0 : Array Value) (hw : ∀ d ∈ tables_1, d.before a0 Z = true) (ws : List Jvm.Cond) (a1 : Addr) (h0 : Heap) (n0 : Nat) (O0 : Old Z n0 h0)  (E_a1 : Exa Z h0 a1 "java/util/HashMap") (hmH : MM Z "java/util/HashMap") (hmU : MM Z "java/util/Collections$UnmodifiableMap") :
    MetFree l (⟨"java/util/Collections", "unmodifiableMap", "(Ljava/util/Map;)Ljava/util/Map;"⟩ : MethodName) (head1 ((Jvm.Cond.code (⟨"java/util/Collections", "unmodifiableMap", "(Ljava/util/Map;)Ljava/util/Map;"⟩ : MethodName) jdk_79_method_36_code 1 (some (.object "java/util/Map"))) :: ws) ({ frames := 2, cells := 1, slots := 4, locals := 26 } : Room)) (fun a U => a = #[(.ref a1)] ∧ Z.Warmed39 U.vm ∧ U.heap = h0) (fun _ _ _ _ _ => True) (fun _ U o U' => ∃ v L, o = .returned v ∧ Q_unmod Z a1 h0 n0 v U'.heap L ∧ FrameEnd U o U' L ({ frames := 2, cells := 1, slots := 4, locals := 26 } : Room).cells ({ frames := 2, cells := 1, slots := 4, locals := 26 } : Room).slots) := by
  refine MetFree.of_bodySF (plainFor_of_name pn_8) hisR ?_
  intro p e s m args below meth c s₁ Bd hml0 hP hK
  obtain ⟨rfl, hZ, hh⟩ := hP
  have hx := Bd.exec
  have hby := Bd.bytes
  have hml : c.maxLocals = 1 := hml0
  have hown : s.vm.findClass "java/util/Collections" = some m.cls := (findClass_of_methodNamed Bd.named :)
  have hnm := (name_of_methodNamed Bd.named Bd.method).1
  have X0 : Stand p l e ({ frames := 2, cells := 1, slots := 4, locals := 26 } : Room) s m #[(.ref a1)] below meth c s₁ [] 0 0 := Stand.of_body Bd
  have e0 : s₁.heap = h0 := by rw [← hh, Bd.state]; rfl
  have N0 := Fr.nil n0
  have K0 : Keep h0 h0 [] := Keep.refl _ _
  suffices hG : Goes p e below (fun o U' => ∃ v L, o = .returned v ∧ Q_unmod Z a1 h0 n0 v U'.heap L ∧ FrameEnd s o U' L ({ frames := 2, cells := 1, slots := 4, locals := 26 } : Room).cells ({ frames := 2, cells := 1, slots := 4, locals := 26 } : Room).slots) s₁ (mkF m 0 #[.val (.ref a1)] []) by
    obtain ⟨t, o, h1, h2⟩ := hG; exact ⟨t, o, castTop (ef_unmod m a1) h1, h2⟩
  refine Goes.step (T' := s₁) (g' := (mkF m 1 #[.val (.ref a1)] [(.ref a1)])) (fun _ kz => XS.aloadN X0.here hx rfl (hb hby d_jdk_79_method_36_0) rfl rfl kz) ?_
  obtain ⟨cB, kB, qa, qb, qc⟩ := isOf hZ e0 E_a1
  obtain ⟨mH, hmir⟩ := own_mirC hZ.alike hmH qa qb
  obtain ⟨mU, hev⟩ := own_mirT hZ.alike hmU #[(.ref a1)]
  obtain ⟨vm58, X58, st58⟩ := X0.getClassOfI hx (own := "java/util/Collections") (C := "java/util/HashMap") (index := 220) (count := 1) (xi := (⟨"java/util/Map", "getClass", "()Ljava/lang/Class;"⟩ : MethodName)) hown (mvT hZ (hw _ (List.mem_of_getElem? (i := 64) rfl))) (mvT hZ (hw _ (List.mem_of_getElem? (i := 65) rfl))) (Jvm.Free.ULB.iface_ridesS hZ.alike (hw _ (List.mem_of_getElem? (i := 66) rfl))) (mvT hZ (hw _ (List.mem_of_getElem? (i := 67) rfl))) (mvT hZ (hw _ (List.mem_of_getElem? (i := 68) rfl))) (mvT hZ (hw _ (List.mem_of_getElem? (i := 69) rfl))) (mvT hZ (hw _ (List.mem_of_getElem? (i := 70) rfl))) (mvT hZ (hw _ (List.mem_of_getElem? (i := 71) rfl))) (mvT hZ (hw _ (List.mem_of_getElem? (i := 72) rfl))) (by decide) (by decide) rfl rfl qa qb qc hmir (g := (mkF m 1 #[.val (.ref a1)] [(.ref a1)])) rfl (by rw [hml]; rfl) (rest := []) rfl (hb hby d_jdk_79_method_36_1) (by decide) (by show 2 * 0 + 0 + (nativeFrameWords "java/lang/Object" "getClass" 1 + 11) ≤ _; decide)
  have e58 : (s₁.setVm vm58).heap = h0 := e0
  generalize s₁.setVm vm58 = T58 at X58 st58 e58
  refine Goes.step (T' := T58) (g' := (mkF m 6 #[.val (.ref a1)] [(.ref mH)])) st58 ?_
  obtain ⟨vm59, X59, st59⟩ := X58.ldcMirror hx (own := "java/util/Collections") (C := "java/util/Collections$UnmodifiableMap") (index := 223) (a := mU) hown (mvT hZ (hw _ (List.mem_of_getElem? (i := 74) rfl))) hev (g := (mkF m 6 #[.val (.ref a1)] [(.ref mH)])) rfl (hb hby d_jdk_79_method_36_6)
  have e59 : (T58.setVm vm59).heap = h0 := e58
  generalize T58.setVm vm59 = T59 at X59 st59 e59
  refine Goes.step (T' := T59) (g' := (mkF m 8 #[.val (.ref a1)] [(.ref mU), (.ref mH)])) st59 ?_
  by_cases ham : mH = mU
  ·
    refine Goes.step (T' := T59) (g' := (mkF m 11 #[.val (.ref a1)] [])) (fun _ kz => Jvm.RoadKit.acmp (g := (mkF m 8 #[.val (.ref a1)] [(.ref mU), (.ref mH)])) X59 hx rfl rfl rfl (pc0 := 8) (pc' := 11) (same := true) rfl (hb hby d_jdk_79_method_36_8) rfl (decide_eq_true (congrArg Value.ref ham)) (by decide) (by decide) kz) ?_
    refine Goes.step (T' := T59) (g' := (mkF m 12 #[.val (.ref a1)] [(.ref a1)])) (fun _ kz => XS.aloadN X59.here hx rfl (hb hby d_jdk_79_method_36_11) rfl rfl kz) ?_
    obtain ⟨fs, hr, hrun, hended, hW, hsame⟩ := X59.leave (v := some (.ref a1)) (fun h => by rw [Bd.returns] at h; cases h)
    exact ⟨_, _, retOut X59 hx Bd.returns rfl (Or.inr (Or.inr (Or.inr (Or.inr ⟨rfl, rfl, rfl⟩)))) (hb hby d_jdk_79_method_36_12) hr, hrun, hended, _, _, rfl, (by show Q_unmod Z a1 h0 n0 _ T59.heap _; rw [e59]; exact ⟨a1, rfl, N0, K0⟩), ⟨_, rfl⟩, hW, hsame.mono (by decide) (by decide)⟩
  ·
    refine Goes.step (T' := T59) (g' := (mkF m 13 #[.val (.ref a1)] [])) (fun _ kz => Jvm.RoadKit.acmp (g := (mkF m 8 #[.val (.ref a1)] [(.ref mU), (.ref mH)])) X59 hx rfl rfl rfl (pc0 := 8) (pc' := 13) (same := false) rfl (hb hby d_jdk_79_method_36_8) rfl (decide_eq_false fun q => ham (Value.ref.inj q)) (by decide) (by decide) kz) ?_
    obtain ⟨T60, h60, X60, e60, Ex60, A60, D60, -, st60⟩ := newO X59 hx hZ hown (hw _ (List.mem_of_getElem? (i := 74) rfl)) (hw _ (List.mem_of_getElem? (i := 76) rfl)) (hw _ (List.mem_of_getElem? (i := 77) rfl)) e59 (g := (mkF m 13 #[.val (.ref a1)] [])) rfl (hb hby d_jdk_79_method_36_13) (by decide) (by decide)
    obtain ⟨b60, gg60⟩ : ∃ z, z = h0.size := ⟨_, rfl⟩
    rw [← gg60] at A60 D60 st60
    have g_b60 : n0 ≤ b60 := Nat.le_trans (own_n0 O0) (Nat.le_of_eq gg60.symm)
    have sz_b60 : h0.size ≤ b60 := Nat.le_trans K0.1 (Nat.le_of_eq gg60.symm)
    have ne_a1_b60 : a1 ≠ b60 := Nat.ne_of_lt (Nat.lt_of_lt_of_le E_a1.lt (Nat.le_of_eq gg60.symm))
    replace E_a1 := E_a1.ext Ex60
    replace O0 := O0.ext Ex60
    replace K0 := K0.ext Ex60
    have E_b60 := A60
    have F_b60_m : Fld Z h60 b60 "java/util/Collections$UnmodifiableMap" "m" "Ljava/util/Map;" .null := D60 (Or.inr (hw _ (List.mem_of_getElem? (i := 83) rfl))) (ty := (.object "java/util/Map")) (by decide)
    refine Goes.step (T' := T60) (g' := (mkF m 16 #[.val (.ref a1)] [(.ref b60)])) st60 ?_
    clear D60 A60
    refine Goes.step (T' := T60) (g' := (mkF m 17 #[.val (.ref a1)] [(.ref b60), (.ref b60)])) (fun _ kz => XS.dup X60.here hx rfl (hb hby d_jdk_79_method_36_16) rfl rfl kz) ?_
    refine Goes.step (T' := T60) (g' := (mkF m 18 #[.val (.ref a1)] [(.ref a1), (.ref b60), (.ref b60)])) (fun _ kz => XS.aloadN X60.here hx rfl (hb hby d_jdk_79_method_36_17) rfl rfl kz) ?_
    obtain ⟨_, _, ⟨T61, L61, k61, n61⟩, -, X61, ⟨Lc61, hQ61, l61, y61, z61⟩, st61⟩ := X60.specialBack hx (y := (⟨"java/util/Collections$UnmodifiableMap", "<init>", "(Ljava/util/Map;)V"⟩ : MethodName)) rfl hown (mvT hZ (hw _ (List.mem_of_getElem? (i := 78) rfl))) (mvT hZ (hw _ (List.mem_of_getElem? (i := 79) rfl))) (mvT hZ (hw _ (List.mem_of_getElem? (i := 80) rfl))) (by decide) (backOf (W := 1) (rm_umInit l Z a0 hw [] b60 a1 h60 n0 O0  E_b60 F_b60_m g_b60) hZ (hw _ (List.mem_of_getElem? (i := 80) rfl)) (hw _ (List.mem_of_getElem? (i := 77) rfl)) (by decide) (by decide)) (g := (mkF m 18 #[.val (.ref a1)] [(.ref a1), (.ref b60), (.ref b60)])) rfl (by rw [hml]; rfl) (Steps.refl _) (a := b60) (argsL := [(.ref a1)]) (rest := [(.ref b60)]) (lenOf pd_16 rfl) rfl (by show 2 * 0 + _ ≤ _; exact Nat.le_of_eq rfl) (hb hby d_jdk_79_method_36_18) (fun _ _ => ⟨rfl, e60, (by decide : 1 + 0 ≤ _), (by decide : 4 + 0 ≤ _)⟩)
    dsimp only [Pt.U, Pt.locs, Pt.cells, Pt.slots] at X61 l61 y61 z61 st61 hQ61
    subst l61 y61 z61
    obtain ⟨h61, e61⟩ : ∃ z, T61.heap = z := ⟨_, rfl⟩
    rw [e61] at hQ61
    obtain ⟨rfl, Nq61, Kq61, E_b60_q61⟩ := hQ61
    replace N0 := Fr.app N0 Nq61
    replace E_a1 := E_a1.keep Kq61
    clear E_b60
    clear F_b60_m
    replace O0 := O0.keep Kq61 (allS g_b60 all0)
    replace K0 := K0.trans Kq61 (allS (Or.inr sz_b60) all0)
    have E_b60 := E_b60_q61
    refine Goes.run (T' := T61) (g' := (mkF m 21 #[.val (.ref a1)] [(.ref b60)])) st61 ?_
    obtain ⟨fs, hr, hrun, hended, hW, hsame⟩ := X61.leave (v := some (.ref b60)) (fun h => by rw [Bd.returns] at h; cases h)
    exact ⟨_, _, retOut X61 hx Bd.returns rfl (Or.inr (Or.inr (Or.inr (Or.inr ⟨rfl, rfl, rfl⟩)))) (hb hby d_jdk_79_method_36_21) hr, hrun, hended, _, _, rfl, (by show Q_unmod Z a1 h0 n0 _ T61.heap _; rw [e61]; exact ⟨b60, rfl, N0, K0⟩), ⟨_, rfl⟩, hW, hsame.mono (by decide) (by decide)⟩
theorem d_prog_19_method_1_0 : decode prog_19_method_1_code 0 = .ok (.aload_n 0, 1) := by decide +kernel
theorem d_prog_19_method_1_1 : decode prog_19_method_1_code 1 = .ok (.invokespecial 1, 3) := by decide +kernel
theorem d_prog_19_method_1_4 : decode prog_19_method_1_code 4 = .ok (.aload_n 0, 1) := by decide +kernel
theorem d_prog_19_method_1_5 : decode prog_19_method_1_code 5 = .ok (.aload_n 1, 1) := by decide +kernel
theorem d_prog_19_method_1_6 : decode prog_19_method_1_code 6 = .ok (.putfield 7, 3) := by decide +kernel
theorem d_prog_19_method_1_9 : decode prog_19_method_1_code 9 = .ok (.aload_n 0, 1) := by decide +kernel
theorem d_prog_19_method_1_10 : decode prog_19_method_1_code 10 = .ok (.aload_n 2, 1) := by decide +kernel
theorem d_prog_19_method_1_11 : decode prog_19_method_1_code 11 = .ok (.invokestatic 13, 3) := by decide +kernel
theorem pd_17 : parseMethodDescriptor "(Ljava/util/Map;)Ljava/util/Map;" = some ⟨[(.object "java/util/Map")], some (.object "java/util/Map")⟩ := by decide +kernel
theorem d_prog_19_method_1_14 : decode prog_19_method_1_code 14 = .ok (.putfield 19, 3) := by decide +kernel
theorem d_prog_19_method_1_17 : decode prog_19_method_1_code 17 = .ok (.return_, 1) := by decide +kernel
theorem ef_naInit (m : MethodId) (a1 : Addr) (a2 : Addr) (a3 : Addr) : entryFrame m #[(.ref a1), (.ref a2), (.ref a3)] 3 = mkF m 0 #[.val (.ref a1), .val (.ref a2), .val (.ref a3)] [] := by first | (simp [entryFrame, mkF, argsToLocals, Value.category, maxLocals]; done) | rfl
def Q_naInit (Z : State) (a1 : Addr) (a2 : Addr) (a3 : Addr) (h0 : Heap) (n0 : Nat) (v : Option Value) (h : Heap) (L : List Loc) : Prop := (v = none) ∧ (Fr n0 L) ∧ (Keep h0 h [a1]) ∧ (Exa Z h a1 NAC) ∧ (Fld Z h a1 NAC "type" "Ljava/lang/String;" (.ref a2))
set_option maxRecDepth 65536 in
set_option maxHeartbeats 40000000 in
theorem rm_naInit (l : Launch) (Z : State) (a0 : Array Value) (hw : ∀ d ∈ tables_1, d.before a0 Z = true) (ws : List Jvm.Cond) (a1 : Addr) (a2 : Addr) (a3 : Addr) (h0 : Heap) (n0 : Nat) (O0 : Old Z n0 h0)  (E_a1 : Exa Z h0 a1 NAC) (F_a1_type : Fld Z h0 a1 NAC "type" "Ljava/lang/String;" .null) (F_a1_values : Fld Z h0 a1 NAC "values" "Ljava/util/Map;" .null) (E_a3 : Exa Z h0 a3 "java/util/HashMap") (g_a1 : n0 ≤ a1) (hmH : MM Z "java/util/HashMap") (hmU : MM Z "java/util/Collections$UnmodifiableMap") :
    MetFree l (⟨NAC, "<init>", "(Ljava/lang/String;Ljava/util/Map;)V"⟩ : MethodName) (head1 ((Jvm.Cond.code (⟨NAC, "<init>", "(Ljava/lang/String;Ljava/util/Map;)V"⟩ : MethodName) prog_19_method_1_code 3 none) :: ws) ({ frames := 3, cells := 1, slots := 4, locals := 39 } : Room)) (fun a U => a = #[(.ref a1), (.ref a2), (.ref a3)] ∧ Z.Warmed39 U.vm ∧ U.heap = h0) (fun _ _ _ _ _ => True) (fun _ U o U' => ∃ v L, o = .returned v ∧ Q_naInit Z a1 a2 a3 h0 n0 v U'.heap L ∧ FrameEnd U o U' L ({ frames := 3, cells := 1, slots := 4, locals := 39 } : Room).cells ({ frames := 3, cells := 1, slots := 4, locals := 39 } : Room).slots) := by
  refine MetFree.of_bodySF (plainFor_of_name pn_4) hisR ?_
  intro p e s m args below meth c s₁ Bd hml0 hP hK
  obtain ⟨rfl, hZ, hh⟩ := hP
  have hx := Bd.exec
  have hby := Bd.bytes
  have hml : c.maxLocals = 3 := hml0
  have hown : s.vm.findClass NAC = some m.cls := (findClass_of_methodNamed Bd.named :)
  have hnm := (name_of_methodNamed Bd.named Bd.method).1
  have X0 : Stand p l e ({ frames := 3, cells := 1, slots := 4, locals := 39 } : Room) s m #[(.ref a1), (.ref a2), (.ref a3)] below meth c s₁ [] 0 0 := Stand.of_body Bd
  have e0 : s₁.heap = h0 := by rw [← hh, Bd.state]; rfl
  have N0 := Fr.nil n0
  have K0 : Keep h0 h0 [a1] := Keep.refl _ _
  suffices hG : Goes p e below (fun o U' => ∃ v L, o = .returned v ∧ Q_naInit Z a1 a2 a3 h0 n0 v U'.heap L ∧ FrameEnd s o U' L ({ frames := 3, cells := 1, slots := 4, locals := 39 } : Room).cells ({ frames := 3, cells := 1, slots := 4, locals := 39 } : Room).slots) s₁ (mkF m 0 #[.val (.ref a1), .val (.ref a2), .val (.ref a3)] []) by
    obtain ⟨t, o, h1, h2⟩ := hG; exact ⟨t, o, castTop (ef_naInit m a1 a2 a3) h1, h2⟩
  refine Goes.step (T' := s₁) (g' := (mkF m 1 #[.val (.ref a1), .val (.ref a2), .val (.ref a3)] [(.ref a1)])) (fun _ kz => XS.aloadN X0.here hx rfl (hb hby d_prog_19_method_1_0) rfl rfl kz) ?_
  obtain ⟨T62, X62, e62, st62⟩ := initO X0 hx hZ hown (hw _ (List.mem_of_getElem? (i := 57) rfl)) (hw _ (List.mem_of_getElem? (i := 20) rfl)) (hw _ (List.mem_of_getElem? (i := 21) rfl)) e0 (g := (mkF m 1 #[.val (.ref a1), .val (.ref a2), .val (.ref a3)] [(.ref a1)])) rfl (by rw [hml]; rfl) rfl (hb hby d_prog_19_method_1_1) (by decide) (W := 0) (by show 2 * 0 + _ ≤ _; exact Nat.le_of_eq rfl) (by decide)
  refine Goes.step (T' := T62) (g' := (mkF m 4 #[.val (.ref a1), .val (.ref a2), .val (.ref a3)] [])) st62 ?_
  refine Goes.step (T' := T62) (g' := (mkF m 5 #[.val (.ref a1), .val (.ref a2), .val (.ref a3)] [(.ref a1)])) (fun _ kz => XS.aloadN X62.here hx rfl (hb hby d_prog_19_method_1_4) rfl rfl kz) ?_
  refine Goes.step (T' := T62) (g' := (mkF m 6 #[.val (.ref a1), .val (.ref a2), .val (.ref a3)] [(.ref a2), (.ref a1)])) (fun _ kz => XS.aloadN X62.here hx rfl (hb hby d_prog_19_method_1_5) rfl rfl kz) ?_
  obtain ⟨T63, h63, X63, e63, W63, st63⟩ := putF X62 hx hZ hown (host := "") (Or.inl (hw _ (List.mem_of_getElem? (i := 58) rfl))) Via.refl e62 F_a1_type E_a1 (Or.inr ⟨(hw _ (List.mem_of_getElem? (i := 59) rfl)), rfl, hnm⟩) (hw _ (List.mem_of_getElem? (i := 7) rfl)) (ty := (.object "java/lang/String")) (by decide) rfl rfl (g := (mkF m 6 #[.val (.ref a1), .val (.ref a2), .val (.ref a3)] [(.ref a2), (.ref a1)])) rfl rfl (hb hby d_prog_19_method_1_6)
  replace N0 := Fr.snoc X63 N0 g_a1
  replace E_a1 := E_a1.wr W63
  replace F_a1_type := F_a1_type.same W63
  replace F_a1_values := F_a1_values.other W63 (Or.inr (slot_ne (Or.inr (hw _ (List.mem_of_getElem? (i := 85) rfl))) (Or.inr (hw _ (List.mem_of_getElem? (i := 59) rfl))) (by decide) (t := (.object "java/util/Map")) (t' := (.object "java/lang/String")) (by decide) (by decide)))
  replace E_a3 := E_a3.wr W63
  replace O0 := O0.wr W63 g_a1
  replace K0 := K0.wr W63 (Or.inl (List.mem_of_getElem? (i := 0) rfl))
  refine Goes.step (T' := T63) (g' := (mkF m 9 #[.val (.ref a1), .val (.ref a2), .val (.ref a3)] [])) st63 ?_
  refine Goes.step (T' := T63) (g' := (mkF m 10 #[.val (.ref a1), .val (.ref a2), .val (.ref a3)] [(.ref a1)])) (fun _ kz => XS.aloadN X63.here hx rfl (hb hby d_prog_19_method_1_9) rfl rfl kz) ?_
  refine Goes.step (T' := T63) (g' := (mkF m 11 #[.val (.ref a1), .val (.ref a2), .val (.ref a3)] [(.ref a3), (.ref a1)])) (fun _ kz => XS.aloadN X63.here hx rfl (hb hby d_prog_19_method_1_10) rfl rfl kz) ?_
  obtain ⟨_, _, ⟨T64, L64, k64, n64⟩, -, X64, ⟨Lc64, hQ64, l64, y64, z64⟩, st64⟩ := Jvm.LawKit.callS X63 hx (y := (⟨"java/util/Collections", "unmodifiableMap", "(Ljava/util/Map;)Ljava/util/Map;"⟩ : MethodName)) hown (mvT hZ (hw _ (List.mem_of_getElem? (i := 60) rfl))) (mvT hZ (hw _ (List.mem_of_getElem? (i := 61) rfl))) (mvT hZ (hw _ (List.mem_of_getElem? (i := 62) rfl))) (mvT hZ (hw _ (List.mem_of_getElem? (i := 63) rfl))) (by decide) (backOf (W := 1) (rm_unmod l Z a0 hw [] a3 h63 n0 O0  E_a3 (by first | assumption | decide) (by first | assumption | decide)) hZ (hw _ (List.mem_of_getElem? (i := 63) rfl)) (hw _ (List.mem_of_getElem? (i := 62) rfl)) (by decide) (by decide)) (g := (mkF m 11 #[.val (.ref a1), .val (.ref a2), .val (.ref a3)] [(.ref a3), (.ref a1)])) rfl (by rw [hml]; rfl) (argsL := [(.ref a3)]) (rest := [(.ref a1)]) (lenOf pd_17 rfl) rfl (by show 2 * 0 + _ ≤ _; exact Nat.le_of_eq rfl) (hb hby d_prog_19_method_1_11) (fun _ _ => ⟨rfl, e63, (by decide : 0 + 1 ≤ _), (by decide : 0 + 4 ≤ _)⟩)
  dsimp only [Pt.U, Pt.locs, Pt.cells, Pt.slots] at X64 l64 y64 z64 st64 hQ64
  subst l64 y64 z64
  obtain ⟨h64, e64⟩ : ∃ z, T64.heap = z := ⟨_, rfl⟩
  rw [e64] at hQ64
  obtain ⟨b_64, rfl, Nq64, Kq64⟩ := hQ64
  replace N0 := Fr.app N0 Nq64
  replace E_a1 := E_a1.keep Kq64
  replace F_a1_type := F_a1_type.keep Kq64 nin0
  replace F_a1_values := F_a1_values.keep Kq64 nin0
  replace E_a3 := E_a3.keep Kq64
  replace O0 := O0.keep Kq64 all0
  replace K0 := K0.trans Kq64 all0
  refine Goes.step (T' := T64) (g' := (mkF m 14 #[.val (.ref a1), .val (.ref a2), .val (.ref a3)] [(.ref b_64), (.ref a1)])) st64 ?_
  obtain ⟨T65, h65, X65, e65, W65, st65⟩ := putF X64 hx hZ hown (host := "") (Or.inl (hw _ (List.mem_of_getElem? (i := 84) rfl))) Via.refl e64 F_a1_values E_a1 (Or.inr ⟨(hw _ (List.mem_of_getElem? (i := 85) rfl)), rfl, hnm⟩) (hw _ (List.mem_of_getElem? (i := 7) rfl)) (ty := (.object "java/util/Map")) (by decide) rfl rfl (g := (mkF m 14 #[.val (.ref a1), .val (.ref a2), .val (.ref a3)] [(.ref b_64), (.ref a1)])) rfl rfl (hb hby d_prog_19_method_1_14)
  replace N0 := Fr.snoc X65 N0 g_a1
  replace E_a1 := E_a1.wr W65
  replace F_a1_type := F_a1_type.other W65 (Or.inr (slot_ne (Or.inr (hw _ (List.mem_of_getElem? (i := 59) rfl))) (Or.inr (hw _ (List.mem_of_getElem? (i := 85) rfl))) (by decide) (t := (.object "java/lang/String")) (t' := (.object "java/util/Map")) (by decide) (by decide)))
  replace F_a1_values := F_a1_values.same W65
  replace E_a3 := E_a3.wr W65
  replace O0 := O0.wr W65 g_a1
  replace K0 := K0.wr W65 (Or.inl (List.mem_of_getElem? (i := 0) rfl))
  refine Goes.step (T' := T65) (g' := (mkF m 17 #[.val (.ref a1), .val (.ref a2), .val (.ref a3)] [])) st65 ?_
  obtain ⟨fs, hr, hrun, hended, hW, hsame⟩ := X65.leave (v := none) (fun _ => rfl)
  exact ⟨_, _, X65.returnOut hx Bd.returns (hb hby d_prog_19_method_1_17) hr, hrun, hended, _, _, rfl, (by show Q_naInit Z a1 a2 a3 h0 n0 _ T65.heap _; rw [e65]; exact ⟨rfl, N0, K0, E_a1, F_a1_type⟩), ⟨_, rfl⟩, hW, hsame.mono (by decide) (by decide)⟩
theorem d_method_3_0 : decode method_3_code 0 = .ok (.iload_n 0, 1) := by decide +kernel
theorem d_method_3_1 : decode method_3_code 1 = .ok (.iconst 3, 1) := by decide +kernel
theorem d_method_3_2 : decode method_3_code 2 = .ok (.iand, 1) := by decide +kernel
theorem d_method_3_3 : decode method_3_code 3 = .ok (.istore_n 1, 1) := by decide +kernel
theorem d_method_3_4 : decode method_3_code 4 = .ok (.iload_n 1, 1) := by decide +kernel
theorem d_method_3_5 : decode method_3_code 5 = .ok (.ifCond .ne 6, 3) := by decide +kernel
theorem d_method_3_8 : decode method_3_code 8 = .ok (.bipush 46, 2) := by decide +kernel
theorem d_method_3_10 : decode method_3_code 10 = .ok (.ireturn, 1) := by decide +kernel
theorem d_method_3_11 : decode method_3_code 11 = .ok (.iload_n 1, 1) := by decide +kernel
theorem d_method_3_12 : decode method_3_code 12 = .ok (.iconst 1, 1) := by decide +kernel
theorem d_method_3_13 : decode method_3_code 13 = .ok (.if_icmp .ne 6, 3) := by decide +kernel
theorem d_method_3_16 : decode method_3_code 16 = .ok (.bipush 36, 2) := by decide +kernel
theorem d_method_3_18 : decode method_3_code 18 = .ok (.ireturn, 1) := by decide +kernel
theorem d_method_3_19 : decode method_3_code 19 = .ok (.iload_n 0, 1) := by decide +kernel
theorem d_method_3_20 : decode method_3_code 20 = .ok (.iconst 2, 1) := by decide +kernel
theorem d_method_3_21 : decode method_3_code 21 = .ok (.iushr, 1) := by decide +kernel
theorem d_method_3_22 : decode method_3_code 22 = .ok (.sipush 255, 3) := by decide +kernel
theorem d_method_3_25 : decode method_3_code 25 = .ok (.iand, 1) := by decide +kernel
theorem d_method_3_26 : decode method_3_code 26 = .ok (.i2c, 1) := by decide +kernel
theorem d_method_3_27 : decode method_3_code 27 = .ok (.ireturn, 1) := by decide +kernel
theorem pn_9 : plainName "com/example/demarcation/demarcation/component/NamedAnnotationSimpleNamePinLaw" = true := by first | (simp [plainName, overriddenIn]; done) | decide +kernel
theorem ef_ch (m : MethodId) (p1 : Int32) : entryFrame m #[(.int p1)] 2 = mkF m 0 #[.val (.int p1), .unset] [] := by first | (simp [entryFrame, mkF, argsToLocals, Value.category, maxLocals]; done) | rfl
def Q_ch (Z : State) (p1 : Int32) (h0 : Heap) (n0 : Nat) (v : Option Value) (h : Heap) (L : List Loc) : Prop := ∃ z : Int32, (v = some (.int z)) ∧ (L = []) ∧ (h = h0) ∧ (¬ z < 0 ∧ ¬ (255 : Int32) < z) ∧ (nar .char z = z)
set_option maxRecDepth 65536 in
set_option maxHeartbeats 40000000 in
theorem rm_ch (l : Launch) (Z : State) (a0 : Array Value) (hw : ∀ d ∈ tables_1, d.before a0 Z = true) (ws : List Jvm.Cond) (p1 : Int32) (h0 : Heap) (n0 : Nat) (O0 : Old Z n0 h0)   :
    MetFree l (⟨"com/example/demarcation/demarcation/component/NamedAnnotationSimpleNamePinLaw", "ch", "(I)C"⟩ : MethodName) (head1 ((Jvm.Cond.code (⟨"com/example/demarcation/demarcation/component/NamedAnnotationSimpleNamePinLaw", "ch", "(I)C"⟩ : MethodName) method_3_code 2 (some .char)) :: ws) ({ frames := 0, cells := 0, slots := 0, locals := 0 } : Room)) (fun a U => a = #[(.int p1)] ∧ Z.Warmed39 U.vm ∧ U.heap = h0) (fun _ _ _ _ _ => True) (fun _ U o U' => ∃ v L, o = .returned v ∧ Q_ch Z p1 h0 n0 v U'.heap L ∧ FrameEnd U o U' L ({ frames := 0, cells := 0, slots := 0, locals := 0 } : Room).cells ({ frames := 0, cells := 0, slots := 0, locals := 0 } : Room).slots) := by
  refine MetFree.of_bodySF (plainFor_of_name pn_9) hisR ?_
  intro p e s m args below meth c s₁ Bd hml0 hP hK
  obtain ⟨rfl, hZ, hh⟩ := hP
  have hx := Bd.exec
  have hby := Bd.bytes
  have hml : c.maxLocals = 2 := hml0
  have hown : s.vm.findClass "com/example/demarcation/demarcation/component/NamedAnnotationSimpleNamePinLaw" = some m.cls := (findClass_of_methodNamed Bd.named :)
  have hnm := (name_of_methodNamed Bd.named Bd.method).1
  have X0 : Stand p l e ({ frames := 0, cells := 0, slots := 0, locals := 0 } : Room) s m #[(.int p1)] below meth c s₁ [] 0 0 := Stand.of_body Bd
  have e0 : s₁.heap = h0 := by rw [← hh, Bd.state]; rfl
  have N0 := Fr.nil n0
  have K0 : Keep h0 h0 [] := Keep.refl _ _
  suffices hG : Goes p e below (fun o U' => ∃ v L, o = .returned v ∧ Q_ch Z p1 h0 n0 v U'.heap L ∧ FrameEnd s o U' L ({ frames := 0, cells := 0, slots := 0, locals := 0 } : Room).cells ({ frames := 0, cells := 0, slots := 0, locals := 0 } : Room).slots) s₁ (mkF m 0 #[.val (.int p1), .unset] []) by
    obtain ⟨t, o, h1, h2⟩ := hG; exact ⟨t, o, castTop (ef_ch m p1) h1, h2⟩
  refine Goes.step (T' := s₁) (g' := (mkF m 1 #[.val (.int p1), .unset] [(.int p1)])) (fun _ kz => XS.iloadN X0.here hx rfl (hb hby d_method_3_0) rfl  kz) ?_
  refine Goes.step (T' := s₁) (g' := (mkF m 2 #[.val (.int p1), .unset] [(.int (3 : Int32)), (.int p1)])) (fun _ kz => XS.iconst X0.here hx rfl (hb hby d_method_3_1) kz) ?_
  refine Goes.step (T' := s₁) (g' := (mkF m 3 #[.val (.int p1), .unset] [(.int (p1 &&& (3 : Int32)))])) (fun _ kz => XS.iand X0.here hx rfl (hb hby d_method_3_2) rfl kz) ?_
  refine Goes.step (T' := s₁) (g' := (mkF m 4 #[.val (.int p1), .val (.int (p1 &&& (3 : Int32)))] [])) (fun _ kz => XS.istoreN X0.here hx rfl (hb hby d_method_3_3) rfl (l' := #[.val (.int p1), .val (.int (p1 &&& (3 : Int32)))]) rfl kz) ?_
  refine Goes.step (T' := s₁) (g' := (mkF m 5 #[.val (.int p1), .val (.int (p1 &&& (3 : Int32)))] [(.int (p1 &&& (3 : Int32)))])) (fun _ kz => XS.iloadN X0.here hx rfl (hb hby d_method_3_4) rfl  kz) ?_
  by_cases hc5_66 : (p1 &&& (3 : Int32)) = (0 : Int32)
  ·
    refine Goes.step (T' := s₁) (g' := (mkF m 8 #[.val (.int p1), .val (.int (p1 &&& (3 : Int32)))] [])) (fun _ kz => XS.ifNo X0.here hx rfl (hb hby d_method_3_5) rfl ((if0 _ _).trans (teq hc5_66).2) kz) ?_
    refine Goes.step (T' := s₁) (g' := (mkF m 10 #[.val (.int p1), .val (.int (p1 &&& (3 : Int32)))] [(.int (46 : Int32))])) (fun _ kz => XS.bipush X0.here hx rfl (hb hby d_method_3_8) kz) ?_
    obtain ⟨fs, hr, hrun, hended, hW, hsame⟩ := X0.leave (v := some (.int (nar .char (46 : Int32)))) (fun h => by rw [Bd.returns] at h; cases h)
    exact ⟨_, _, retN X0 hx (t := .char) Bd.returns (by simp) (hb hby d_method_3_10) hr, hrun, hended, _, _, rfl, (by show Q_ch Z p1 h0 n0 _ s₁.heap _; rw [e0]; exact ⟨(nar .char (46 : Int32)), rfl, rfl, rfl, by decide, by decide⟩), ⟨_, rfl⟩, hW, hsame.mono (by decide) (by decide)⟩
  ·
    refine Goes.step (T' := s₁) (g' := (mkF m 11 #[.val (.int p1), .val (.int (p1 &&& (3 : Int32)))] [])) (fun _ kz => XS.ifYes X0.here hx rfl (pc0 := 5) (pc' := 11) rfl (hb hby d_method_3_5) rfl ((if0 _ _).trans (feq hc5_66).2) (by decide) (by decide) kz) ?_
    refine Goes.step (T' := s₁) (g' := (mkF m 12 #[.val (.int p1), .val (.int (p1 &&& (3 : Int32)))] [(.int (p1 &&& (3 : Int32)))])) (fun _ kz => XS.iloadN X0.here hx rfl (hb hby d_method_3_11) rfl  kz) ?_
    refine Goes.step (T' := s₁) (g' := (mkF m 13 #[.val (.int p1), .val (.int (p1 &&& (3 : Int32)))] [(.int (1 : Int32)), (.int (p1 &&& (3 : Int32)))])) (fun _ kz => XS.iconst X0.here hx rfl (hb hby d_method_3_12) kz) ?_
    by_cases hc13_67 : (p1 &&& (3 : Int32)) = (1 : Int32)
    ·
      refine Goes.step (T' := s₁) (g' := (mkF m 16 #[.val (.int p1), .val (.int (p1 &&& (3 : Int32)))] [])) (fun _ kz => XS.icmpNo X0.here hx rfl (hb hby d_method_3_13) rfl (teq hc13_67).2 kz) ?_
      refine Goes.step (T' := s₁) (g' := (mkF m 18 #[.val (.int p1), .val (.int (p1 &&& (3 : Int32)))] [(.int (36 : Int32))])) (fun _ kz => XS.bipush X0.here hx rfl (hb hby d_method_3_16) kz) ?_
      obtain ⟨fs, hr, hrun, hended, hW, hsame⟩ := X0.leave (v := some (.int (nar .char (36 : Int32)))) (fun h => by rw [Bd.returns] at h; cases h)
      exact ⟨_, _, retN X0 hx (t := .char) Bd.returns (by simp) (hb hby d_method_3_18) hr, hrun, hended, _, _, rfl, (by show Q_ch Z p1 h0 n0 _ s₁.heap _; rw [e0]; exact ⟨(nar .char (36 : Int32)), rfl, rfl, rfl, by decide, by decide⟩), ⟨_, rfl⟩, hW, hsame.mono (by decide) (by decide)⟩
    ·
      refine Goes.step (T' := s₁) (g' := (mkF m 19 #[.val (.int p1), .val (.int (p1 &&& (3 : Int32)))] [])) (fun _ kz => XS.icmpYes X0.here hx rfl (pc0 := 13) (pc' := 19) rfl (hb hby d_method_3_13) rfl (feq hc13_67).2 (by decide) (by decide) kz) ?_
      refine Goes.step (T' := s₁) (g' := (mkF m 20 #[.val (.int p1), .val (.int (p1 &&& (3 : Int32)))] [(.int p1)])) (fun _ kz => XS.iloadN X0.here hx rfl (hb hby d_method_3_19) rfl  kz) ?_
      refine Goes.step (T' := s₁) (g' := (mkF m 21 #[.val (.int p1), .val (.int (p1 &&& (3 : Int32)))] [(.int (2 : Int32)), (.int p1)])) (fun _ kz => XS.iconst X0.here hx rfl (hb hby d_method_3_20) kz) ?_
      refine Goes.step (T' := s₁) (g' := (mkF m 22 #[.val (.int p1), .val (.int (p1 &&& (3 : Int32)))] [(.int ((p1.toUInt32 >>> ((2 : Int32) &&& 31).toUInt32).toInt32))])) (fun _ kz => XS.iushr X0.here hx rfl (hb hby d_method_3_21) rfl kz) ?_
      refine Goes.step (T' := s₁) (g' := (mkF m 25 #[.val (.int p1), .val (.int (p1 &&& (3 : Int32)))] [(.int (255 : Int32)), (.int ((p1.toUInt32 >>> ((2 : Int32) &&& 31).toUInt32).toInt32))])) (fun _ kz => XS.sipush X0.here hx rfl (hb hby d_method_3_22) kz) ?_
      refine Goes.step (T' := s₁) (g' := (mkF m 26 #[.val (.int p1), .val (.int (p1 &&& (3 : Int32)))] [(.int (((p1.toUInt32 >>> ((2 : Int32) &&& 31).toUInt32).toInt32) &&& (255 : Int32)))])) (fun _ kz => XS.iand X0.here hx rfl (hb hby d_method_3_25) rfl kz) ?_
      refine Goes.step (T' := s₁) (g' := (mkF m 27 #[.val (.int p1), .val (.int (p1 &&& (3 : Int32)))] [(.int ((((p1.toUInt32 >>> ((2 : Int32) &&& 31).toUInt32).toInt32) &&& (255 : Int32)).toUInt32.toUInt16.toUInt32.toInt32))])) (fun _ kz => XS.i2c X0.here hx rfl (hb hby d_method_3_26) rfl kz) ?_
      obtain ⟨fs, hr, hrun, hended, hW, hsame⟩ := X0.leave (v := some (.int (nar .char ((((p1.toUInt32 >>> ((2 : Int32) &&& 31).toUInt32).toInt32) &&& (255 : Int32)).toUInt32.toUInt16.toUInt32.toInt32)))) (fun h => by rw [Bd.returns] at h; cases h)
      exact ⟨_, _, retN X0 hx (t := .char) Bd.returns (by simp) (hb hby d_method_3_27) hr, hrun, hended, _, _, rfl, (by show Q_ch Z p1 h0 n0 _ s₁.heap _; rw [e0]; exact ⟨(nar .char ((((p1.toUInt32 >>> ((2 : Int32) &&& 31).toUInt32).toInt32) &&& (255 : Int32)).toUInt32.toUInt16.toUInt32.toInt32)), rfl, rfl, rfl, (own_ch3 _).1, (own_ch3 _).2⟩), ⟨_, rfl⟩, hW, hsame.mono (by decide) (by decide)⟩
theorem d_method_4_0 : decode method_4_code 0 = .ok (.iload_n 0, 1) := by decide +kernel
theorem d_method_4_1 : decode method_4_code 1 = .ok (.bipush 46, 2) := by decide +kernel
theorem d_method_4_3 : decode method_4_code 3 = .ok (.if_icmp .eq 9, 3) := by decide +kernel
theorem d_method_4_12 : decode method_4_code 12 = .ok (.iconst 1, 1) := by decide +kernel
theorem d_method_4_13 : decode method_4_code 13 = .ok (.goto 4, 3) := by decide +kernel
theorem d_method_4_17 : decode method_4_code 17 = .ok (.ireturn, 1) := by decide +kernel
theorem d_method_4_6 : decode method_4_code 6 = .ok (.iload_n 0, 1) := by decide +kernel
theorem d_method_4_7 : decode method_4_code 7 = .ok (.bipush 36, 2) := by decide +kernel
theorem d_method_4_9 : decode method_4_code 9 = .ok (.if_icmp .ne 7, 3) := by decide +kernel
theorem d_method_4_16 : decode method_4_code 16 = .ok (.iconst 0, 1) := by decide +kernel
theorem ef_sep (m : MethodId) (p1 : Int32) : entryFrame m #[(.int p1)] 1 = mkF m 0 #[.val (.int p1)] [] := by first | (simp [entryFrame, mkF, argsToLocals, Value.category, maxLocals]; done) | rfl
def Q_sep (Z : State) (p1 : Int32) (h0 : Heap) (n0 : Nat) (v : Option Value) (h : Heap) (L : List Loc) : Prop := (v = some (.int (if p1 = 46 ∨ p1 = 36 then 1 else 0))) ∧ (L = []) ∧ (h = h0)
set_option maxRecDepth 65536 in
set_option maxHeartbeats 40000000 in
theorem rm_sep (l : Launch) (Z : State) (a0 : Array Value) (hw : ∀ d ∈ tables_1, d.before a0 Z = true) (ws : List Jvm.Cond) (p1 : Int32) (h0 : Heap) (n0 : Nat) (O0 : Old Z n0 h0)   :
    MetFree l (⟨"com/example/demarcation/demarcation/component/NamedAnnotationSimpleNamePinLaw", "sep", "(C)Z"⟩ : MethodName) (head1 ((Jvm.Cond.code (⟨"com/example/demarcation/demarcation/component/NamedAnnotationSimpleNamePinLaw", "sep", "(C)Z"⟩ : MethodName) method_4_code 1 (some .boolean)) :: ws) ({ frames := 0, cells := 0, slots := 0, locals := 0 } : Room)) (fun a U => a = #[(.int p1)] ∧ Z.Warmed39 U.vm ∧ U.heap = h0) (fun _ _ _ _ _ => True) (fun _ U o U' => ∃ v L, o = .returned v ∧ Q_sep Z p1 h0 n0 v U'.heap L ∧ FrameEnd U o U' L ({ frames := 0, cells := 0, slots := 0, locals := 0 } : Room).cells ({ frames := 0, cells := 0, slots := 0, locals := 0 } : Room).slots) := by
  refine MetFree.of_bodySF (plainFor_of_name pn_9) hisR ?_
  intro p e s m args below meth c s₁ Bd hml0 hP hK
  obtain ⟨rfl, hZ, hh⟩ := hP
  have hx := Bd.exec
  have hby := Bd.bytes
  have hml : c.maxLocals = 1 := hml0
  have hown : s.vm.findClass "com/example/demarcation/demarcation/component/NamedAnnotationSimpleNamePinLaw" = some m.cls := (findClass_of_methodNamed Bd.named :)
  have hnm := (name_of_methodNamed Bd.named Bd.method).1
  have X0 : Stand p l e ({ frames := 0, cells := 0, slots := 0, locals := 0 } : Room) s m #[(.int p1)] below meth c s₁ [] 0 0 := Stand.of_body Bd
  have e0 : s₁.heap = h0 := by rw [← hh, Bd.state]; rfl
  have N0 := Fr.nil n0
  have K0 : Keep h0 h0 [] := Keep.refl _ _
  suffices hG : Goes p e below (fun o U' => ∃ v L, o = .returned v ∧ Q_sep Z p1 h0 n0 v U'.heap L ∧ FrameEnd s o U' L ({ frames := 0, cells := 0, slots := 0, locals := 0 } : Room).cells ({ frames := 0, cells := 0, slots := 0, locals := 0 } : Room).slots) s₁ (mkF m 0 #[.val (.int p1)] []) by
    obtain ⟨t, o, h1, h2⟩ := hG; exact ⟨t, o, castTop (ef_sep m p1) h1, h2⟩
  refine Goes.step (T' := s₁) (g' := (mkF m 1 #[.val (.int p1)] [(.int p1)])) (fun _ kz => XS.iloadN X0.here hx rfl (hb hby d_method_4_0) rfl  kz) ?_
  refine Goes.step (T' := s₁) (g' := (mkF m 3 #[.val (.int p1)] [(.int (46 : Int32)), (.int p1)])) (fun _ kz => XS.bipush X0.here hx rfl (hb hby d_method_4_1) kz) ?_
  by_cases hc3_68 : p1 = (46 : Int32)
  ·
    refine Goes.step (T' := s₁) (g' := (mkF m 12 #[.val (.int p1)] [])) (fun _ kz => XS.icmpYes X0.here hx rfl (pc0 := 3) (pc' := 12) rfl (hb hby d_method_4_3) rfl (teq hc3_68).1 (by decide) (by decide) kz) ?_
    refine Goes.step (T' := s₁) (g' := (mkF m 13 #[.val (.int p1)] [(.int (1 : Int32))])) (fun _ kz => XS.iconst X0.here hx rfl (hb hby d_method_4_12) kz) ?_
    refine Goes.step (T' := s₁) (g' := (mkF m 17 #[.val (.int p1)] [(.int (1 : Int32))])) (fun _ kz => XS.goto X0.here hx rfl (pc0 := 13) (pc' := 17) rfl (hb hby d_method_4_13) (by decide) (by decide) kz) ?_
    obtain ⟨fs, hr, hrun, hended, hW, hsame⟩ := X0.leave (v := some (.int (nar .boolean (1 : Int32)))) (fun h => by rw [Bd.returns] at h; cases h)
    exact ⟨_, _, retN X0 hx (t := .boolean) Bd.returns (by simp) (hb hby d_method_4_17) hr, hrun, hended, _, _, rfl, (by show Q_sep Z p1 h0 n0 _ s₁.heap _; rw [e0]; exact ⟨(by rw [if_pos (Or.inl hc3_68)]; rfl), rfl, rfl⟩), ⟨_, rfl⟩, hW, hsame.mono (by decide) (by decide)⟩
  ·
    refine Goes.step (T' := s₁) (g' := (mkF m 6 #[.val (.int p1)] [])) (fun _ kz => XS.icmpNo X0.here hx rfl (hb hby d_method_4_3) rfl (feq hc3_68).1 kz) ?_
    refine Goes.step (T' := s₁) (g' := (mkF m 7 #[.val (.int p1)] [(.int p1)])) (fun _ kz => XS.iloadN X0.here hx rfl (hb hby d_method_4_6) rfl  kz) ?_
    refine Goes.step (T' := s₁) (g' := (mkF m 9 #[.val (.int p1)] [(.int (36 : Int32)), (.int p1)])) (fun _ kz => XS.bipush X0.here hx rfl (hb hby d_method_4_7) kz) ?_
    by_cases hc9_69 : p1 = (36 : Int32)
    ·
      refine Goes.step (T' := s₁) (g' := (mkF m 12 #[.val (.int p1)] [])) (fun _ kz => XS.icmpNo X0.here hx rfl (hb hby d_method_4_9) rfl (teq hc9_69).2 kz) ?_
      refine Goes.step (T' := s₁) (g' := (mkF m 13 #[.val (.int p1)] [(.int (1 : Int32))])) (fun _ kz => XS.iconst X0.here hx rfl (hb hby d_method_4_12) kz) ?_
      refine Goes.step (T' := s₁) (g' := (mkF m 17 #[.val (.int p1)] [(.int (1 : Int32))])) (fun _ kz => XS.goto X0.here hx rfl (pc0 := 13) (pc' := 17) rfl (hb hby d_method_4_13) (by decide) (by decide) kz) ?_
      obtain ⟨fs, hr, hrun, hended, hW, hsame⟩ := X0.leave (v := some (.int (nar .boolean (1 : Int32)))) (fun h => by rw [Bd.returns] at h; cases h)
      exact ⟨_, _, retN X0 hx (t := .boolean) Bd.returns (by simp) (hb hby d_method_4_17) hr, hrun, hended, _, _, rfl, (by show Q_sep Z p1 h0 n0 _ s₁.heap _; rw [e0]; exact ⟨(by rw [if_pos (Or.inr hc9_69)]; rfl), rfl, rfl⟩), ⟨_, rfl⟩, hW, hsame.mono (by decide) (by decide)⟩
    ·
      refine Goes.step (T' := s₁) (g' := (mkF m 16 #[.val (.int p1)] [])) (fun _ kz => XS.icmpYes X0.here hx rfl (pc0 := 9) (pc' := 16) rfl (hb hby d_method_4_9) rfl (feq hc9_69).2 (by decide) (by decide) kz) ?_
      refine Goes.step (T' := s₁) (g' := (mkF m 17 #[.val (.int p1)] [(.int (0 : Int32))])) (fun _ kz => XS.iconst X0.here hx rfl (hb hby d_method_4_16) kz) ?_
      obtain ⟨fs, hr, hrun, hended, hW, hsame⟩ := X0.leave (v := some (.int (nar .boolean (0 : Int32)))) (fun h => by rw [Bd.returns] at h; cases h)
      exact ⟨_, _, retN X0 hx (t := .boolean) Bd.returns (by simp) (hb hby d_method_4_17) hr, hrun, hended, _, _, rfl, (by show Q_sep Z p1 h0 n0 _ s₁.heap _; rw [e0]; exact ⟨(by rw [if_neg (fun q => q.elim hc3_68 hc9_69)]; rfl), rfl, rfl⟩), ⟨_, rfl⟩, hW, hsame.mono (by decide) (by decide)⟩
theorem d_method_5_0 : decode method_5_code 0 = .ok (.iload_n 1, 1) := by decide +kernel
theorem d_method_5_1 : decode method_5_code 1 = .ok (.iload_n 2, 1) := by decide +kernel
theorem d_method_5_2 : decode method_5_code 2 = .ok (.if_icmp .lt 5, 3) := by decide +kernel
theorem d_method_5_7 : decode method_5_code 7 = .ok (.aload_n 0, 1) := by decide +kernel
theorem d_method_5_8 : decode method_5_code 8 = .ok (.iload_n 1, 1) := by decide +kernel
theorem d_method_5_9 : decode method_5_code 9 = .ok (.invokevirtual 43, 3) := by decide +kernel
theorem pd_18 : parseMethodDescriptor "(I)C" = some ⟨[.int], some .char⟩ := by decide +kernel
theorem d_method_5_12 : decode method_5_code 12 = .ok (.aload_n 3, 1) := by decide +kernel
theorem d_method_5_13 : decode method_5_code 13 = .ok (.iload 4, 2) := by decide +kernel
theorem d_method_5_15 : decode method_5_code 15 = .ok (.iconst 1, 1) := by decide +kernel
theorem d_method_5_16 : decode method_5_code 16 = .ok (.iadd, 1) := by decide +kernel
theorem d_method_5_17 : decode method_5_code 17 = .ok (.iload_n 1, 1) := by decide +kernel
theorem d_method_5_18 : decode method_5_code 18 = .ok (.iadd, 1) := by decide +kernel
theorem d_method_5_19 : decode method_5_code 19 = .ok (.caload, 1) := by decide +kernel
theorem d_method_5_20 : decode method_5_code 20 = .ok (.if_icmp .ne 7, 3) := by decide +kernel
theorem d_method_5_23 : decode method_5_code 23 = .ok (.iconst 1, 1) := by decide +kernel
theorem d_method_5_24 : decode method_5_code 24 = .ok (.goto 4, 3) := by decide +kernel
theorem d_method_5_28 : decode method_5_code 28 = .ok (.ireturn, 1) := by decide +kernel
theorem d_method_5_5 : decode method_5_code 5 = .ok (.iconst 1, 1) := by decide +kernel
theorem d_method_5_6 : decode method_5_code 6 = .ok (.ireturn, 1) := by decide +kernel
theorem ef_at (m : MethodId) (a1 : Addr) (q1 : Int32) (q2 : Int32) (a2 : Addr) (q4 : Int32) : entryFrame m #[(.ref a1), (.int q1), (.int q2), (.ref a2), (.int q4)] 5 = mkF m 0 #[.val (.ref a1), .val (.int q1), .val (.int q2), .val (.ref a2), .val (.int q4)] [] := by first | (simp [entryFrame, mkF, argsToLocals, Value.category, maxLocals]; done) | rfl
def Q_at (Z : State) (a1 : Addr) (a2 : Addr) (ds : List Int32) (vs : List Int32) (j : Nat) (kk : Nat) (kc : ClassId) (h0 : Heap) (n0 : Nat) (v : Option Value) (h : Heap) (L : List Loc) : Prop := (v = some (.int (1 : Int32))) ∧ (L = []) ∧ (h = h0)
set_option maxRecDepth 65536 in
set_option maxHeartbeats 40000000 in
theorem rm_at (l : Launch) (Z : State) (a0 : Array Value) (hw : ∀ d ∈ tables_1, d.before a0 Z = true) (ws : List Jvm.Cond) (a1 : Addr) (a2 : Addr) (ds : List Int32) (vs : List Int32) (j : Nat) (kk : Nat) (kc : ClassId) (h0 : Heap) (n0 : Nat) (O0 : Old Z n0 h0) (zcs : Int32) (Scs : Sta Z Z.heap "java/lang/String" "COMPACT_STRINGS" "Z" (.int zcs)) (hz_Scs : ¬ zcs = 0) (fmt : Value) (Sfm : Sta Z Z.heap "jdk/internal/util/Preconditions" "SIOOBE_FORMATTER" "Ljava/util/function/BiFunction;" fmt) (hz_Sfm : fmt.isRef = true) (E_a1 : Exa Z h0 a1 "java/lang/String") (G_a1 : SX Z h0 a1 ds) (V_a2 : Arv Z h0 a2 kc .char (5 : Int32) (vs.map Value.int) (.int (0 : Int32))) (hkk : kk < 5) (hjd : j + ds.length ≤ 5) (hvl : vs.length = 5) (hds : ∀ i, i < ds.length → vs.getD (j + i) 0 = ds.getD i 0) :
    MetFree l (⟨"com/example/demarcation/demarcation/component/NamedAnnotationSimpleNamePinLaw", "at", "(Ljava/lang/String;II[CI)Z"⟩ : MethodName) (head1 ((Jvm.Cond.code (⟨"com/example/demarcation/demarcation/component/NamedAnnotationSimpleNamePinLaw", "at", "(Ljava/lang/String;II[CI)Z"⟩ : MethodName) method_5_code 5 (some .boolean)) :: ws) ({ frames := 4, cells := 0, slots := 0, locals := 53 } : Room)) (fun a U => a = #[(.ref a1), (.int (Int32.ofNat kk)), (.int (Int32.ofNat ds.length)), (.ref a2), (.int ((Int32.ofNat j) - (1 : Int32)))] ∧ Z.Warmed39 U.vm ∧ U.heap = h0) (fun _ _ _ _ _ => True) (fun _ U o U' => ∃ v L, o = .returned v ∧ Q_at Z a1 a2 ds vs j kk kc h0 n0 v U'.heap L ∧ FrameEnd U o U' L ({ frames := 4, cells := 0, slots := 0, locals := 53 } : Room).cells ({ frames := 4, cells := 0, slots := 0, locals := 53 } : Room).slots) := by
  refine MetFree.of_bodySF (plainFor_of_name pn_9) hisR ?_
  intro p e s m args below meth c s₁ Bd hml0 hP hK
  obtain ⟨rfl, hZ, hh⟩ := hP
  have hx := Bd.exec
  have hby := Bd.bytes
  have hml : c.maxLocals = 5 := hml0
  have hown : s.vm.findClass "com/example/demarcation/demarcation/component/NamedAnnotationSimpleNamePinLaw" = some m.cls := (findClass_of_methodNamed Bd.named :)
  have hnm := (name_of_methodNamed Bd.named Bd.method).1
  have X0 : Stand p l e ({ frames := 4, cells := 0, slots := 0, locals := 53 } : Room) s m #[(.ref a1), (.int (Int32.ofNat kk)), (.int (Int32.ofNat ds.length)), (.ref a2), (.int ((Int32.ofNat j) - (1 : Int32)))] below meth c s₁ [] 0 0 := Stand.of_body Bd
  have e0 : s₁.heap = h0 := by rw [← hh, Bd.state]; rfl
  have N0 := Fr.nil n0
  have K0 : Keep h0 h0 [] := Keep.refl _ _
  suffices hG : Goes p e below (fun o U' => ∃ v L, o = .returned v ∧ Q_at Z a1 a2 ds vs j kk kc h0 n0 v U'.heap L ∧ FrameEnd s o U' L ({ frames := 4, cells := 0, slots := 0, locals := 53 } : Room).cells ({ frames := 4, cells := 0, slots := 0, locals := 53 } : Room).slots) s₁ (mkF m 0 #[.val (.ref a1), .val (.int (Int32.ofNat kk)), .val (.int (Int32.ofNat ds.length)), .val (.ref a2), .val (.int ((Int32.ofNat j) - (1 : Int32)))] []) by
    obtain ⟨t, o, h1, h2⟩ := hG; exact ⟨t, o, castTop (ef_at m a1 (Int32.ofNat kk) (Int32.ofNat ds.length) a2 ((Int32.ofNat j) - (1 : Int32))) h1, h2⟩
  refine Goes.step (T' := s₁) (g' := (mkF m 1 #[.val (.ref a1), .val (.int (Int32.ofNat kk)), .val (.int (Int32.ofNat ds.length)), .val (.ref a2), .val (.int ((Int32.ofNat j) - (1 : Int32)))] [(.int (Int32.ofNat kk))])) (fun _ kz => XS.iloadN X0.here hx rfl (hb hby d_method_5_0) rfl  kz) ?_
  refine Goes.step (T' := s₁) (g' := (mkF m 2 #[.val (.ref a1), .val (.int (Int32.ofNat kk)), .val (.int (Int32.ofNat ds.length)), .val (.ref a2), .val (.int ((Int32.ofNat j) - (1 : Int32)))] [(.int (Int32.ofNat ds.length)), (.int (Int32.ofNat kk))])) (fun _ kz => XS.iloadN X0.here hx rfl (hb hby d_method_5_1) rfl  kz) ?_
  by_cases hc2_70 : (Int32.ofNat kk) < (Int32.ofNat ds.length)
  ·
    refine Goes.step (T' := s₁) (g' := (mkF m 7 #[.val (.ref a1), .val (.int (Int32.ofNat kk)), .val (.int (Int32.ofNat ds.length)), .val (.ref a2), .val (.int ((Int32.ofNat j) - (1 : Int32)))] [])) (fun _ kz => XS.icmpYes X0.here hx rfl (pc0 := 2) (pc' := 7) rfl (hb hby d_method_5_2) rfl (tlt hc2_70).1 (by decide) (by decide) kz) ?_
    refine Goes.step (T' := s₁) (g' := (mkF m 8 #[.val (.ref a1), .val (.int (Int32.ofNat kk)), .val (.int (Int32.ofNat ds.length)), .val (.ref a2), .val (.int ((Int32.ofNat j) - (1 : Int32)))] [(.ref a1)])) (fun _ kz => XS.aloadN X0.here hx rfl (hb hby d_method_5_7) rfl rfl kz) ?_
    refine Goes.step (T' := s₁) (g' := (mkF m 9 #[.val (.ref a1), .val (.int (Int32.ofNat kk)), .val (.int (Int32.ofNat ds.length)), .val (.ref a2), .val (.int ((Int32.ofNat j) - (1 : Int32)))] [(.int (Int32.ofNat kk)), (.ref a1)])) (fun _ kz => XS.iloadN X0.here hx rfl (hb hby d_method_5_8) rfl  kz) ?_
    obtain ⟨cq71, kq71, qa71, qb71, qc71⟩ := isOf hZ e0 E_a1
    obtain ⟨_, _, ⟨T71, L71, k71, n71⟩, -, X71, ⟨Lc71, hQ71, l71, y71, z71⟩, st71⟩ := X0.virtualBack hx (y := (⟨"java/lang/String", "charAt", "(I)C"⟩ : MethodName)) (z := (⟨"java/lang/String", "charAt", "(I)C"⟩ : MethodName)) hown (mvT hZ (hw _ (List.mem_of_getElem? (i := 174) rfl))) (mvT hZ (hw _ (List.mem_of_getElem? (i := 175) rfl))) (notFace_of_selects (args := #[]) (mvT hZ (hw _ (List.mem_of_getElem? (i := 177) rfl)))) (mvT hZ (hw _ (List.mem_of_getElem? (i := 177) rfl))) (mvT hZ (hw _ (List.mem_of_getElem? (i := 176) rfl))) (by decide) (own_chN (W := 0) hZ hw (hw _ (List.mem_of_getElem? (i := 10) rfl)) G_a1 ((by omega)) (Scs.ext O0.2) hz_Scs (Sfm.ext O0.2) hz_Sfm (i := kk) ((own_lt (by omega) (by omega)).mp hc2_70) rfl (by decide) (by decide)) qa71 qc71 (g := (mkF m 9 #[.val (.ref a1), .val (.int (Int32.ofNat kk)), .val (.int (Int32.ofNat ds.length)), .val (.ref a2), .val (.int ((Int32.ofNat j) - (1 : Int32)))] [(.int (Int32.ofNat kk)), (.ref a1)])) rfl (by rw [hml]; rfl) (Steps.refl _) (argsL := [(.int (Int32.ofNat kk))]) (rest := []) (lenOf pd_18 rfl) rfl (by show 2 * 0 + _ ≤ _; exact Nat.le_of_eq rfl) (hb hby d_method_5_9) (fun _ _ => ⟨rfl, e0, (by decide : 0 + 0 ≤ _), (by decide : 0 + 0 ≤ _)⟩)
    dsimp only [Pt.U, Pt.locs, Pt.cells, Pt.slots] at X71 l71 y71 z71 st71 hQ71
    subst l71 y71 z71
    obtain ⟨rfl, rfl, e71⟩ := hQ71
    replace N0 := Fr.app N0 (Fr.nil n0)
    refine Goes.run (T' := T71) (g' := (mkF m 12 #[.val (.ref a1), .val (.int (Int32.ofNat kk)), .val (.int (Int32.ofNat ds.length)), .val (.ref a2), .val (.int ((Int32.ofNat j) - (1 : Int32)))] [(.int (ds.getD kk 0))])) st71 ?_
    refine Goes.step (T' := T71) (g' := (mkF m 13 #[.val (.ref a1), .val (.int (Int32.ofNat kk)), .val (.int (Int32.ofNat ds.length)), .val (.ref a2), .val (.int ((Int32.ofNat j) - (1 : Int32)))] [(.ref a2), (.int (ds.getD kk 0))])) (fun _ kz => XS.aloadN X71.here hx rfl (hb hby d_method_5_12) rfl rfl kz) ?_
    refine Goes.step (T' := T71) (g' := (mkF m 15 #[.val (.ref a1), .val (.int (Int32.ofNat kk)), .val (.int (Int32.ofNat ds.length)), .val (.ref a2), .val (.int ((Int32.ofNat j) - (1 : Int32)))] [(.int ((Int32.ofNat j) - (1 : Int32))), (.ref a2), (.int (ds.getD kk 0))])) (fun _ kz => XS.iload X71.here hx rfl (hb hby d_method_5_13) rfl  kz) ?_
    refine Goes.step (T' := T71) (g' := (mkF m 16 #[.val (.ref a1), .val (.int (Int32.ofNat kk)), .val (.int (Int32.ofNat ds.length)), .val (.ref a2), .val (.int ((Int32.ofNat j) - (1 : Int32)))] [(.int (1 : Int32)), (.int ((Int32.ofNat j) - (1 : Int32))), (.ref a2), (.int (ds.getD kk 0))])) (fun _ kz => XS.iconst X71.here hx rfl (hb hby d_method_5_15) kz) ?_
    refine Goes.step (T' := T71) (g' := (mkF m 17 #[.val (.ref a1), .val (.int (Int32.ofNat kk)), .val (.int (Int32.ofNat ds.length)), .val (.ref a2), .val (.int ((Int32.ofNat j) - (1 : Int32)))] [(.int (((Int32.ofNat j) - (1 : Int32)) + (1 : Int32))), (.ref a2), (.int (ds.getD kk 0))])) (fun _ kz => XS.iadd X71.here hx rfl (hb hby d_method_5_16) rfl kz) ?_
    rw [Int32.sub_add_cancel]
    refine Goes.step (T' := T71) (g' := (mkF m 18 #[.val (.ref a1), .val (.int (Int32.ofNat kk)), .val (.int (Int32.ofNat ds.length)), .val (.ref a2), .val (.int ((Int32.ofNat j) - (1 : Int32)))] [(.int (Int32.ofNat kk)), (.int (Int32.ofNat j)), (.ref a2), (.int (ds.getD kk 0))])) (fun _ kz => XS.iloadN X71.here hx rfl (hb hby d_method_5_17) rfl  kz) ?_
    refine Goes.step (T' := T71) (g' := (mkF m 19 #[.val (.ref a1), .val (.int (Int32.ofNat kk)), .val (.int (Int32.ofNat ds.length)), .val (.ref a2), .val (.int ((Int32.ofNat j) - (1 : Int32)))] [(.int ((Int32.ofNat j) + (Int32.ofNat kk))), (.ref a2), (.int (ds.getD kk 0))])) (fun _ kz => XS.iadd X71.here hx rfl (hb hby d_method_5_18) rfl kz) ?_
    rw [← Int32.ofNat_add]
    obtain ⟨cl72, Ar72, q72, Sz72, Nn72, Hs72, Gs72⟩ := (id V_a2 : Arv Z h0 a2 kc .char (5 : Int32) (vs.map Value.int) (.int (0 : Int32)))
    refine Goes.step (T' := T71) (g' := (mkF m 20 #[.val (.ref a1), .val (.int (Int32.ofNat kk)), .val (.int (Int32.ofNat ds.length)), .val (.ref a2), .val (.int ((Int32.ofNat j) - (1 : Int32)))] [(.int (vs.getD (j + kk) 0)), (.int (ds.getD kk 0))])) (X71.caload hx (j := (Int32.ofNat (j + kk))) (v := (.int (vs.getD (j + kk) 0))) (by rw [e71]; exact Ar72.1) (State.isArrayOf_alike hZ.alike Ar72.2.1) Ar72.2.2 (inb_of Sz72 ⟨own_nn (by have := (show j + kk < 5 by have := ((own_lt (by omega) (by omega)).mp hc2_70); omega); omega), (by have := (show j + kk < 5 by have := ((own_lt (by omega) (by omega)).mp hc2_70); omega); exact (own_lt (a := j + kk) (b := 5) (by omega) (by omega)).mpr this)⟩) (Has.at Hs72 (inb_of Sz72 ⟨own_nn (by have := (show j + kk < 5 by have := ((own_lt (by omega) (by omega)).mp hc2_70); omega); omega), (by have := (show j + kk < 5 by have := ((own_lt (by omega) (by omega)).mp hc2_70); omega); exact (own_lt (a := j + kk) (b := 5) (by omega) (by omega)).mpr this)⟩) (own_atI (own_clamp (by have := (show j + kk < 5 by have := ((own_lt (by omega) (by omega)).mp hc2_70); omega); omega)) (by have := (show j + kk < 5 by have := ((own_lt (by omega) (by omega)).mp hc2_70); omega); omega))) (g := (mkF m 19 #[.val (.ref a1), .val (.int (Int32.ofNat kk)), .val (.int (Int32.ofNat ds.length)), .val (.ref a2), .val (.int ((Int32.ofNat j) - (1 : Int32)))] [(.int (Int32.ofNat (j + kk))), (.ref a2), (.int (ds.getD kk 0))])) rfl rfl (hb hby d_method_5_19)) ?_
    refine Goes.step (T' := T71) (g' := (mkF m 23 #[.val (.ref a1), .val (.int (Int32.ofNat kk)), .val (.int (Int32.ofNat ds.length)), .val (.ref a2), .val (.int ((Int32.ofNat j) - (1 : Int32)))] [])) (fun _ kz => XS.icmpNo X71.here hx rfl (hb hby d_method_5_20) rfl (teq (hds kk ((own_lt (by omega) (by omega)).mp hc2_70)).symm).2 kz) ?_
    refine Goes.step (T' := T71) (g' := (mkF m 24 #[.val (.ref a1), .val (.int (Int32.ofNat kk)), .val (.int (Int32.ofNat ds.length)), .val (.ref a2), .val (.int ((Int32.ofNat j) - (1 : Int32)))] [(.int (1 : Int32))])) (fun _ kz => XS.iconst X71.here hx rfl (hb hby d_method_5_23) kz) ?_
    refine Goes.step (T' := T71) (g' := (mkF m 28 #[.val (.ref a1), .val (.int (Int32.ofNat kk)), .val (.int (Int32.ofNat ds.length)), .val (.ref a2), .val (.int ((Int32.ofNat j) - (1 : Int32)))] [(.int (1 : Int32))])) (fun _ kz => XS.goto X71.here hx rfl (pc0 := 24) (pc' := 28) rfl (hb hby d_method_5_24) (by decide) (by decide) kz) ?_
    obtain ⟨fs, hr, hrun, hended, hW, hsame⟩ := X71.leave (v := some (.int (nar .boolean (1 : Int32)))) (fun h => by rw [Bd.returns] at h; cases h)
    exact ⟨_, _, retN X71 hx (t := .boolean) Bd.returns (by simp) (hb hby d_method_5_28) hr, hrun, hended, _, _, rfl, (by show Q_at Z a1 a2 ds vs j kk kc h0 n0 _ T71.heap _; rw [e71]; exact ⟨rfl, rfl, rfl⟩), ⟨_, rfl⟩, hW, hsame.mono (by decide) (by decide)⟩
  ·
    refine Goes.step (T' := s₁) (g' := (mkF m 5 #[.val (.ref a1), .val (.int (Int32.ofNat kk)), .val (.int (Int32.ofNat ds.length)), .val (.ref a2), .val (.int ((Int32.ofNat j) - (1 : Int32)))] [])) (fun _ kz => XS.icmpNo X0.here hx rfl (hb hby d_method_5_2) rfl (flt hc2_70).1 kz) ?_
    refine Goes.step (T' := s₁) (g' := (mkF m 6 #[.val (.ref a1), .val (.int (Int32.ofNat kk)), .val (.int (Int32.ofNat ds.length)), .val (.ref a2), .val (.int ((Int32.ofNat j) - (1 : Int32)))] [(.int (1 : Int32))])) (fun _ kz => XS.iconst X0.here hx rfl (hb hby d_method_5_5) kz) ?_
    obtain ⟨fs, hr, hrun, hended, hW, hsame⟩ := X0.leave (v := some (.int (nar .boolean (1 : Int32)))) (fun h => by rw [Bd.returns] at h; cases h)
    exact ⟨_, _, retN X0 hx (t := .boolean) Bd.returns (by simp) (hb hby d_method_5_6) hr, hrun, hended, _, _, rfl, (by show Q_at Z a1 a2 ds vs j kk kc h0 n0 _ s₁.heap _; rw [e0]; exact ⟨rfl, rfl, rfl⟩), ⟨_, rfl⟩, hW, hsame.mono (by decide) (by decide)⟩
theorem pd_19 : parseMethodDescriptor "([C)V" = some ⟨[(.array .char)], none⟩ := by decide +kernel
theorem pd_20 : parseMethodDescriptor "(Ljava/lang/String;Ljava/util/Map;)V" = some ⟨[(.object "java/lang/String"), (.object "java/util/Map")], none⟩ := by decide +kernel
theorem pd_21 : parseMethodDescriptor "()Ljava/lang/String;" = some ⟨[], some (.object "java/lang/String")⟩ := by decide +kernel
theorem pd_22 : parseMethodDescriptor "(Ljava/lang/String;II[CI)Z" = some ⟨[(.object "java/lang/String"), .int, .int, (.array .char), .int], some .boolean⟩ := by decide +kernel
theorem pd_23 : parseMethodDescriptor "(C)Z" = some ⟨[.char], some .boolean⟩ := by decide +kernel
theorem ef_law (m : MethodId) (p0 : Int32) (p1 : Int32) (p2 : Int32) (p3 : Int32) (p4 : Int32) (p5 : Int32) : entryFrame m #[(.int p0), (.int p1), (.int p2), (.int p3), (.int p4), (.int p5)] maxLocals = mkF m 0 #[.val (.int p0), .val (.int p1), .val (.int p2), .val (.int p3), .val (.int p4), .val (.int p5), .unset, .unset, .unset, .unset, .unset, .unset, .unset] [] := by first | (simp [entryFrame, mkF, argsToLocals, Value.category, maxLocals]; done) | rfl
def Q_law (Z : State) (p0 : Int32) (p1 : Int32) (p2 : Int32) (p3 : Int32) (p4 : Int32) (p5 : Int32) (h0 : Heap) (n0 : Nat) (v : Option Value) (h : Heap) (L : List Loc) : Prop := (v = some (.int (1 : Int32))) ∧ (Fr n0 L) ∧ (Keep h0 h [])
set_option maxRecDepth 65536 in
set_option maxHeartbeats 40000000 in
theorem rm_law (l : Launch) (Z : State) (a0 : Array Value) (hw : ∀ d ∈ tables_1, d.before a0 Z = true) (ws : List Jvm.Cond) (hEL : EW Z a0 EL) (p0 : Int32) (p1 : Int32) (p2 : Int32) (p3 : Int32) (p4 : Int32) (p5 : Int32) (h0 : Heap) (n0 : Nat) (O0 : Old Z n0 h0) (zcs : Int32) (Scs : Sta Z Z.heap "java/lang/String" "COMPACT_STRINGS" "Z" (.int zcs)) (hz_Scs : ¬ zcs = 0) (fmt : Value) (Sfm : Sta Z Z.heap "jdk/internal/util/Preconditions" "SIOOBE_FORMATTER" "Ljava/util/function/BiFunction;" fmt) (hz_Sfm : fmt.isRef = true) (hmH : MM Z "java/util/HashMap") (hmU : MM Z "java/util/Collections$UnmodifiableMap") :
    MetFree l x (head1 ((Jvm.Cond.code x code maxLocals ret) :: ws) room_1) (fun a U => a = #[(.int p0), (.int p1), (.int p2), (.int p3), (.int p4), (.int p5)] ∧ Z.Warmed39 U.vm ∧ U.heap = h0 ∧ CHv Z EL U.vm h0) (fun _ _ _ _ _ => True) (fun _ U o U' => ∃ v L, o = .returned v ∧ Q_law Z p0 p1 p2 p3 p4 p5 h0 n0 v U'.heap L ∧ CHr Z EL U.vm U.heap U'.vm U'.heap ∧ ReturnedEndW U o U' L 40 2240) := by
  refine MetFree.of_bodySF (plainFor_of_name pn_9) hisR ?_
  intro p e s m args below meth c s₁ Bd hml0 hP hK
  obtain ⟨rfl, hZ, hh, hCH⟩ := hP
  have hx := Bd.exec
  have hby := Bd.bytes
  have hml : c.maxLocals = 13 := hml0
  have hown : (s.setVm s.vm).vm.findClass "com/example/demarcation/demarcation/component/NamedAnnotationSimpleNamePinLaw" = some m.cls := (findClass_of_methodNamed Bd.named :)
  have hnm := (name_of_methodNamed Bd.named Bd.method).1
  have X0 : Stand p l e room_1 (s.setVm s.vm) m #[(.int p0), (.int p1), (.int p2), (.int p3), (.int p4), (.int p5)] below meth c s₁ [] 0 0 := Stand.of_body Bd
  have e0 : s₁.heap = h0 := by rw [← hh, Bd.state]; rfl
  have N0 := Fr.nil n0
  have K0 : Keep h0 h0 [] := Keep.refl _ _
  have C0 : CHr Z EL s.vm h0 s.vm h0 := CHr.refl hCH
  have hS0 : s.Since s.vm h0.size := own_since0 s _
  have hk0 : h0.size ≤ h0.size := Nat.le_refl _
  suffices hG : Goes p e below (fun o U' => ∃ v L, o = .returned v ∧ Q_law Z p0 p1 p2 p3 p4 p5 h0 n0 v U'.heap L ∧ CHr Z EL s.vm s.heap U'.vm U'.heap ∧ ReturnedEndW s o U' L 40 2240) s₁ (mkF m 0 #[.val (.int p0), .val (.int p1), .val (.int p2), .val (.int p3), .val (.int p4), .val (.int p5), .unset, .unset, .unset, .unset, .unset, .unset, .unset] []) by
    obtain ⟨t, o, h1, h2⟩ := hG; exact ⟨t, o, castTop (ef_law m p0 p1 p2 p3 p4 p5) h1, h2⟩
  refine Goes.step (T' := s₁) (g' := (mkF m 2 #[.val (.int p0), .val (.int p1), .val (.int p2), .val (.int p3), .val (.int p4), .val (.int p5), .unset, .unset, .unset, .unset, .unset, .unset, .unset] [(.int p5)])) (fun _ kz => XS.iload X0.here hx rfl (hb hby at_0) rfl  kz) ?_
  refine Goes.step (T' := s₁) (g' := (mkF m 4 #[.val (.int p0), .val (.int p1), .val (.int p2), .val (.int p3), .val (.int p4), .val (.int p5), .unset, .unset, .unset, .unset, .unset, .unset, .unset] [(.int (2147483647 : Int32)), (.int p5)])) (X0.ldcInt hx hown (mvT hZ (hw _ (List.mem_of_getElem? (i := 0) rfl))) (g := (mkF m 2 #[.val (.int p0), .val (.int p1), .val (.int p2), .val (.int p3), .val (.int p4), .val (.int p5), .unset, .unset, .unset, .unset, .unset, .unset, .unset] [(.int p5)])) rfl (hb hby at_2)) ?_
  refine Goes.step (T' := s₁) (g' := (mkF m 5 #[.val (.int p0), .val (.int p1), .val (.int p2), .val (.int p3), .val (.int p4), .val (.int p5), .unset, .unset, .unset, .unset, .unset, .unset, .unset] [(.int (p5 &&& (2147483647 : Int32)))])) (fun _ kz => XS.iand X0.here hx rfl (hb hby at_4) rfl kz) ?_
  refine Goes.step (T' := s₁) (g' := (mkF m 7 #[.val (.int p0), .val (.int p1), .val (.int p2), .val (.int p3), .val (.int p4), .val (.int p5), .unset, .unset, .unset, .unset, .unset, .unset, .unset] [(.int (6 : Int32)), (.int (p5 &&& (2147483647 : Int32)))])) (fun _ kz => XS.bipush X0.here hx rfl (hb hby at_5) kz) ?_
  refine Goes.step (T' := s₁) (g' := (mkF m 8 #[.val (.int p0), .val (.int p1), .val (.int p2), .val (.int p3), .val (.int p4), .val (.int p5), .unset, .unset, .unset, .unset, .unset, .unset, .unset] [(.int ((p5 &&& (2147483647 : Int32)) % (6 : Int32)))])) (fun _ kz => iremM X0 hx rfl (hb hby at_7) rfl (by decide) kz) ?_
  refine Goes.step (T' := s₁) (g' := (mkF m 10 #[.val (.int p0), .val (.int p1), .val (.int p2), .val (.int p3), .val (.int p4), .val (.int p5), .val (.int ((p5 &&& (2147483647 : Int32)) % (6 : Int32))), .unset, .unset, .unset, .unset, .unset, .unset] [])) (fun _ kz => XS.istore X0.here hx rfl (hb hby at_8) rfl (l' := #[.val (.int p0), .val (.int p1), .val (.int p2), .val (.int p3), .val (.int p4), .val (.int p5), .val (.int ((p5 &&& (2147483647 : Int32)) % (6 : Int32))), .unset, .unset, .unset, .unset, .unset, .unset]) rfl kz) ?_
  refine Goes.step (T' := s₁) (g' := (mkF m 11 #[.val (.int p0), .val (.int p1), .val (.int p2), .val (.int p3), .val (.int p4), .val (.int p5), .val (.int ((p5 &&& (2147483647 : Int32)) % (6 : Int32))), .unset, .unset, .unset, .unset, .unset, .unset] [(.int (5 : Int32))])) (fun _ kz => XS.iconst X0.here hx rfl (hb hby at_10) kz) ?_
  obtain ⟨T73, h73, kc73, X73, e73, Ex73, A73, st73⟩ := newP X0 hx hZ (hw _ (List.mem_of_getElem? (i := 1) rfl)) e0 (g := (mkF m 11 #[.val (.int p0), .val (.int p1), .val (.int p2), .val (.int p3), .val (.int p4), .val (.int p5), .val (.int ((p5 &&& (2147483647 : Int32)) % (6 : Int32))), .unset, .unset, .unset, .unset, .unset, .unset] [(.int (5 : Int32))])) rfl (hb hby at_11) rfl (by decide) (cap := 5) (by decide) (by decide) (by decide) (by decide)
  obtain ⟨b73, gg73⟩ : ∃ z, z = h0.size := ⟨_, rfl⟩
  rw [← gg73] at A73 st73
  have g_b73 : n0 ≤ b73 := Nat.le_trans (own_n0 O0) (Nat.le_of_eq gg73.symm)
  have sz_b73 : h0.size ≤ b73 := Nat.le_trans K0.1 (Nat.le_of_eq gg73.symm)
  have S_b73 := (Safe.new (Z := Z) (EL := EL) (vm := s.vm) (Nat.le_of_eq gg73.symm)).ext Ex73 C0.1
  replace O0 := O0.ext Ex73
  replace K0 := K0.ext Ex73
  replace C0 := C0.trans (CHr.ext Ex73 C0.1)
  replace hk0 := Nat.le_trans hk0 Ex73.1
  have V_b73 : Arv Z h73 b73 kc73 .char (5 : Int32) [(.int (0 : Int32)), (.int (0 : Int32)), (.int (0 : Int32)), (.int (0 : Int32)), (.int (0 : Int32))] (.int (0 : Int32)) := (Arv.new A73 (by decide)).pad (pad_rep [] (.int (0 : Int32)) 5)
  refine Goes.step (T' := T73) (g' := (mkF m 13 #[.val (.int p0), .val (.int p1), .val (.int p2), .val (.int p3), .val (.int p4), .val (.int p5), .val (.int ((p5 &&& (2147483647 : Int32)) % (6 : Int32))), .unset, .unset, .unset, .unset, .unset, .unset] [(.ref b73)])) st73 ?_
  refine Goes.step (T' := T73) (g' := (mkF m 14 #[.val (.int p0), .val (.int p1), .val (.int p2), .val (.int p3), .val (.int p4), .val (.int p5), .val (.int ((p5 &&& (2147483647 : Int32)) % (6 : Int32))), .unset, .unset, .unset, .unset, .unset, .unset] [(.ref b73), (.ref b73)])) (fun _ kz => XS.dup X73.here hx rfl (hb hby at_13) rfl rfl kz) ?_
  refine Goes.step (T' := T73) (g' := (mkF m 15 #[.val (.int p0), .val (.int p1), .val (.int p2), .val (.int p3), .val (.int p4), .val (.int p5), .val (.int ((p5 &&& (2147483647 : Int32)) % (6 : Int32))), .unset, .unset, .unset, .unset, .unset, .unset] [(.int (0 : Int32)), (.ref b73), (.ref b73)])) (fun _ kz => XS.iconst X73.here hx rfl (hb hby at_14) kz) ?_
  refine Goes.step (T' := T73) (g' := (mkF m 16 #[.val (.int p0), .val (.int p1), .val (.int p2), .val (.int p3), .val (.int p4), .val (.int p5), .val (.int ((p5 &&& (2147483647 : Int32)) % (6 : Int32))), .unset, .unset, .unset, .unset, .unset, .unset] [(.int p0), (.int (0 : Int32)), (.ref b73), (.ref b73)])) (fun _ kz => XS.iloadN X73.here hx rfl (hb hby at_15) rfl  kz) ?_
  obtain ⟨_, _, ⟨T74, L74, k74, n74⟩, -, X74, ⟨Lc74, hQ74, l74, y74, z74⟩, st74⟩ := Jvm.LawKit.callS X73 hx (y := (⟨"com/example/demarcation/demarcation/component/NamedAnnotationSimpleNamePinLaw", "ch", "(I)C"⟩ : MethodName)) hown (mvT hZ (hw _ (List.mem_of_getElem? (i := 2) rfl))) (mvT hZ (hw _ (List.mem_of_getElem? (i := 3) rfl))) (mvT hZ (hw _ (List.mem_of_getElem? (i := 4) rfl))) (mvT hZ (hw _ (List.mem_of_getElem? (i := 5) rfl))) (by decide) (backOf (W := 3) (rm_ch l Z a0 hw [] p0 h73 n0 O0  ) hZ (hw _ (List.mem_of_getElem? (i := 5) rfl)) (hw _ (List.mem_of_getElem? (i := 4) rfl)) (by decide) (by decide)) (g := (mkF m 16 #[.val (.int p0), .val (.int p1), .val (.int p2), .val (.int p3), .val (.int p4), .val (.int p5), .val (.int ((p5 &&& (2147483647 : Int32)) % (6 : Int32))), .unset, .unset, .unset, .unset, .unset, .unset] [(.int p0), (.int (0 : Int32)), (.ref b73), (.ref b73)])) rfl (by rw [hml]; rfl) (argsL := [(.int p0)]) (rest := [(.int (0 : Int32)), (.ref b73), (.ref b73)]) (lenOf pd_18 rfl) rfl (by show 2 * 0 + _ ≤ _; exact Nat.le_of_eq rfl) (hb hby at_16) (fun _ _ => ⟨rfl, e73, (by decide : 1 + 0 ≤ _), (by decide : 5 + 0 ≤ _)⟩)
  dsimp only [Pt.U, Pt.locs, Pt.cells, Pt.slots] at X74 l74 y74 z74 st74 hQ74
  subst l74 y74 z74
  obtain ⟨z_74, rfl, rfl, e74, hbz_74, hnz_74⟩ := hQ74
  replace N0 := Fr.app N0 (Fr.nil n0)
  refine Goes.step (T' := T74) (g' := (mkF m 19 #[.val (.int p0), .val (.int p1), .val (.int p2), .val (.int p3), .val (.int p4), .val (.int p5), .val (.int ((p5 &&& (2147483647 : Int32)) % (6 : Int32))), .unset, .unset, .unset, .unset, .unset, .unset] [(.int z_74), (.int (0 : Int32)), (.ref b73), (.ref b73)])) st74 ?_
  obtain ⟨cl75, Ar75, q75, Sz75, Nn75, Hs75, Gs75⟩ := (id V_b73 : Arv Z h73 b73 kc73 .char (5 : Int32) [(.int (0 : Int32)), (.int (0 : Int32)), (.int (0 : Int32)), (.int (0 : Int32)), (.int (0 : Int32))] (.int (0 : Int32)))
  obtain ⟨T75, h75, X75, e75, W75, st75⟩ := stC X74 hx hZ e74 Ar75 (j := (0 : Int32)) (inb_of Sz75 ⟨by decide, by decide⟩) (g := (mkF m 19 #[.val (.int p0), .val (.int p1), .val (.int p2), .val (.int p3), .val (.int p4), .val (.int p5), .val (.int ((p5 &&& (2147483647 : Int32)) % (6 : Int32))), .unset, .unset, .unset, .unset, .unset, .unset] [(.int z_74), (.int (0 : Int32)), (.ref b73), (.ref b73)])) rfl rfl (hb hby at_19)
  replace V_b73 : Arv Z h75 b73 kc73 .char (5 : Int32) [(.int (nar .char z_74)), (.int (0 : Int32)), (.int (0 : Int32)), (.int (0 : Int32)), (.int (0 : Int32))] (.int (0 : Int32)) := Arv.set Ar75 q75 Sz75 Nn75 Hs75 Gs75 (fits_nar_char _) W75 0 rfl (Nat.le_of_ble_eq_true rfl)
  replace N0 := Fr.snoc X75 N0 g_b73
  have Sw : Safe Z EL s.vm h73 b73 := S_b73
  replace S_b73 := Safe.wr W75 Sw C0.1 S_b73
  replace C0 := C0.trans (CHr.wr W75 Sw C0.1)
  replace hk0 := Nat.le_trans hk0 (Nat.le_of_eq W75.size.symm)
  replace O0 := O0.wr W75 g_b73
  replace K0 := K0.wr W75 (Or.inr sz_b73)
  refine Goes.step (T' := T75) (g' := (mkF m 20 #[.val (.int p0), .val (.int p1), .val (.int p2), .val (.int p3), .val (.int p4), .val (.int p5), .val (.int ((p5 &&& (2147483647 : Int32)) % (6 : Int32))), .unset, .unset, .unset, .unset, .unset, .unset] [(.ref b73)])) st75 ?_
  refine Goes.step (T' := T75) (g' := (mkF m 21 #[.val (.int p0), .val (.int p1), .val (.int p2), .val (.int p3), .val (.int p4), .val (.int p5), .val (.int ((p5 &&& (2147483647 : Int32)) % (6 : Int32))), .unset, .unset, .unset, .unset, .unset, .unset] [(.ref b73), (.ref b73)])) (fun _ kz => XS.dup X75.here hx rfl (hb hby at_20) rfl rfl kz) ?_
  refine Goes.step (T' := T75) (g' := (mkF m 22 #[.val (.int p0), .val (.int p1), .val (.int p2), .val (.int p3), .val (.int p4), .val (.int p5), .val (.int ((p5 &&& (2147483647 : Int32)) % (6 : Int32))), .unset, .unset, .unset, .unset, .unset, .unset] [(.int (1 : Int32)), (.ref b73), (.ref b73)])) (fun _ kz => XS.iconst X75.here hx rfl (hb hby at_21) kz) ?_
  refine Goes.step (T' := T75) (g' := (mkF m 23 #[.val (.int p0), .val (.int p1), .val (.int p2), .val (.int p3), .val (.int p4), .val (.int p5), .val (.int ((p5 &&& (2147483647 : Int32)) % (6 : Int32))), .unset, .unset, .unset, .unset, .unset, .unset] [(.int p1), (.int (1 : Int32)), (.ref b73), (.ref b73)])) (fun _ kz => XS.iloadN X75.here hx rfl (hb hby at_22) rfl  kz) ?_
  obtain ⟨_, _, ⟨T76, L76, k76, n76⟩, -, X76, ⟨Lc76, hQ76, l76, y76, z76⟩, st76⟩ := Jvm.LawKit.callS X75 hx (y := (⟨"com/example/demarcation/demarcation/component/NamedAnnotationSimpleNamePinLaw", "ch", "(I)C"⟩ : MethodName)) hown (mvT hZ (hw _ (List.mem_of_getElem? (i := 2) rfl))) (mvT hZ (hw _ (List.mem_of_getElem? (i := 3) rfl))) (mvT hZ (hw _ (List.mem_of_getElem? (i := 4) rfl))) (mvT hZ (hw _ (List.mem_of_getElem? (i := 5) rfl))) (by decide) (backOf (W := 3) (rm_ch l Z a0 hw [] p1 h75 n0 O0  ) hZ (hw _ (List.mem_of_getElem? (i := 5) rfl)) (hw _ (List.mem_of_getElem? (i := 4) rfl)) (by decide) (by decide)) (g := (mkF m 23 #[.val (.int p0), .val (.int p1), .val (.int p2), .val (.int p3), .val (.int p4), .val (.int p5), .val (.int ((p5 &&& (2147483647 : Int32)) % (6 : Int32))), .unset, .unset, .unset, .unset, .unset, .unset] [(.int p1), (.int (1 : Int32)), (.ref b73), (.ref b73)])) rfl (by rw [hml]; rfl) (argsL := [(.int p1)]) (rest := [(.int (1 : Int32)), (.ref b73), (.ref b73)]) (lenOf pd_18 rfl) rfl (by show 2 * 0 + _ ≤ _; exact Nat.le_of_eq rfl) (hb hby at_23) (fun _ _ => ⟨rfl, e75, (by decide : 1 + 0 ≤ _), (by decide : 5 + 0 ≤ _)⟩)
  dsimp only [Pt.U, Pt.locs, Pt.cells, Pt.slots] at X76 l76 y76 z76 st76 hQ76
  subst l76 y76 z76
  obtain ⟨z_76, rfl, rfl, e76, hbz_76, hnz_76⟩ := hQ76
  replace N0 := Fr.app N0 (Fr.nil n0)
  refine Goes.step (T' := T76) (g' := (mkF m 26 #[.val (.int p0), .val (.int p1), .val (.int p2), .val (.int p3), .val (.int p4), .val (.int p5), .val (.int ((p5 &&& (2147483647 : Int32)) % (6 : Int32))), .unset, .unset, .unset, .unset, .unset, .unset] [(.int z_76), (.int (1 : Int32)), (.ref b73), (.ref b73)])) st76 ?_
  obtain ⟨cl77, Ar77, q77, Sz77, Nn77, Hs77, Gs77⟩ := (id V_b73 : Arv Z h75 b73 kc73 .char (5 : Int32) [(.int (nar .char z_74)), (.int (0 : Int32)), (.int (0 : Int32)), (.int (0 : Int32)), (.int (0 : Int32))] (.int (0 : Int32)))
  obtain ⟨T77, h77, X77, e77, W77, st77⟩ := stC X76 hx hZ e76 Ar77 (j := (1 : Int32)) (inb_of Sz77 ⟨by decide, by decide⟩) (g := (mkF m 26 #[.val (.int p0), .val (.int p1), .val (.int p2), .val (.int p3), .val (.int p4), .val (.int p5), .val (.int ((p5 &&& (2147483647 : Int32)) % (6 : Int32))), .unset, .unset, .unset, .unset, .unset, .unset] [(.int z_76), (.int (1 : Int32)), (.ref b73), (.ref b73)])) rfl rfl (hb hby at_26)
  replace V_b73 : Arv Z h77 b73 kc73 .char (5 : Int32) [(.int (nar .char z_74)), (.int (nar .char z_76)), (.int (0 : Int32)), (.int (0 : Int32)), (.int (0 : Int32))] (.int (0 : Int32)) := Arv.set Ar77 q77 Sz77 Nn77 Hs77 Gs77 (fits_nar_char _) W77 1 rfl (Nat.le_of_ble_eq_true rfl)
  replace N0 := Fr.snoc X77 N0 g_b73
  have Sw : Safe Z EL s.vm h75 b73 := S_b73
  replace S_b73 := Safe.wr W77 Sw C0.1 S_b73
  replace C0 := C0.trans (CHr.wr W77 Sw C0.1)
  replace hk0 := Nat.le_trans hk0 (Nat.le_of_eq W77.size.symm)
  replace O0 := O0.wr W77 g_b73
  replace K0 := K0.wr W77 (Or.inr sz_b73)
  refine Goes.step (T' := T77) (g' := (mkF m 27 #[.val (.int p0), .val (.int p1), .val (.int p2), .val (.int p3), .val (.int p4), .val (.int p5), .val (.int ((p5 &&& (2147483647 : Int32)) % (6 : Int32))), .unset, .unset, .unset, .unset, .unset, .unset] [(.ref b73)])) st77 ?_
  refine Goes.step (T' := T77) (g' := (mkF m 28 #[.val (.int p0), .val (.int p1), .val (.int p2), .val (.int p3), .val (.int p4), .val (.int p5), .val (.int ((p5 &&& (2147483647 : Int32)) % (6 : Int32))), .unset, .unset, .unset, .unset, .unset, .unset] [(.ref b73), (.ref b73)])) (fun _ kz => XS.dup X77.here hx rfl (hb hby at_27) rfl rfl kz) ?_
  refine Goes.step (T' := T77) (g' := (mkF m 29 #[.val (.int p0), .val (.int p1), .val (.int p2), .val (.int p3), .val (.int p4), .val (.int p5), .val (.int ((p5 &&& (2147483647 : Int32)) % (6 : Int32))), .unset, .unset, .unset, .unset, .unset, .unset] [(.int (2 : Int32)), (.ref b73), (.ref b73)])) (fun _ kz => XS.iconst X77.here hx rfl (hb hby at_28) kz) ?_
  refine Goes.step (T' := T77) (g' := (mkF m 30 #[.val (.int p0), .val (.int p1), .val (.int p2), .val (.int p3), .val (.int p4), .val (.int p5), .val (.int ((p5 &&& (2147483647 : Int32)) % (6 : Int32))), .unset, .unset, .unset, .unset, .unset, .unset] [(.int p2), (.int (2 : Int32)), (.ref b73), (.ref b73)])) (fun _ kz => XS.iloadN X77.here hx rfl (hb hby at_29) rfl  kz) ?_
  obtain ⟨_, _, ⟨T78, L78, k78, n78⟩, -, X78, ⟨Lc78, hQ78, l78, y78, z78⟩, st78⟩ := Jvm.LawKit.callS X77 hx (y := (⟨"com/example/demarcation/demarcation/component/NamedAnnotationSimpleNamePinLaw", "ch", "(I)C"⟩ : MethodName)) hown (mvT hZ (hw _ (List.mem_of_getElem? (i := 2) rfl))) (mvT hZ (hw _ (List.mem_of_getElem? (i := 3) rfl))) (mvT hZ (hw _ (List.mem_of_getElem? (i := 4) rfl))) (mvT hZ (hw _ (List.mem_of_getElem? (i := 5) rfl))) (by decide) (backOf (W := 3) (rm_ch l Z a0 hw [] p2 h77 n0 O0  ) hZ (hw _ (List.mem_of_getElem? (i := 5) rfl)) (hw _ (List.mem_of_getElem? (i := 4) rfl)) (by decide) (by decide)) (g := (mkF m 30 #[.val (.int p0), .val (.int p1), .val (.int p2), .val (.int p3), .val (.int p4), .val (.int p5), .val (.int ((p5 &&& (2147483647 : Int32)) % (6 : Int32))), .unset, .unset, .unset, .unset, .unset, .unset] [(.int p2), (.int (2 : Int32)), (.ref b73), (.ref b73)])) rfl (by rw [hml]; rfl) (argsL := [(.int p2)]) (rest := [(.int (2 : Int32)), (.ref b73), (.ref b73)]) (lenOf pd_18 rfl) rfl (by show 2 * 0 + _ ≤ _; exact Nat.le_of_eq rfl) (hb hby at_30) (fun _ _ => ⟨rfl, e77, (by decide : 1 + 0 ≤ _), (by decide : 5 + 0 ≤ _)⟩)
  dsimp only [Pt.U, Pt.locs, Pt.cells, Pt.slots] at X78 l78 y78 z78 st78 hQ78
  subst l78 y78 z78
  obtain ⟨z_78, rfl, rfl, e78, hbz_78, hnz_78⟩ := hQ78
  replace N0 := Fr.app N0 (Fr.nil n0)
  refine Goes.step (T' := T78) (g' := (mkF m 33 #[.val (.int p0), .val (.int p1), .val (.int p2), .val (.int p3), .val (.int p4), .val (.int p5), .val (.int ((p5 &&& (2147483647 : Int32)) % (6 : Int32))), .unset, .unset, .unset, .unset, .unset, .unset] [(.int z_78), (.int (2 : Int32)), (.ref b73), (.ref b73)])) st78 ?_
  obtain ⟨cl79, Ar79, q79, Sz79, Nn79, Hs79, Gs79⟩ := (id V_b73 : Arv Z h77 b73 kc73 .char (5 : Int32) [(.int (nar .char z_74)), (.int (nar .char z_76)), (.int (0 : Int32)), (.int (0 : Int32)), (.int (0 : Int32))] (.int (0 : Int32)))
  obtain ⟨T79, h79, X79, e79, W79, st79⟩ := stC X78 hx hZ e78 Ar79 (j := (2 : Int32)) (inb_of Sz79 ⟨by decide, by decide⟩) (g := (mkF m 33 #[.val (.int p0), .val (.int p1), .val (.int p2), .val (.int p3), .val (.int p4), .val (.int p5), .val (.int ((p5 &&& (2147483647 : Int32)) % (6 : Int32))), .unset, .unset, .unset, .unset, .unset, .unset] [(.int z_78), (.int (2 : Int32)), (.ref b73), (.ref b73)])) rfl rfl (hb hby at_33)
  replace V_b73 : Arv Z h79 b73 kc73 .char (5 : Int32) [(.int (nar .char z_74)), (.int (nar .char z_76)), (.int (nar .char z_78)), (.int (0 : Int32)), (.int (0 : Int32))] (.int (0 : Int32)) := Arv.set Ar79 q79 Sz79 Nn79 Hs79 Gs79 (fits_nar_char _) W79 2 rfl (Nat.le_of_ble_eq_true rfl)
  replace N0 := Fr.snoc X79 N0 g_b73
  have Sw : Safe Z EL s.vm h77 b73 := S_b73
  replace S_b73 := Safe.wr W79 Sw C0.1 S_b73
  replace C0 := C0.trans (CHr.wr W79 Sw C0.1)
  replace hk0 := Nat.le_trans hk0 (Nat.le_of_eq W79.size.symm)
  replace O0 := O0.wr W79 g_b73
  replace K0 := K0.wr W79 (Or.inr sz_b73)
  refine Goes.step (T' := T79) (g' := (mkF m 34 #[.val (.int p0), .val (.int p1), .val (.int p2), .val (.int p3), .val (.int p4), .val (.int p5), .val (.int ((p5 &&& (2147483647 : Int32)) % (6 : Int32))), .unset, .unset, .unset, .unset, .unset, .unset] [(.ref b73)])) st79 ?_
  refine Goes.step (T' := T79) (g' := (mkF m 35 #[.val (.int p0), .val (.int p1), .val (.int p2), .val (.int p3), .val (.int p4), .val (.int p5), .val (.int ((p5 &&& (2147483647 : Int32)) % (6 : Int32))), .unset, .unset, .unset, .unset, .unset, .unset] [(.ref b73), (.ref b73)])) (fun _ kz => XS.dup X79.here hx rfl (hb hby at_34) rfl rfl kz) ?_
  refine Goes.step (T' := T79) (g' := (mkF m 36 #[.val (.int p0), .val (.int p1), .val (.int p2), .val (.int p3), .val (.int p4), .val (.int p5), .val (.int ((p5 &&& (2147483647 : Int32)) % (6 : Int32))), .unset, .unset, .unset, .unset, .unset, .unset] [(.int (3 : Int32)), (.ref b73), (.ref b73)])) (fun _ kz => XS.iconst X79.here hx rfl (hb hby at_35) kz) ?_
  refine Goes.step (T' := T79) (g' := (mkF m 37 #[.val (.int p0), .val (.int p1), .val (.int p2), .val (.int p3), .val (.int p4), .val (.int p5), .val (.int ((p5 &&& (2147483647 : Int32)) % (6 : Int32))), .unset, .unset, .unset, .unset, .unset, .unset] [(.int p3), (.int (3 : Int32)), (.ref b73), (.ref b73)])) (fun _ kz => XS.iloadN X79.here hx rfl (hb hby at_36) rfl  kz) ?_
  obtain ⟨_, _, ⟨T80, L80, k80, n80⟩, -, X80, ⟨Lc80, hQ80, l80, y80, z80⟩, st80⟩ := Jvm.LawKit.callS X79 hx (y := (⟨"com/example/demarcation/demarcation/component/NamedAnnotationSimpleNamePinLaw", "ch", "(I)C"⟩ : MethodName)) hown (mvT hZ (hw _ (List.mem_of_getElem? (i := 2) rfl))) (mvT hZ (hw _ (List.mem_of_getElem? (i := 3) rfl))) (mvT hZ (hw _ (List.mem_of_getElem? (i := 4) rfl))) (mvT hZ (hw _ (List.mem_of_getElem? (i := 5) rfl))) (by decide) (backOf (W := 3) (rm_ch l Z a0 hw [] p3 h79 n0 O0  ) hZ (hw _ (List.mem_of_getElem? (i := 5) rfl)) (hw _ (List.mem_of_getElem? (i := 4) rfl)) (by decide) (by decide)) (g := (mkF m 37 #[.val (.int p0), .val (.int p1), .val (.int p2), .val (.int p3), .val (.int p4), .val (.int p5), .val (.int ((p5 &&& (2147483647 : Int32)) % (6 : Int32))), .unset, .unset, .unset, .unset, .unset, .unset] [(.int p3), (.int (3 : Int32)), (.ref b73), (.ref b73)])) rfl (by rw [hml]; rfl) (argsL := [(.int p3)]) (rest := [(.int (3 : Int32)), (.ref b73), (.ref b73)]) (lenOf pd_18 rfl) rfl (by show 2 * 0 + _ ≤ _; exact Nat.le_of_eq rfl) (hb hby at_37) (fun _ _ => ⟨rfl, e79, (by decide : 1 + 0 ≤ _), (by decide : 5 + 0 ≤ _)⟩)
  dsimp only [Pt.U, Pt.locs, Pt.cells, Pt.slots] at X80 l80 y80 z80 st80 hQ80
  subst l80 y80 z80
  obtain ⟨z_80, rfl, rfl, e80, hbz_80, hnz_80⟩ := hQ80
  replace N0 := Fr.app N0 (Fr.nil n0)
  refine Goes.step (T' := T80) (g' := (mkF m 40 #[.val (.int p0), .val (.int p1), .val (.int p2), .val (.int p3), .val (.int p4), .val (.int p5), .val (.int ((p5 &&& (2147483647 : Int32)) % (6 : Int32))), .unset, .unset, .unset, .unset, .unset, .unset] [(.int z_80), (.int (3 : Int32)), (.ref b73), (.ref b73)])) st80 ?_
  obtain ⟨cl81, Ar81, q81, Sz81, Nn81, Hs81, Gs81⟩ := (id V_b73 : Arv Z h79 b73 kc73 .char (5 : Int32) [(.int (nar .char z_74)), (.int (nar .char z_76)), (.int (nar .char z_78)), (.int (0 : Int32)), (.int (0 : Int32))] (.int (0 : Int32)))
  obtain ⟨T81, h81, X81, e81, W81, st81⟩ := stC X80 hx hZ e80 Ar81 (j := (3 : Int32)) (inb_of Sz81 ⟨by decide, by decide⟩) (g := (mkF m 40 #[.val (.int p0), .val (.int p1), .val (.int p2), .val (.int p3), .val (.int p4), .val (.int p5), .val (.int ((p5 &&& (2147483647 : Int32)) % (6 : Int32))), .unset, .unset, .unset, .unset, .unset, .unset] [(.int z_80), (.int (3 : Int32)), (.ref b73), (.ref b73)])) rfl rfl (hb hby at_40)
  replace V_b73 : Arv Z h81 b73 kc73 .char (5 : Int32) [(.int (nar .char z_74)), (.int (nar .char z_76)), (.int (nar .char z_78)), (.int (nar .char z_80)), (.int (0 : Int32))] (.int (0 : Int32)) := Arv.set Ar81 q81 Sz81 Nn81 Hs81 Gs81 (fits_nar_char _) W81 3 rfl (Nat.le_of_ble_eq_true rfl)
  replace N0 := Fr.snoc X81 N0 g_b73
  have Sw : Safe Z EL s.vm h79 b73 := S_b73
  replace S_b73 := Safe.wr W81 Sw C0.1 S_b73
  replace C0 := C0.trans (CHr.wr W81 Sw C0.1)
  replace hk0 := Nat.le_trans hk0 (Nat.le_of_eq W81.size.symm)
  replace O0 := O0.wr W81 g_b73
  replace K0 := K0.wr W81 (Or.inr sz_b73)
  refine Goes.step (T' := T81) (g' := (mkF m 41 #[.val (.int p0), .val (.int p1), .val (.int p2), .val (.int p3), .val (.int p4), .val (.int p5), .val (.int ((p5 &&& (2147483647 : Int32)) % (6 : Int32))), .unset, .unset, .unset, .unset, .unset, .unset] [(.ref b73)])) st81 ?_
  refine Goes.step (T' := T81) (g' := (mkF m 42 #[.val (.int p0), .val (.int p1), .val (.int p2), .val (.int p3), .val (.int p4), .val (.int p5), .val (.int ((p5 &&& (2147483647 : Int32)) % (6 : Int32))), .unset, .unset, .unset, .unset, .unset, .unset] [(.ref b73), (.ref b73)])) (fun _ kz => XS.dup X81.here hx rfl (hb hby at_41) rfl rfl kz) ?_
  refine Goes.step (T' := T81) (g' := (mkF m 43 #[.val (.int p0), .val (.int p1), .val (.int p2), .val (.int p3), .val (.int p4), .val (.int p5), .val (.int ((p5 &&& (2147483647 : Int32)) % (6 : Int32))), .unset, .unset, .unset, .unset, .unset, .unset] [(.int (4 : Int32)), (.ref b73), (.ref b73)])) (fun _ kz => XS.iconst X81.here hx rfl (hb hby at_42) kz) ?_
  refine Goes.step (T' := T81) (g' := (mkF m 45 #[.val (.int p0), .val (.int p1), .val (.int p2), .val (.int p3), .val (.int p4), .val (.int p5), .val (.int ((p5 &&& (2147483647 : Int32)) % (6 : Int32))), .unset, .unset, .unset, .unset, .unset, .unset] [(.int p4), (.int (4 : Int32)), (.ref b73), (.ref b73)])) (fun _ kz => XS.iload X81.here hx rfl (hb hby at_43) rfl  kz) ?_
  obtain ⟨_, _, ⟨T82, L82, k82, n82⟩, -, X82, ⟨Lc82, hQ82, l82, y82, z82⟩, st82⟩ := Jvm.LawKit.callS X81 hx (y := (⟨"com/example/demarcation/demarcation/component/NamedAnnotationSimpleNamePinLaw", "ch", "(I)C"⟩ : MethodName)) hown (mvT hZ (hw _ (List.mem_of_getElem? (i := 2) rfl))) (mvT hZ (hw _ (List.mem_of_getElem? (i := 3) rfl))) (mvT hZ (hw _ (List.mem_of_getElem? (i := 4) rfl))) (mvT hZ (hw _ (List.mem_of_getElem? (i := 5) rfl))) (by decide) (backOf (W := 3) (rm_ch l Z a0 hw [] p4 h81 n0 O0  ) hZ (hw _ (List.mem_of_getElem? (i := 5) rfl)) (hw _ (List.mem_of_getElem? (i := 4) rfl)) (by decide) (by decide)) (g := (mkF m 45 #[.val (.int p0), .val (.int p1), .val (.int p2), .val (.int p3), .val (.int p4), .val (.int p5), .val (.int ((p5 &&& (2147483647 : Int32)) % (6 : Int32))), .unset, .unset, .unset, .unset, .unset, .unset] [(.int p4), (.int (4 : Int32)), (.ref b73), (.ref b73)])) rfl (by rw [hml]; rfl) (argsL := [(.int p4)]) (rest := [(.int (4 : Int32)), (.ref b73), (.ref b73)]) (lenOf pd_18 rfl) rfl (by show 2 * 0 + _ ≤ _; exact Nat.le_of_eq rfl) (hb hby at_45) (fun _ _ => ⟨rfl, e81, (by decide : 1 + 0 ≤ _), (by decide : 5 + 0 ≤ _)⟩)
  dsimp only [Pt.U, Pt.locs, Pt.cells, Pt.slots] at X82 l82 y82 z82 st82 hQ82
  subst l82 y82 z82
  obtain ⟨z_82, rfl, rfl, e82, hbz_82, hnz_82⟩ := hQ82
  replace N0 := Fr.app N0 (Fr.nil n0)
  refine Goes.step (T' := T82) (g' := (mkF m 48 #[.val (.int p0), .val (.int p1), .val (.int p2), .val (.int p3), .val (.int p4), .val (.int p5), .val (.int ((p5 &&& (2147483647 : Int32)) % (6 : Int32))), .unset, .unset, .unset, .unset, .unset, .unset] [(.int z_82), (.int (4 : Int32)), (.ref b73), (.ref b73)])) st82 ?_
  obtain ⟨cl83, Ar83, q83, Sz83, Nn83, Hs83, Gs83⟩ := (id V_b73 : Arv Z h81 b73 kc73 .char (5 : Int32) [(.int (nar .char z_74)), (.int (nar .char z_76)), (.int (nar .char z_78)), (.int (nar .char z_80)), (.int (0 : Int32))] (.int (0 : Int32)))
  obtain ⟨T83, h83, X83, e83, W83, st83⟩ := stC X82 hx hZ e82 Ar83 (j := (4 : Int32)) (inb_of Sz83 ⟨by decide, by decide⟩) (g := (mkF m 48 #[.val (.int p0), .val (.int p1), .val (.int p2), .val (.int p3), .val (.int p4), .val (.int p5), .val (.int ((p5 &&& (2147483647 : Int32)) % (6 : Int32))), .unset, .unset, .unset, .unset, .unset, .unset] [(.int z_82), (.int (4 : Int32)), (.ref b73), (.ref b73)])) rfl rfl (hb hby at_48)
  replace V_b73 : Arv Z h83 b73 kc73 .char (5 : Int32) [(.int (nar .char z_74)), (.int (nar .char z_76)), (.int (nar .char z_78)), (.int (nar .char z_80)), (.int (nar .char z_82))] (.int (0 : Int32)) := Arv.set Ar83 q83 Sz83 Nn83 Hs83 Gs83 (fits_nar_char _) W83 4 rfl (Nat.le_of_ble_eq_true rfl)
  replace N0 := Fr.snoc X83 N0 g_b73
  have Sw : Safe Z EL s.vm h81 b73 := S_b73
  replace S_b73 := Safe.wr W83 Sw C0.1 S_b73
  replace C0 := C0.trans (CHr.wr W83 Sw C0.1)
  replace hk0 := Nat.le_trans hk0 (Nat.le_of_eq W83.size.symm)
  replace O0 := O0.wr W83 g_b73
  replace K0 := K0.wr W83 (Or.inr sz_b73)
  refine Goes.step (T' := T83) (g' := (mkF m 49 #[.val (.int p0), .val (.int p1), .val (.int p2), .val (.int p3), .val (.int p4), .val (.int p5), .val (.int ((p5 &&& (2147483647 : Int32)) % (6 : Int32))), .unset, .unset, .unset, .unset, .unset, .unset] [(.ref b73)])) st83 ?_
  rw [hnz_74, hnz_76, hnz_78, hnz_80, hnz_82] at V_b73
  refine Goes.step (T' := T83) (g' := (mkF m 51 #[.val (.int p0), .val (.int p1), .val (.int p2), .val (.int p3), .val (.int p4), .val (.int p5), .val (.int ((p5 &&& (2147483647 : Int32)) % (6 : Int32))), .val (.ref b73), .unset, .unset, .unset, .unset, .unset] [])) (fun _ kz => XS.astore X83.here hx rfl (hb hby at_49) rfl rfl (l' := #[.val (.int p0), .val (.int p1), .val (.int p2), .val (.int p3), .val (.int p4), .val (.int p5), .val (.int ((p5 &&& (2147483647 : Int32)) % (6 : Int32))), .val (.ref b73), .unset, .unset, .unset, .unset, .unset]) rfl kz) ?_
  by_cases hz6 : ((p5 &&& (2147483647 : Int32)) % (6 : Int32)) = (0 : Int32)
  ·
    rw [hz6]
    refine Goes.step (T' := T83) (g' := (mkF m 53 #[.val (.int p0), .val (.int p1), .val (.int p2), .val (.int p3), .val (.int p4), .val (.int p5), .val (.int (0 : Int32)), .val (.ref b73), .unset, .unset, .unset, .unset, .unset] [(.int (0 : Int32))])) (fun _ kz => XS.iload X83.here hx rfl (hb hby at_51) rfl  kz) ?_
    obtain ⟨T84, h84, kc84, X84, e84, Ex84, A84, st84⟩ := newP X83 hx hZ (hw _ (List.mem_of_getElem? (i := 1) rfl)) e83 (g := (mkF m 53 #[.val (.int p0), .val (.int p1), .val (.int p2), .val (.int p3), .val (.int p4), .val (.int p5), .val (.int (0 : Int32)), .val (.ref b73), .unset, .unset, .unset, .unset, .unset] [(.int (0 : Int32))])) rfl (hb hby at_53) rfl (by decide) (cap := 0) (by decide) (by decide) (by decide) (by decide)
    obtain ⟨b84, gg84⟩ : ∃ z, z = h83.size := ⟨_, rfl⟩
    rw [← gg84] at A84 st84
    have g_b84 : n0 ≤ b84 := Nat.le_trans (own_n0 O0) (Nat.le_of_eq gg84.symm)
    have sz_b84 : h0.size ≤ b84 := Nat.le_trans K0.1 (Nat.le_of_eq gg84.symm)
    have ne_b73_b84 : b73 ≠ b84 := Nat.ne_of_lt (Nat.lt_of_lt_of_le V_b73.lt (Nat.le_of_eq gg84.symm))
    have S_b84 := (Safe.new (Z := Z) (EL := EL) (vm := s.vm) (Nat.le_of_eq gg84.symm)).ext Ex84 C0.1
    replace S_b73 := S_b73.ext Ex84 C0.1
    replace V_b73 := V_b73.ext Ex84
    replace O0 := O0.ext Ex84
    replace K0 := K0.ext Ex84
    replace C0 := C0.trans (CHr.ext Ex84 C0.1)
    replace hk0 := Nat.le_trans hk0 Ex84.1
    have V_b84 : Arv Z h84 b84 kc84 .char (0 : Int32) [] (.int (0 : Int32)) := (Arv.new A84 (by decide)).pad (pad_rep [] (.int (0 : Int32)) 0)
    refine Goes.step (T' := T84) (g' := (mkF m 55 #[.val (.int p0), .val (.int p1), .val (.int p2), .val (.int p3), .val (.int p4), .val (.int p5), .val (.int (0 : Int32)), .val (.ref b73), .unset, .unset, .unset, .unset, .unset] [(.ref b84)])) st84 ?_
    refine Goes.step (T' := T84) (g' := (mkF m 57 #[.val (.int p0), .val (.int p1), .val (.int p2), .val (.int p3), .val (.int p4), .val (.int p5), .val (.int (0 : Int32)), .val (.ref b73), .val (.ref b84), .unset, .unset, .unset, .unset] [])) (fun _ kz => XS.astore X84.here hx rfl (hb hby at_55) rfl rfl (l' := #[.val (.int p0), .val (.int p1), .val (.int p2), .val (.int p3), .val (.int p4), .val (.int p5), .val (.int (0 : Int32)), .val (.ref b73), .val (.ref b84), .unset, .unset, .unset, .unset]) rfl kz) ?_
    refine Goes.step (T' := T84) (g' := (mkF m 59 #[.val (.int p0), .val (.int p1), .val (.int p2), .val (.int p3), .val (.int p4), .val (.int p5), .val (.int (0 : Int32)), .val (.ref b73), .val (.ref b84), .unset, .unset, .unset, .unset] [(.int (0 : Int32))])) (fun _ kz => XS.iload X84.here hx rfl (hb hby at_57) rfl  kz) ?_
    refine Goes.step (T' := T84) (g' := (mkF m 70 #[.val (.int p0), .val (.int p1), .val (.int p2), .val (.int p3), .val (.int p4), .val (.int p5), .val (.int (0 : Int32)), .val (.ref b73), .val (.ref b84), .unset, .unset, .unset, .unset] [])) (fun _ kz => XS.ifYes X84.here hx rfl (pc0 := 59) (pc' := 70) rfl (hb hby at_59) rfl ((if0 _ _).trans (flt (by decide : ¬ ((0 : Int32) < (0 : Int32)))).2.2.2) (by decide) (by decide) kz) ?_
    refine Goes.step (T' := T84) (g' := (mkF m 72 #[.val (.int p0), .val (.int p1), .val (.int p2), .val (.int p3), .val (.int p4), .val (.int p5), .val (.int (0 : Int32)), .val (.ref b73), .val (.ref b84), .unset, .unset, .unset, .unset] [(.int (0 : Int32))])) (fun _ kz => XS.iload X84.here hx rfl (hb hby at_70) rfl  kz) ?_
    refine Goes.step (T' := T84) (g' := (mkF m 73 #[.val (.int p0), .val (.int p1), .val (.int p2), .val (.int p3), .val (.int p4), .val (.int p5), .val (.int (0 : Int32)), .val (.ref b73), .val (.ref b84), .unset, .unset, .unset, .unset] [(.int (1 : Int32)), (.int (0 : Int32))])) (fun _ kz => XS.iconst X84.here hx rfl (hb hby at_72) kz) ?_
    refine Goes.step (T' := T84) (g' := (mkF m 84 #[.val (.int p0), .val (.int p1), .val (.int p2), .val (.int p3), .val (.int p4), .val (.int p5), .val (.int (0 : Int32)), .val (.ref b73), .val (.ref b84), .unset, .unset, .unset, .unset] [])) (fun _ kz => XS.icmpYes X84.here hx rfl (pc0 := 73) (pc' := 84) rfl (hb hby at_73) rfl (flt (by decide : ¬ ((1 : Int32) < (0 : Int32)))).2.2.2 (by decide) (by decide) kz) ?_
    refine Goes.step (T' := T84) (g' := (mkF m 86 #[.val (.int p0), .val (.int p1), .val (.int p2), .val (.int p3), .val (.int p4), .val (.int p5), .val (.int (0 : Int32)), .val (.ref b73), .val (.ref b84), .unset, .unset, .unset, .unset] [(.int (0 : Int32))])) (fun _ kz => XS.iload X84.here hx rfl (hb hby at_84) rfl  kz) ?_
    refine Goes.step (T' := T84) (g' := (mkF m 87 #[.val (.int p0), .val (.int p1), .val (.int p2), .val (.int p3), .val (.int p4), .val (.int p5), .val (.int (0 : Int32)), .val (.ref b73), .val (.ref b84), .unset, .unset, .unset, .unset] [(.int (2 : Int32)), (.int (0 : Int32))])) (fun _ kz => XS.iconst X84.here hx rfl (hb hby at_86) kz) ?_
    refine Goes.step (T' := T84) (g' := (mkF m 98 #[.val (.int p0), .val (.int p1), .val (.int p2), .val (.int p3), .val (.int p4), .val (.int p5), .val (.int (0 : Int32)), .val (.ref b73), .val (.ref b84), .unset, .unset, .unset, .unset] [])) (fun _ kz => XS.icmpYes X84.here hx rfl (pc0 := 87) (pc' := 98) rfl (hb hby at_87) rfl (flt (by decide : ¬ ((2 : Int32) < (0 : Int32)))).2.2.2 (by decide) (by decide) kz) ?_
    refine Goes.step (T' := T84) (g' := (mkF m 100 #[.val (.int p0), .val (.int p1), .val (.int p2), .val (.int p3), .val (.int p4), .val (.int p5), .val (.int (0 : Int32)), .val (.ref b73), .val (.ref b84), .unset, .unset, .unset, .unset] [(.int (0 : Int32))])) (fun _ kz => XS.iload X84.here hx rfl (hb hby at_98) rfl  kz) ?_
    refine Goes.step (T' := T84) (g' := (mkF m 101 #[.val (.int p0), .val (.int p1), .val (.int p2), .val (.int p3), .val (.int p4), .val (.int p5), .val (.int (0 : Int32)), .val (.ref b73), .val (.ref b84), .unset, .unset, .unset, .unset] [(.int (3 : Int32)), (.int (0 : Int32))])) (fun _ kz => XS.iconst X84.here hx rfl (hb hby at_100) kz) ?_
    refine Goes.step (T' := T84) (g' := (mkF m 112 #[.val (.int p0), .val (.int p1), .val (.int p2), .val (.int p3), .val (.int p4), .val (.int p5), .val (.int (0 : Int32)), .val (.ref b73), .val (.ref b84), .unset, .unset, .unset, .unset] [])) (fun _ kz => XS.icmpYes X84.here hx rfl (pc0 := 101) (pc' := 112) rfl (hb hby at_101) rfl (flt (by decide : ¬ ((3 : Int32) < (0 : Int32)))).2.2.2 (by decide) (by decide) kz) ?_
    refine Goes.step (T' := T84) (g' := (mkF m 114 #[.val (.int p0), .val (.int p1), .val (.int p2), .val (.int p3), .val (.int p4), .val (.int p5), .val (.int (0 : Int32)), .val (.ref b73), .val (.ref b84), .unset, .unset, .unset, .unset] [(.int (0 : Int32))])) (fun _ kz => XS.iload X84.here hx rfl (hb hby at_112) rfl  kz) ?_
    refine Goes.step (T' := T84) (g' := (mkF m 115 #[.val (.int p0), .val (.int p1), .val (.int p2), .val (.int p3), .val (.int p4), .val (.int p5), .val (.int (0 : Int32)), .val (.ref b73), .val (.ref b84), .unset, .unset, .unset, .unset] [(.int (4 : Int32)), (.int (0 : Int32))])) (fun _ kz => XS.iconst X84.here hx rfl (hb hby at_114) kz) ?_
    refine Goes.step (T' := T84) (g' := (mkF m 126 #[.val (.int p0), .val (.int p1), .val (.int p2), .val (.int p3), .val (.int p4), .val (.int p5), .val (.int (0 : Int32)), .val (.ref b73), .val (.ref b84), .unset, .unset, .unset, .unset] [])) (fun _ kz => XS.icmpYes X84.here hx rfl (pc0 := 115) (pc' := 126) rfl (hb hby at_115) rfl (flt (by decide : ¬ ((4 : Int32) < (0 : Int32)))).2.2.2 (by decide) (by decide) kz) ?_
    obtain ⟨T85, h85, X85, e85, Ex85, A85, D85, -, st85⟩ := newO X84 hx hZ hown (hw _ (List.mem_of_getElem? (i := 6) rfl)) (hw _ (List.mem_of_getElem? (i := 7) rfl)) (hw _ (List.mem_of_getElem? (i := 8) rfl)) e84 (g := (mkF m 126 #[.val (.int p0), .val (.int p1), .val (.int p2), .val (.int p3), .val (.int p4), .val (.int p5), .val (.int (0 : Int32)), .val (.ref b73), .val (.ref b84), .unset, .unset, .unset, .unset] [])) rfl (hb hby at_126) (by decide) (by decide)
    obtain ⟨b85, gg85⟩ : ∃ z, z = h84.size := ⟨_, rfl⟩
    rw [← gg85] at A85 D85 st85
    have g_b85 : n0 ≤ b85 := Nat.le_trans (own_n0 O0) (Nat.le_of_eq gg85.symm)
    have sz_b85 : h0.size ≤ b85 := Nat.le_trans K0.1 (Nat.le_of_eq gg85.symm)
    have ne_b73_b85 : b73 ≠ b85 := Nat.ne_of_lt (Nat.lt_of_lt_of_le V_b73.lt (Nat.le_of_eq gg85.symm))
    have ne_b84_b85 : b84 ≠ b85 := Nat.ne_of_lt (Nat.lt_of_lt_of_le V_b84.lt (Nat.le_of_eq gg85.symm))
    have S_b85 := (Safe.new (Z := Z) (EL := EL) (vm := s.vm) (Nat.le_of_eq gg85.symm)).ext Ex85 C0.1
    replace S_b73 := S_b73.ext Ex85 C0.1
    replace S_b84 := S_b84.ext Ex85 C0.1
    replace V_b73 := V_b73.ext Ex85
    replace V_b84 := V_b84.ext Ex85
    replace O0 := O0.ext Ex85
    replace K0 := K0.ext Ex85
    replace C0 := C0.trans (CHr.ext Ex85 C0.1)
    replace hk0 := Nat.le_trans hk0 Ex85.1
    have E_b85 := A85
    have F_b85_type : Fld Z h85 b85 NAC "type" "Ljava/lang/String;" .null := D85 (Or.inr (hw _ (List.mem_of_getElem? (i := 59) rfl))) (ty := (.object "java/lang/String")) (by decide)
    have F_b85_values : Fld Z h85 b85 NAC "values" "Ljava/util/Map;" .null := D85 (Or.inr (hw _ (List.mem_of_getElem? (i := 85) rfl))) (ty := (.object "java/util/Map")) (by decide)
    refine Goes.step (T' := T85) (g' := (mkF m 129 #[.val (.int p0), .val (.int p1), .val (.int p2), .val (.int p3), .val (.int p4), .val (.int p5), .val (.int (0 : Int32)), .val (.ref b73), .val (.ref b84), .unset, .unset, .unset, .unset] [(.ref b85)])) st85 ?_
    clear D85 A85
    refine Goes.step (T' := T85) (g' := (mkF m 130 #[.val (.int p0), .val (.int p1), .val (.int p2), .val (.int p3), .val (.int p4), .val (.int p5), .val (.int (0 : Int32)), .val (.ref b73), .val (.ref b84), .unset, .unset, .unset, .unset] [(.ref b85), (.ref b85)])) (fun _ kz => XS.dup X85.here hx rfl (hb hby at_129) rfl rfl kz) ?_
    obtain ⟨T86, h86, X86, e86, Ex86, A86, D86, -, st86⟩ := newO X85 hx hZ hown (hw _ (List.mem_of_getElem? (i := 9) rfl)) (hw _ (List.mem_of_getElem? (i := 10) rfl)) (hw _ (List.mem_of_getElem? (i := 11) rfl)) e85 (g := (mkF m 130 #[.val (.int p0), .val (.int p1), .val (.int p2), .val (.int p3), .val (.int p4), .val (.int p5), .val (.int (0 : Int32)), .val (.ref b73), .val (.ref b84), .unset, .unset, .unset, .unset] [(.ref b85), (.ref b85)])) rfl (hb hby at_130) (by decide) (by decide)
    obtain ⟨b86, gg86⟩ : ∃ z, z = h85.size := ⟨_, rfl⟩
    rw [← gg86] at A86 D86 st86
    have g_b86 : n0 ≤ b86 := Nat.le_trans (own_n0 O0) (Nat.le_of_eq gg86.symm)
    have sz_b86 : h0.size ≤ b86 := Nat.le_trans K0.1 (Nat.le_of_eq gg86.symm)
    have ne_b73_b86 : b73 ≠ b86 := Nat.ne_of_lt (Nat.lt_of_lt_of_le V_b73.lt (Nat.le_of_eq gg86.symm))
    have ne_b84_b86 : b84 ≠ b86 := Nat.ne_of_lt (Nat.lt_of_lt_of_le V_b84.lt (Nat.le_of_eq gg86.symm))
    have ne_b85_b86 : b85 ≠ b86 := Nat.ne_of_lt (Nat.lt_of_lt_of_le E_b85.lt (Nat.le_of_eq gg86.symm))
    have S_b86 := (Safe.new (Z := Z) (EL := EL) (vm := s.vm) (Nat.le_of_eq gg86.symm)).ext Ex86 C0.1
    replace S_b73 := S_b73.ext Ex86 C0.1
    replace S_b84 := S_b84.ext Ex86 C0.1
    replace S_b85 := S_b85.ext Ex86 C0.1
    replace V_b73 := V_b73.ext Ex86
    replace V_b84 := V_b84.ext Ex86
    replace E_b85 := E_b85.ext Ex86
    replace F_b85_type := F_b85_type.ext Ex86
    replace F_b85_values := F_b85_values.ext Ex86
    replace O0 := O0.ext Ex86
    replace K0 := K0.ext Ex86
    replace C0 := C0.trans (CHr.ext Ex86 C0.1)
    replace hk0 := Nat.le_trans hk0 Ex86.1
    have E_b86 := A86
    have F_b86_coder : Fld Z h86 b86 "java/lang/String" "coder" "B" (.int (0 : Int32)) := D86 (Or.inr (hw _ (List.mem_of_getElem? (i := 35) rfl))) (ty := .byte) (by decide)
    have F_b86_value : Fld Z h86 b86 "java/lang/String" "value" "[B" .null := D86 (Or.inr (hw _ (List.mem_of_getElem? (i := 37) rfl))) (ty := (.array .byte)) (by decide)
    refine Goes.step (T' := T86) (g' := (mkF m 133 #[.val (.int p0), .val (.int p1), .val (.int p2), .val (.int p3), .val (.int p4), .val (.int p5), .val (.int (0 : Int32)), .val (.ref b73), .val (.ref b84), .unset, .unset, .unset, .unset] [(.ref b86), (.ref b85), (.ref b85)])) st86 ?_
    clear D86 A86
    refine Goes.step (T' := T86) (g' := (mkF m 134 #[.val (.int p0), .val (.int p1), .val (.int p2), .val (.int p3), .val (.int p4), .val (.int p5), .val (.int (0 : Int32)), .val (.ref b73), .val (.ref b84), .unset, .unset, .unset, .unset] [(.ref b86), (.ref b86), (.ref b85), (.ref b85)])) (fun _ kz => XS.dup X86.here hx rfl (hb hby at_133) rfl rfl kz) ?_
    refine Goes.step (T' := T86) (g' := (mkF m 136 #[.val (.int p0), .val (.int p1), .val (.int p2), .val (.int p3), .val (.int p4), .val (.int p5), .val (.int (0 : Int32)), .val (.ref b73), .val (.ref b84), .unset, .unset, .unset, .unset] [(.ref b84), (.ref b86), (.ref b86), (.ref b85), (.ref b85)])) (fun _ kz => XS.aload X86.here hx rfl (hb hby at_134) rfl rfl kz) ?_
    obtain ⟨_, _, ⟨T87, L87, k87, n87⟩, -, X87, hS87, hgr87, ⟨Lc87, hQ87, l87, y87, z87, Ch87⟩, st87⟩ := X86.specialBackS hx (y := (⟨"java/lang/String", "<init>", "([C)V"⟩ : MethodName)) rfl hown (mvT hZ (hw _ (List.mem_of_getElem? (i := 12) rfl))) (mvT hZ (hw _ (List.mem_of_getElem? (i := 13) rfl))) (mvT hZ (hw _ (List.mem_of_getElem? (i := 14) rfl))) (by decide) (backOfSH (W := 3) (rm_initCe l Z a0 hw [] hEL b86 b84 (kc84) ((.int (0 : Int32))) h86 n0 O0  E_b86 F_b86_value F_b86_coder V_b84 ne_b84_b86 g_b86) hZ (hw _ (List.mem_of_getElem? (i := 14) rfl)) (hw _ (List.mem_of_getElem? (i := 11) rfl)) (by decide) (by decide) hEL C0.1) (g := (mkF m 136 #[.val (.int p0), .val (.int p1), .val (.int p2), .val (.int p3), .val (.int p4), .val (.int p5), .val (.int (0 : Int32)), .val (.ref b73), .val (.ref b84), .unset, .unset, .unset, .unset] [(.ref b84), (.ref b86), (.ref b86), (.ref b85), (.ref b85)])) rfl (by rw [hml]; rfl) (Steps.refl _) (a := b86) (argsL := [(.ref b84)]) (rest := [(.ref b86), (.ref b85), (.ref b85)]) (lenOf pd_19 rfl) rfl (by show 2 * 0 + _ ≤ _; exact Nat.le_of_eq rfl) (hb hby at_136) (fun _ _ => ⟨rfl, e86, (by decide : 4 + 4 ≤ _), (by decide : 11 + 8 ≤ _)⟩)
    dsimp only [Pt.U, Pt.locs, Pt.cells, Pt.slots] at X87 l87 y87 z87 st87 hQ87 hS87 hgr87 Ch87
    subst l87 y87 z87
    obtain ⟨h87, e87⟩ : ∃ z, T87.heap = z := ⟨_, rfl⟩
    rw [e87] at hQ87 Ch87
    obtain ⟨t_87, kt_87, rfl, Nq87, Kq87, E_b86_q87, F_b86_coder_q87, F_b86_value_q87, V_t_87_q87⟩ := hQ87
    replace N0 := Fr.app N0 Nq87
    replace S_b73 := Ch87.safe V_b73.lt S_b73
    replace S_b84 := Ch87.safe V_b84.lt S_b84
    replace S_b85 := Ch87.safe E_b85.lt S_b85
    replace S_b86 := Ch87.safe E_b86.lt S_b86
    replace C0 := C0.trans Ch87
    replace V_b73 := V_b73.keep Kq87 (ninS ne_b73_b86 nin0)
    replace V_b84 := V_b84.keep Kq87 (ninS ne_b84_b86 nin0)
    replace E_b85 := E_b85.keep Kq87
    replace F_b85_type := F_b85_type.keep Kq87 (ninS ne_b85_b86 nin0)
    replace F_b85_values := F_b85_values.keep Kq87 (ninS ne_b85_b86 nin0)
    clear E_b86
    clear F_b86_coder
    clear F_b86_value
    replace O0 := O0.keep Kq87 (allS g_b86 all0)
    replace K0 := K0.trans Kq87 (allS (Or.inr sz_b86) all0)
    have E_b86 := E_b86_q87
    have F_b86_coder := F_b86_coder_q87
    have F_b86_value := F_b86_value_q87
    have V_t_87 := V_t_87_q87
    obtain ⟨X87, hS87, hZ87, hown87⟩ := rebS hS0 (by rw [e86]; exact hk0) X87 hS87 hgr87 hZ hown
    rw [e87] at hS87
    clear hS0 hk0 hZ hown
    have hS0 := hS87
    have hk0 : h87.size ≤ h87.size := Nat.le_refl _
    have hZ := hZ87
    have hown := hown87
    refine Goes.run (T' := T87) (g' := (mkF m 139 #[.val (.int p0), .val (.int p1), .val (.int p2), .val (.int p3), .val (.int p4), .val (.int p5), .val (.int (0 : Int32)), .val (.ref b73), .val (.ref b84), .unset, .unset, .unset, .unset] [(.ref b86), (.ref b85), (.ref b85)])) st87 ?_
    have G_b86 : SX Z h87 b86 ([] : List Int32) := ⟨E_b86, F_b86_coder, (fun _ h => nomatch h), t_87, kt_87, F_b86_value, V_t_87⟩
    clear F_b86_coder
    clear F_b86_value
    clear V_t_87
    obtain ⟨T88, h88, X88, e88, Ex88, A88, D88, -, st88⟩ := newO X87 hx hZ hown (hw _ (List.mem_of_getElem? (i := 38) rfl)) (hw _ (List.mem_of_getElem? (i := 39) rfl)) (hw _ (List.mem_of_getElem? (i := 40) rfl)) e87 (g := (mkF m 139 #[.val (.int p0), .val (.int p1), .val (.int p2), .val (.int p3), .val (.int p4), .val (.int p5), .val (.int (0 : Int32)), .val (.ref b73), .val (.ref b84), .unset, .unset, .unset, .unset] [(.ref b86), (.ref b85), (.ref b85)])) rfl (hb hby at_139) (by decide) (by decide)
    obtain ⟨b88, gg88⟩ : ∃ z, z = h87.size := ⟨_, rfl⟩
    rw [← gg88] at A88 D88 st88
    have g_b88 : n0 ≤ b88 := Nat.le_trans (own_n0 O0) (Nat.le_of_eq gg88.symm)
    have sz_b88 : h0.size ≤ b88 := Nat.le_trans K0.1 (Nat.le_of_eq gg88.symm)
    have ne_b73_b88 : b73 ≠ b88 := Nat.ne_of_lt (Nat.lt_of_lt_of_le V_b73.lt (Nat.le_of_eq gg88.symm))
    have ne_b84_b88 : b84 ≠ b88 := Nat.ne_of_lt (Nat.lt_of_lt_of_le V_b84.lt (Nat.le_of_eq gg88.symm))
    have ne_b85_b88 : b85 ≠ b88 := Nat.ne_of_lt (Nat.lt_of_lt_of_le E_b85.lt (Nat.le_of_eq gg88.symm))
    have ne_b86_b88 : b86 ≠ b88 := Nat.ne_of_lt (Nat.lt_of_lt_of_le E_b86.lt (Nat.le_of_eq gg88.symm))
    have S_b88 := (Safe.new (Z := Z) (EL := EL) (vm := T87.vm) (Nat.le_of_eq gg88.symm)).ext Ex88 C0.1
    replace S_b73 := S_b73.ext Ex88 C0.1
    replace S_b84 := S_b84.ext Ex88 C0.1
    replace S_b85 := S_b85.ext Ex88 C0.1
    replace S_b86 := S_b86.ext Ex88 C0.1
    replace V_b73 := V_b73.ext Ex88
    replace V_b84 := V_b84.ext Ex88
    replace E_b85 := E_b85.ext Ex88
    replace F_b85_type := F_b85_type.ext Ex88
    replace F_b85_values := F_b85_values.ext Ex88
    replace E_b86 := E_b86.ext Ex88
    replace G_b86 := G_b86.ext Ex88
    replace O0 := O0.ext Ex88
    replace K0 := K0.ext Ex88
    replace C0 := C0.trans (CHr.ext Ex88 C0.1)
    replace hk0 := Nat.le_trans hk0 Ex88.1
    have E_b88 := A88
    have F_b88_loadFactor : Fld Z h88 b88 "java/util/HashMap" "loadFactor" "F" (.float (0 : UInt32)) := D88 (Or.inr (hw _ (List.mem_of_getElem? (i := 53) rfl))) (ty := .float) (by decide)
    refine Goes.step (T' := T88) (g' := (mkF m 142 #[.val (.int p0), .val (.int p1), .val (.int p2), .val (.int p3), .val (.int p4), .val (.int p5), .val (.int (0 : Int32)), .val (.ref b73), .val (.ref b84), .unset, .unset, .unset, .unset] [(.ref b88), (.ref b86), (.ref b85), (.ref b85)])) st88 ?_
    clear D88 A88
    refine Goes.step (T' := T88) (g' := (mkF m 143 #[.val (.int p0), .val (.int p1), .val (.int p2), .val (.int p3), .val (.int p4), .val (.int p5), .val (.int (0 : Int32)), .val (.ref b73), .val (.ref b84), .unset, .unset, .unset, .unset] [(.ref b88), (.ref b88), (.ref b86), (.ref b85), (.ref b85)])) (fun _ kz => XS.dup X88.here hx rfl (hb hby at_142) rfl rfl kz) ?_
    obtain ⟨_, _, ⟨T89, L89, k89, n89⟩, -, X89, ⟨Lc89, hQ89, l89, y89, z89⟩, st89⟩ := X88.specialBack hx (y := (⟨"java/util/HashMap", "<init>", "()V"⟩ : MethodName)) rfl hown (mvT hZ (hw _ (List.mem_of_getElem? (i := 41) rfl))) (mvT hZ (hw _ (List.mem_of_getElem? (i := 42) rfl))) (mvT hZ (hw _ (List.mem_of_getElem? (i := 43) rfl))) (by decide) (backOf (W := 4) (rm_hmInit l Z a0 hw [] b88 h88 n0 O0  E_b88 F_b88_loadFactor g_b88) hZ (hw _ (List.mem_of_getElem? (i := 43) rfl)) (hw _ (List.mem_of_getElem? (i := 40) rfl)) (by decide) (by decide)) (g := (mkF m 143 #[.val (.int p0), .val (.int p1), .val (.int p2), .val (.int p3), .val (.int p4), .val (.int p5), .val (.int (0 : Int32)), .val (.ref b73), .val (.ref b84), .unset, .unset, .unset, .unset] [(.ref b88), (.ref b88), (.ref b86), (.ref b85), (.ref b85)])) rfl (by rw [hml]; rfl) (Steps.refl _) (a := b88) (argsL := []) (rest := [(.ref b88), (.ref b86), (.ref b85), (.ref b85)]) (lenOf pd_15 rfl) rfl (by show 2 * 0 + _ ≤ _; exact Nat.le_of_eq rfl) (hb hby at_143) (fun _ _ => ⟨rfl, e88, (by decide : 9 + 0 ≤ _), (by decide : 27 + 0 ≤ _)⟩)
    dsimp only [Pt.U, Pt.locs, Pt.cells, Pt.slots] at X89 l89 y89 z89 st89 hQ89
    subst l89 y89 z89
    obtain ⟨h89, e89⟩ : ∃ z, T89.heap = z := ⟨_, rfl⟩
    rw [e89] at hQ89
    obtain ⟨rfl, Nq89, Kq89, E_b88_q89⟩ := hQ89
    replace N0 := Fr.app N0 Nq89
    have Ss := (sfS S_b88 sf0)
    replace S_b73 := S_b73.keep Kq89 Ss C0.1
    replace S_b84 := S_b84.keep Kq89 Ss C0.1
    replace S_b85 := S_b85.keep Kq89 Ss C0.1
    replace S_b86 := S_b86.keep Kq89 Ss C0.1
    replace S_b88 := S_b88.keep Kq89 Ss C0.1
    replace C0 := C0.trans (CHr.keep Kq89 Ss C0.1)
    replace hk0 := Nat.le_trans hk0 Kq89.1
    replace G_b86 := G_b86.keepE Kq89 E_b88 (by decide) (hw _ (List.mem_of_getElem? (i := 39) rfl))
    replace V_b73 := V_b73.keep Kq89 (ninS ne_b73_b88 nin0)
    replace V_b84 := V_b84.keep Kq89 (ninS ne_b84_b88 nin0)
    replace E_b85 := E_b85.keep Kq89
    replace F_b85_type := F_b85_type.keep Kq89 (ninS ne_b85_b88 nin0)
    replace F_b85_values := F_b85_values.keep Kq89 (ninS ne_b85_b88 nin0)
    replace E_b86 := E_b86.keep Kq89
    clear E_b88
    clear F_b88_loadFactor
    replace O0 := O0.keep Kq89 (allS g_b88 all0)
    replace K0 := K0.trans Kq89 (allS (Or.inr sz_b88) all0)
    have E_b88 := E_b88_q89
    refine Goes.run (T' := T89) (g' := (mkF m 146 #[.val (.int p0), .val (.int p1), .val (.int p2), .val (.int p3), .val (.int p4), .val (.int p5), .val (.int (0 : Int32)), .val (.ref b73), .val (.ref b84), .unset, .unset, .unset, .unset] [(.ref b88), (.ref b86), (.ref b85), (.ref b85)])) st89 ?_
    obtain ⟨_, _, ⟨T90, L90, k90, n90⟩, -, X90, ⟨Lc90, hQ90, l90, y90, z90⟩, st90⟩ := X89.specialBack hx (y := (⟨NAC, "<init>", "(Ljava/lang/String;Ljava/util/Map;)V"⟩ : MethodName)) rfl hown (mvT hZ (hw _ (List.mem_of_getElem? (i := 54) rfl))) (mvT hZ (hw _ (List.mem_of_getElem? (i := 55) rfl))) (mvT hZ (hw _ (List.mem_of_getElem? (i := 56) rfl))) (by decide) (backOf (W := 1) (rm_naInit l Z a0 hw [] b85 b86 b88 h89 n0 O0  E_b85 F_b85_type F_b85_values E_b88 g_b85 (by first | assumption | decide) (by first | assumption | decide)) hZ (hw _ (List.mem_of_getElem? (i := 56) rfl)) (hw _ (List.mem_of_getElem? (i := 8) rfl)) (by decide) (by decide)) (g := (mkF m 146 #[.val (.int p0), .val (.int p1), .val (.int p2), .val (.int p3), .val (.int p4), .val (.int p5), .val (.int (0 : Int32)), .val (.ref b73), .val (.ref b84), .unset, .unset, .unset, .unset] [(.ref b88), (.ref b86), (.ref b85), (.ref b85)])) rfl (by rw [hml]; rfl) (Steps.refl _) (a := b85) (argsL := [(.ref b86), (.ref b88)]) (rest := [(.ref b85)]) (lenOf pd_20 rfl) rfl (by show 2 * 0 + _ ≤ _; exact Nat.le_of_eq rfl) (hb hby at_146) (fun _ _ => ⟨rfl, e89, (by decide : 9 + 1 ≤ _), (by decide : 27 + 4 ≤ _)⟩)
    dsimp only [Pt.U, Pt.locs, Pt.cells, Pt.slots] at X90 l90 y90 z90 st90 hQ90
    subst l90 y90 z90
    obtain ⟨h90, e90⟩ : ∃ z, T90.heap = z := ⟨_, rfl⟩
    rw [e90] at hQ90
    obtain ⟨rfl, Nq90, Kq90, E_b85_q90, F_b85_type_q90⟩ := hQ90
    replace N0 := Fr.app N0 Nq90
    have Ss := (sfS S_b85 sf0)
    replace S_b73 := S_b73.keep Kq90 Ss C0.1
    replace S_b84 := S_b84.keep Kq90 Ss C0.1
    replace S_b85 := S_b85.keep Kq90 Ss C0.1
    replace S_b86 := S_b86.keep Kq90 Ss C0.1
    replace S_b88 := S_b88.keep Kq90 Ss C0.1
    replace C0 := C0.trans (CHr.keep Kq90 Ss C0.1)
    replace hk0 := Nat.le_trans hk0 Kq90.1
    replace G_b86 := G_b86.keepE Kq90 E_b85 (by decide) (hw _ (List.mem_of_getElem? (i := 7) rfl))
    replace V_b73 := V_b73.keep Kq90 (ninS ne_b73_b85 nin0)
    replace V_b84 := V_b84.keep Kq90 (ninS ne_b84_b85 nin0)
    clear E_b85
    clear F_b85_type
    clear F_b85_values
    replace E_b86 := E_b86.keep Kq90
    replace E_b88 := E_b88.keep Kq90
    replace O0 := O0.keep Kq90 (allS g_b85 all0)
    replace K0 := K0.trans Kq90 (allS (Or.inr sz_b85) all0)
    have E_b85 := E_b85_q90
    have F_b85_type := F_b85_type_q90
    refine Goes.run (T' := T90) (g' := (mkF m 149 #[.val (.int p0), .val (.int p1), .val (.int p2), .val (.int p3), .val (.int p4), .val (.int p5), .val (.int (0 : Int32)), .val (.ref b73), .val (.ref b84), .unset, .unset, .unset, .unset] [(.ref b85)])) st90 ?_
    refine Goes.step (T' := T90) (g' := (mkF m 151 #[.val (.int p0), .val (.int p1), .val (.int p2), .val (.int p3), .val (.int p4), .val (.int p5), .val (.int (0 : Int32)), .val (.ref b73), .val (.ref b84), .val (.ref b85), .unset, .unset, .unset] [])) (fun _ kz => XS.astore X90.here hx rfl (hb hby at_149) rfl rfl (l' := #[.val (.int p0), .val (.int p1), .val (.int p2), .val (.int p3), .val (.int p4), .val (.int p5), .val (.int (0 : Int32)), .val (.ref b73), .val (.ref b84), .val (.ref b85), .unset, .unset, .unset]) rfl kz) ?_
    refine Goes.step (T' := T90) (g' := (mkF m 153 #[.val (.int p0), .val (.int p1), .val (.int p2), .val (.int p3), .val (.int p4), .val (.int p5), .val (.int (0 : Int32)), .val (.ref b73), .val (.ref b84), .val (.ref b85), .unset, .unset, .unset] [(.ref b85)])) (fun _ kz => XS.aload X90.here hx rfl (hb hby at_151) rfl rfl kz) ?_
    obtain ⟨cq91, kq91, qa91, qb91, qc91⟩ := isOf hZ e90 E_b85
    obtain ⟨_, _, ⟨T91, L91, k91, n91⟩, -, X91, hS91, hgr91, ⟨Lc91, hQ91, l91, y91, z91, Ch91⟩, st91⟩ := X90.virtualBackS hx (y := (⟨NAC, "simpleName", "()Ljava/lang/String;"⟩ : MethodName)) (z := (⟨NAC, "simpleName", "()Ljava/lang/String;"⟩ : MethodName)) hown (mvT hZ (hw _ (List.mem_of_getElem? (i := 86) rfl))) (mvT hZ (hw _ (List.mem_of_getElem? (i := 87) rfl))) (notFace_of_selects (args := #[]) (mvT hZ (hw _ (List.mem_of_getElem? (i := 89) rfl)))) (mvT hZ (hw _ (List.mem_of_getElem? (i := 89) rfl))) (mvT hZ (hw _ (List.mem_of_getElem? (i := 88) rfl))) (by decide) (backOfSH (W := 0) (rm_simple l Z a0 hw [] hEL b85 b86 (([] : List Int32)) h90 n0 O0 zcs Scs hz_Scs fmt Sfm hz_Sfm E_b85 F_b85_type E_b86 G_b86 (by decide)) hZ (hw _ (List.mem_of_getElem? (i := 90) rfl)) (hw _ (List.mem_of_getElem? (i := 8) rfl)) (by decide) (by decide) hEL C0.1) qa91 qc91 (g := (mkF m 153 #[.val (.int p0), .val (.int p1), .val (.int p2), .val (.int p3), .val (.int p4), .val (.int p5), .val (.int (0 : Int32)), .val (.ref b73), .val (.ref b84), .val (.ref b85), .unset, .unset, .unset] [(.ref b85)])) rfl (by rw [hml]; rfl) (Steps.refl _) (argsL := []) (rest := []) (lenOf pd_21 rfl) rfl (by show 2 * 0 + _ ≤ _; exact Nat.le_of_eq rfl) (hb hby at_153) (fun _ _ => ⟨rfl, e90, (by decide : 10 + 4 ≤ _), (by decide : 31 + 18 ≤ _)⟩)
    dsimp only [Pt.U, Pt.locs, Pt.cells, Pt.slots] at X91 l91 y91 z91 st91 hQ91 hS91 hgr91 Ch91
    subst l91 y91 z91
    obtain ⟨h91, e91⟩ : ∃ z, T91.heap = z := ⟨_, rfl⟩
    rw [e91] at hQ91 Ch91
    obtain ⟨b_91, rfl, Nq91, Kq91, E_b_91_q91, G_b_91_q91⟩ := hQ91
    replace N0 := Fr.app N0 Nq91
    replace S_b73 := Ch91.safe V_b73.lt S_b73
    replace S_b84 := Ch91.safe V_b84.lt S_b84
    replace S_b85 := Ch91.safe E_b85.lt S_b85
    replace S_b86 := Ch91.safe E_b86.lt S_b86
    replace S_b88 := Ch91.safe E_b88.lt S_b88
    replace C0 := C0.trans Ch91
    replace G_b86 := G_b86.ext (own_kext Kq91)
    replace V_b73 := V_b73.keep Kq91 nin0
    replace V_b84 := V_b84.keep Kq91 nin0
    replace E_b86 := E_b86.keep Kq91
    replace E_b88 := E_b88.keep Kq91
    replace E_b85 := E_b85.keep Kq91
    replace F_b85_type := F_b85_type.keep Kq91 nin0
    replace O0 := O0.keep Kq91 all0
    replace K0 := K0.trans Kq91 all0
    have E_b_91 := E_b_91_q91
    have G_b_91 := G_b_91_q91
    obtain ⟨X91, hS91, hZ91, hown91⟩ := rebS hS0 (by rw [e90]; exact hk0) X91 hS91 hgr91 hZ hown
    rw [e91] at hS91
    clear hS0 hk0 hZ hown
    have hS0 := hS91
    have hk0 : h91.size ≤ h91.size := Nat.le_refl _
    have hZ := hZ91
    have hown := hown91
    refine Goes.run (T' := T91) (g' := (mkF m 156 #[.val (.int p0), .val (.int p1), .val (.int p2), .val (.int p3), .val (.int p4), .val (.int p5), .val (.int (0 : Int32)), .val (.ref b73), .val (.ref b84), .val (.ref b85), .unset, .unset, .unset] [(.ref b_91)])) st91 ?_
    refine Goes.step (T' := T91) (g' := (mkF m 158 #[.val (.int p0), .val (.int p1), .val (.int p2), .val (.int p3), .val (.int p4), .val (.int p5), .val (.int (0 : Int32)), .val (.ref b73), .val (.ref b84), .val (.ref b85), .val (.ref b_91), .unset, .unset] [])) (fun _ kz => XS.astore X91.here hx rfl (hb hby at_156) rfl rfl (l' := #[.val (.int p0), .val (.int p1), .val (.int p2), .val (.int p3), .val (.int p4), .val (.int p5), .val (.int (0 : Int32)), .val (.ref b73), .val (.ref b84), .val (.ref b85), .val (.ref b_91), .unset, .unset]) rfl kz) ?_
    refine Goes.step (T' := T91) (g' := (mkF m 159 #[.val (.int p0), .val (.int p1), .val (.int p2), .val (.int p3), .val (.int p4), .val (.int p5), .val (.int (0 : Int32)), .val (.ref b73), .val (.ref b84), .val (.ref b85), .val (.ref b_91), .unset, .unset] [(.int (-1 : Int32))])) (fun _ kz => XS.iconst X91.here hx rfl (hb hby at_158) kz) ?_
    refine Goes.step (T' := T91) (g' := (mkF m 161 #[.val (.int p0), .val (.int p1), .val (.int p2), .val (.int p3), .val (.int p4), .val (.int p5), .val (.int (0 : Int32)), .val (.ref b73), .val (.ref b84), .val (.ref b85), .val (.ref b_91), .val (.int (-1 : Int32)), .unset] [])) (fun _ kz => XS.istore X91.here hx rfl (hb hby at_159) rfl (l' := #[.val (.int p0), .val (.int p1), .val (.int p2), .val (.int p3), .val (.int p4), .val (.int p5), .val (.int (0 : Int32)), .val (.ref b73), .val (.ref b84), .val (.ref b85), .val (.ref b_91), .val (.int (-1 : Int32)), .unset]) rfl kz) ?_
    rw [show (-1 : Int32) = (Int32.ofNat 0 - (1 : Int32)) from by decide]
    refine Goes.step (T' := T91) (g' := (mkF m 163 #[.val (.int p0), .val (.int p1), .val (.int p2), .val (.int p3), .val (.int p4), .val (.int p5), .val (.int (0 : Int32)), .val (.ref b73), .val (.ref b84), .val (.ref b85), .val (.ref b_91), .val (.int ((Int32.ofNat 0) - (1 : Int32))), .unset] [(.int (0 : Int32))])) (fun _ kz => XS.iload X91.here hx rfl (hb hby at_161) rfl  kz) ?_
    refine Goes.step (T' := T91) (g' := (mkF m 179 #[.val (.int p0), .val (.int p1), .val (.int p2), .val (.int p3), .val (.int p4), .val (.int p5), .val (.int (0 : Int32)), .val (.ref b73), .val (.ref b84), .val (.ref b85), .val (.ref b_91), .val (.int ((Int32.ofNat 0) - (1 : Int32))), .unset] [])) (fun _ kz => XS.ifYes X91.here hx rfl (pc0 := 163) (pc' := 179) rfl (hb hby at_163) rfl ((if0 _ _).trans (flt (by decide : ¬ ((0 : Int32) < (0 : Int32)))).2.2.2) (by decide) (by decide) kz) ?_
    refine Goes.step (T' := T91) (g' := (mkF m 181 #[.val (.int p0), .val (.int p1), .val (.int p2), .val (.int p3), .val (.int p4), .val (.int p5), .val (.int (0 : Int32)), .val (.ref b73), .val (.ref b84), .val (.ref b85), .val (.ref b_91), .val (.int ((Int32.ofNat 0) - (1 : Int32))), .unset] [(.int (0 : Int32))])) (fun _ kz => XS.iload X91.here hx rfl (hb hby at_179) rfl  kz) ?_
    refine Goes.step (T' := T91) (g' := (mkF m 182 #[.val (.int p0), .val (.int p1), .val (.int p2), .val (.int p3), .val (.int p4), .val (.int p5), .val (.int (0 : Int32)), .val (.ref b73), .val (.ref b84), .val (.ref b85), .val (.ref b_91), .val (.int ((Int32.ofNat 0) - (1 : Int32))), .unset] [(.int (1 : Int32)), (.int (0 : Int32))])) (fun _ kz => XS.iconst X91.here hx rfl (hb hby at_181) kz) ?_
    refine Goes.step (T' := T91) (g' := (mkF m 198 #[.val (.int p0), .val (.int p1), .val (.int p2), .val (.int p3), .val (.int p4), .val (.int p5), .val (.int (0 : Int32)), .val (.ref b73), .val (.ref b84), .val (.ref b85), .val (.ref b_91), .val (.int ((Int32.ofNat 0) - (1 : Int32))), .unset] [])) (fun _ kz => XS.icmpYes X91.here hx rfl (pc0 := 182) (pc' := 198) rfl (hb hby at_182) rfl (flt (by decide : ¬ ((1 : Int32) < (0 : Int32)))).2.2.2 (by decide) (by decide) kz) ?_
    refine Goes.step (T' := T91) (g' := (mkF m 200 #[.val (.int p0), .val (.int p1), .val (.int p2), .val (.int p3), .val (.int p4), .val (.int p5), .val (.int (0 : Int32)), .val (.ref b73), .val (.ref b84), .val (.ref b85), .val (.ref b_91), .val (.int ((Int32.ofNat 0) - (1 : Int32))), .unset] [(.int (0 : Int32))])) (fun _ kz => XS.iload X91.here hx rfl (hb hby at_198) rfl  kz) ?_
    refine Goes.step (T' := T91) (g' := (mkF m 201 #[.val (.int p0), .val (.int p1), .val (.int p2), .val (.int p3), .val (.int p4), .val (.int p5), .val (.int (0 : Int32)), .val (.ref b73), .val (.ref b84), .val (.ref b85), .val (.ref b_91), .val (.int ((Int32.ofNat 0) - (1 : Int32))), .unset] [(.int (2 : Int32)), (.int (0 : Int32))])) (fun _ kz => XS.iconst X91.here hx rfl (hb hby at_200) kz) ?_
    refine Goes.step (T' := T91) (g' := (mkF m 217 #[.val (.int p0), .val (.int p1), .val (.int p2), .val (.int p3), .val (.int p4), .val (.int p5), .val (.int (0 : Int32)), .val (.ref b73), .val (.ref b84), .val (.ref b85), .val (.ref b_91), .val (.int ((Int32.ofNat 0) - (1 : Int32))), .unset] [])) (fun _ kz => XS.icmpYes X91.here hx rfl (pc0 := 201) (pc' := 217) rfl (hb hby at_201) rfl (flt (by decide : ¬ ((2 : Int32) < (0 : Int32)))).2.2.2 (by decide) (by decide) kz) ?_
    refine Goes.step (T' := T91) (g' := (mkF m 219 #[.val (.int p0), .val (.int p1), .val (.int p2), .val (.int p3), .val (.int p4), .val (.int p5), .val (.int (0 : Int32)), .val (.ref b73), .val (.ref b84), .val (.ref b85), .val (.ref b_91), .val (.int ((Int32.ofNat 0) - (1 : Int32))), .unset] [(.int (0 : Int32))])) (fun _ kz => XS.iload X91.here hx rfl (hb hby at_217) rfl  kz) ?_
    refine Goes.step (T' := T91) (g' := (mkF m 220 #[.val (.int p0), .val (.int p1), .val (.int p2), .val (.int p3), .val (.int p4), .val (.int p5), .val (.int (0 : Int32)), .val (.ref b73), .val (.ref b84), .val (.ref b85), .val (.ref b_91), .val (.int ((Int32.ofNat 0) - (1 : Int32))), .unset] [(.int (3 : Int32)), (.int (0 : Int32))])) (fun _ kz => XS.iconst X91.here hx rfl (hb hby at_219) kz) ?_
    refine Goes.step (T' := T91) (g' := (mkF m 236 #[.val (.int p0), .val (.int p1), .val (.int p2), .val (.int p3), .val (.int p4), .val (.int p5), .val (.int (0 : Int32)), .val (.ref b73), .val (.ref b84), .val (.ref b85), .val (.ref b_91), .val (.int ((Int32.ofNat 0) - (1 : Int32))), .unset] [])) (fun _ kz => XS.icmpYes X91.here hx rfl (pc0 := 220) (pc' := 236) rfl (hb hby at_220) rfl (flt (by decide : ¬ ((3 : Int32) < (0 : Int32)))).2.2.2 (by decide) (by decide) kz) ?_
    refine Goes.step (T' := T91) (g' := (mkF m 238 #[.val (.int p0), .val (.int p1), .val (.int p2), .val (.int p3), .val (.int p4), .val (.int p5), .val (.int (0 : Int32)), .val (.ref b73), .val (.ref b84), .val (.ref b85), .val (.ref b_91), .val (.int ((Int32.ofNat 0) - (1 : Int32))), .unset] [(.int (0 : Int32))])) (fun _ kz => XS.iload X91.here hx rfl (hb hby at_236) rfl  kz) ?_
    refine Goes.step (T' := T91) (g' := (mkF m 239 #[.val (.int p0), .val (.int p1), .val (.int p2), .val (.int p3), .val (.int p4), .val (.int p5), .val (.int (0 : Int32)), .val (.ref b73), .val (.ref b84), .val (.ref b85), .val (.ref b_91), .val (.int ((Int32.ofNat 0) - (1 : Int32))), .unset] [(.int (4 : Int32)), (.int (0 : Int32))])) (fun _ kz => XS.iconst X91.here hx rfl (hb hby at_238) kz) ?_
    refine Goes.step (T' := T91) (g' := (mkF m 255 #[.val (.int p0), .val (.int p1), .val (.int p2), .val (.int p3), .val (.int p4), .val (.int p5), .val (.int (0 : Int32)), .val (.ref b73), .val (.ref b84), .val (.ref b85), .val (.ref b_91), .val (.int ((Int32.ofNat 0) - (1 : Int32))), .unset] [])) (fun _ kz => XS.icmpYes X91.here hx rfl (pc0 := 239) (pc' := 255) rfl (hb hby at_239) rfl (flt (by decide : ¬ ((4 : Int32) < (0 : Int32)))).2.2.2 (by decide) (by decide) kz) ?_
    refine Goes.step (T' := T91) (g' := (mkF m 257 #[.val (.int p0), .val (.int p1), .val (.int p2), .val (.int p3), .val (.int p4), .val (.int p5), .val (.int (0 : Int32)), .val (.ref b73), .val (.ref b84), .val (.ref b85), .val (.ref b_91), .val (.int ((Int32.ofNat 0) - (1 : Int32))), .unset] [(.int (0 : Int32))])) (fun _ kz => XS.iload X91.here hx rfl (hb hby at_255) rfl  kz) ?_
    refine Goes.step (T' := T91) (g' := (mkF m 258 #[.val (.int p0), .val (.int p1), .val (.int p2), .val (.int p3), .val (.int p4), .val (.int p5), .val (.int (0 : Int32)), .val (.ref b73), .val (.ref b84), .val (.ref b85), .val (.ref b_91), .val (.int ((Int32.ofNat 0) - (1 : Int32))), .unset] [(.int (1 : Int32)), (.int (0 : Int32))])) (fun _ kz => XS.iconst X91.here hx rfl (hb hby at_257) kz) ?_
    refine Goes.step (T' := T91) (g' := (mkF m 259 #[.val (.int p0), .val (.int p1), .val (.int p2), .val (.int p3), .val (.int p4), .val (.int p5), .val (.int (0 : Int32)), .val (.ref b73), .val (.ref b84), .val (.ref b85), .val (.ref b_91), .val (.int ((Int32.ofNat 0) - (1 : Int32))), .unset] [(.int ((0 : Int32) - (1 : Int32)))])) (fun _ kz => XS.isub X91.here hx rfl (hb hby at_258) rfl kz) ?_
    rw [show ((0 : Int32) - (1 : Int32)) = (-1 : Int32) from by decide]
    refine Goes.step (T' := T91) (g' := (mkF m 261 #[.val (.int p0), .val (.int p1), .val (.int p2), .val (.int p3), .val (.int p4), .val (.int p5), .val (.int (0 : Int32)), .val (.ref b73), .val (.ref b84), .val (.ref b85), .val (.ref b_91), .val (.int ((Int32.ofNat 0) - (1 : Int32))), .unset] [(.int ((Int32.ofNat 0) - (1 : Int32))), (.int (-1 : Int32))])) (fun _ kz => XS.iload X91.here hx rfl (hb hby at_259) rfl  kz) ?_
    refine Goes.step (T' := T91) (g' := (mkF m 262 #[.val (.int p0), .val (.int p1), .val (.int p2), .val (.int p3), .val (.int p4), .val (.int p5), .val (.int (0 : Int32)), .val (.ref b73), .val (.ref b84), .val (.ref b85), .val (.ref b_91), .val (.int ((Int32.ofNat 0) - (1 : Int32))), .unset] [(.int ((-1 : Int32) - ((Int32.ofNat 0) - (1 : Int32))))])) (fun _ kz => XS.isub X91.here hx rfl (hb hby at_261) rfl kz) ?_
    rw [show ((-1 : Int32) - ((Int32.ofNat 0) - (1 : Int32))) = (Int32.ofNat (SNM ([] : List Int32)).length) from by decide]
    refine Goes.step (T' := T91) (g' := (mkF m 264 #[.val (.int p0), .val (.int p1), .val (.int p2), .val (.int p3), .val (.int p4), .val (.int p5), .val (.int (0 : Int32)), .val (.ref b73), .val (.ref b84), .val (.ref b85), .val (.ref b_91), .val (.int ((Int32.ofNat 0) - (1 : Int32))), .val (.int (Int32.ofNat (SNM ([] : List Int32)).length))] [])) (fun _ kz => XS.istore X91.here hx rfl (hb hby at_262) rfl (l' := #[.val (.int p0), .val (.int p1), .val (.int p2), .val (.int p3), .val (.int p4), .val (.int p5), .val (.int (0 : Int32)), .val (.ref b73), .val (.ref b84), .val (.ref b85), .val (.ref b_91), .val (.int ((Int32.ofNat 0) - (1 : Int32))), .val (.int (Int32.ofNat (SNM ([] : List Int32)).length))]) rfl kz) ?_
    refine Goes.step (T' := T91) (g' := (mkF m 266 #[.val (.int p0), .val (.int p1), .val (.int p2), .val (.int p3), .val (.int p4), .val (.int p5), .val (.int (0 : Int32)), .val (.ref b73), .val (.ref b84), .val (.ref b85), .val (.ref b_91), .val (.int ((Int32.ofNat 0) - (1 : Int32))), .val (.int (Int32.ofNat (SNM ([] : List Int32)).length))] [(.ref b_91)])) (fun _ kz => XS.aload X91.here hx rfl (hb hby at_264) rfl rfl kz) ?_
    refine Goes.step (T' := T91) (g' := (mkF m 269 #[.val (.int p0), .val (.int p1), .val (.int p2), .val (.int p3), .val (.int p4), .val (.int p5), .val (.int (0 : Int32)), .val (.ref b73), .val (.ref b84), .val (.ref b85), .val (.ref b_91), .val (.int ((Int32.ofNat 0) - (1 : Int32))), .val (.int (Int32.ofNat (SNM ([] : List Int32)).length))] [])) (fun _ kz => XS.ifnullNo X91.here hx rfl (hb hby at_266) rfl kz) ?_
    refine Goes.step (T' := T91) (g' := (mkF m 271 #[.val (.int p0), .val (.int p1), .val (.int p2), .val (.int p3), .val (.int p4), .val (.int p5), .val (.int (0 : Int32)), .val (.ref b73), .val (.ref b84), .val (.ref b85), .val (.ref b_91), .val (.int ((Int32.ofNat 0) - (1 : Int32))), .val (.int (Int32.ofNat (SNM ([] : List Int32)).length))] [(.ref b_91)])) (fun _ kz => XS.aload X91.here hx rfl (hb hby at_269) rfl rfl kz) ?_
    obtain ⟨cq92, kq92, qa92, qb92, qc92⟩ := isOf hZ e91 E_b_91
    obtain ⟨_, _, ⟨T92, L92, k92, n92⟩, -, X92, ⟨Lc92, hQ92, l92, y92, z92⟩, st92⟩ := X91.virtualBack hx (y := (⟨"java/lang/String", "length", "()I"⟩ : MethodName)) (z := (⟨"java/lang/String", "length", "()I"⟩ : MethodName)) hown (mvT hZ (hw _ (List.mem_of_getElem? (i := 170) rfl))) (mvT hZ (hw _ (List.mem_of_getElem? (i := 97) rfl))) (notFace_of_selects (args := #[]) (mvT hZ (hw _ (List.mem_of_getElem? (i := 99) rfl)))) (mvT hZ (hw _ (List.mem_of_getElem? (i := 99) rfl))) (mvT hZ (hw _ (List.mem_of_getElem? (i := 98) rfl))) (by decide) (own_lenW (W := 0) hZ hw (hw _ (List.mem_of_getElem? (i := 10) rfl)) G_b_91 ((by decide)) (Scs.ext O0.2) hz_Scs (by decide) (by decide)) qa92 qc92 (g := (mkF m 271 #[.val (.int p0), .val (.int p1), .val (.int p2), .val (.int p3), .val (.int p4), .val (.int p5), .val (.int (0 : Int32)), .val (.ref b73), .val (.ref b84), .val (.ref b85), .val (.ref b_91), .val (.int ((Int32.ofNat 0) - (1 : Int32))), .val (.int (Int32.ofNat (SNM ([] : List Int32)).length))] [(.ref b_91)])) rfl (by rw [hml]; rfl) (Steps.refl _) (argsL := []) (rest := []) (lenOf pd_5 rfl) rfl (by show 2 * 0 + _ ≤ _; exact Nat.le_of_eq rfl) (hb hby at_271) (fun _ _ => ⟨rfl, e91, (by decide : 14 + 0 ≤ _), (by decide : 49 + 0 ≤ _)⟩)
    dsimp only [Pt.U, Pt.locs, Pt.cells, Pt.slots] at X92 l92 y92 z92 st92 hQ92
    subst l92 y92 z92
    obtain ⟨rfl, rfl, e92⟩ := hQ92
    replace N0 := Fr.app N0 (Fr.nil n0)
    refine Goes.run (T' := T92) (g' := (mkF m 274 #[.val (.int p0), .val (.int p1), .val (.int p2), .val (.int p3), .val (.int p4), .val (.int p5), .val (.int (0 : Int32)), .val (.ref b73), .val (.ref b84), .val (.ref b85), .val (.ref b_91), .val (.int ((Int32.ofNat 0) - (1 : Int32))), .val (.int (Int32.ofNat (SNM ([] : List Int32)).length))] [(.int (Int32.ofNat (SNM ([] : List Int32)).length))])) st92 ?_
    refine Goes.step (T' := T92) (g' := (mkF m 276 #[.val (.int p0), .val (.int p1), .val (.int p2), .val (.int p3), .val (.int p4), .val (.int p5), .val (.int (0 : Int32)), .val (.ref b73), .val (.ref b84), .val (.ref b85), .val (.ref b_91), .val (.int ((Int32.ofNat 0) - (1 : Int32))), .val (.int (Int32.ofNat (SNM ([] : List Int32)).length))] [(.int (Int32.ofNat (SNM ([] : List Int32)).length)), (.int (Int32.ofNat (SNM ([] : List Int32)).length))])) (fun _ kz => XS.iload X92.here hx rfl (hb hby at_274) rfl  kz) ?_
    refine Goes.step (T' := T92) (g' := (mkF m 281 #[.val (.int p0), .val (.int p1), .val (.int p2), .val (.int p3), .val (.int p4), .val (.int p5), .val (.int (0 : Int32)), .val (.ref b73), .val (.ref b84), .val (.ref b85), .val (.ref b_91), .val (.int ((Int32.ofNat 0) - (1 : Int32))), .val (.int (Int32.ofNat (SNM ([] : List Int32)).length))] [])) (fun _ kz => XS.icmpYes X92.here hx rfl (pc0 := 276) (pc' := 281) rfl (hb hby at_276) rfl (teq (rfl : (Int32.ofNat (SNM ([] : List Int32)).length) = (Int32.ofNat (SNM ([] : List Int32)).length))).1 (by decide) (by decide) kz) ?_
    refine Goes.step (T' := T92) (g' := (mkF m 283 #[.val (.int p0), .val (.int p1), .val (.int p2), .val (.int p3), .val (.int p4), .val (.int p5), .val (.int (0 : Int32)), .val (.ref b73), .val (.ref b84), .val (.ref b85), .val (.ref b_91), .val (.int ((Int32.ofNat 0) - (1 : Int32))), .val (.int (Int32.ofNat (SNM ([] : List Int32)).length))] [(.ref b_91)])) (fun _ kz => XS.aload X92.here hx rfl (hb hby at_281) rfl rfl kz) ?_
    refine Goes.step (T' := T92) (g' := (mkF m 284 #[.val (.int p0), .val (.int p1), .val (.int p2), .val (.int p3), .val (.int p4), .val (.int p5), .val (.int (0 : Int32)), .val (.ref b73), .val (.ref b84), .val (.ref b85), .val (.ref b_91), .val (.int ((Int32.ofNat 0) - (1 : Int32))), .val (.int (Int32.ofNat (SNM ([] : List Int32)).length))] [(.int (0 : Int32)), (.ref b_91)])) (fun _ kz => XS.iconst X92.here hx rfl (hb hby at_283) kz) ?_
    refine Goes.step (T' := T92) (g' := (mkF m 286 #[.val (.int p0), .val (.int p1), .val (.int p2), .val (.int p3), .val (.int p4), .val (.int p5), .val (.int (0 : Int32)), .val (.ref b73), .val (.ref b84), .val (.ref b85), .val (.ref b_91), .val (.int ((Int32.ofNat 0) - (1 : Int32))), .val (.int (Int32.ofNat (SNM ([] : List Int32)).length))] [(.int (Int32.ofNat (SNM ([] : List Int32)).length)), (.int (0 : Int32)), (.ref b_91)])) (fun _ kz => XS.iload X92.here hx rfl (hb hby at_284) rfl  kz) ?_
    refine Goes.step (T' := T92) (g' := (mkF m 288 #[.val (.int p0), .val (.int p1), .val (.int p2), .val (.int p3), .val (.int p4), .val (.int p5), .val (.int (0 : Int32)), .val (.ref b73), .val (.ref b84), .val (.ref b85), .val (.ref b_91), .val (.int ((Int32.ofNat 0) - (1 : Int32))), .val (.int (Int32.ofNat (SNM ([] : List Int32)).length))] [(.ref b73), (.int (Int32.ofNat (SNM ([] : List Int32)).length)), (.int (0 : Int32)), (.ref b_91)])) (fun _ kz => XS.aload X92.here hx rfl (hb hby at_286) rfl rfl kz) ?_
    refine Goes.step (T' := T92) (g' := (mkF m 290 #[.val (.int p0), .val (.int p1), .val (.int p2), .val (.int p3), .val (.int p4), .val (.int p5), .val (.int (0 : Int32)), .val (.ref b73), .val (.ref b84), .val (.ref b85), .val (.ref b_91), .val (.int ((Int32.ofNat 0) - (1 : Int32))), .val (.int (Int32.ofNat (SNM ([] : List Int32)).length))] [(.int ((Int32.ofNat 0) - (1 : Int32))), (.ref b73), (.int (Int32.ofNat (SNM ([] : List Int32)).length)), (.int (0 : Int32)), (.ref b_91)])) (fun _ kz => XS.iload X92.here hx rfl (hb hby at_288) rfl  kz) ?_
    obtain ⟨_, _, ⟨T93, L93, k93, n93⟩, -, X93, ⟨Lc93, hQ93, l93, y93, z93⟩, st93⟩ := Jvm.LawKit.callS X92 hx (y := (⟨"com/example/demarcation/demarcation/component/NamedAnnotationSimpleNamePinLaw", "at", "(Ljava/lang/String;II[CI)Z"⟩ : MethodName)) hown (mvT hZ (hw _ (List.mem_of_getElem? (i := 171) rfl))) (mvT hZ (hw _ (List.mem_of_getElem? (i := 172) rfl))) (mvT hZ (hw _ (List.mem_of_getElem? (i := 4) rfl))) (mvT hZ (hw _ (List.mem_of_getElem? (i := 173) rfl))) (by decide) (backOf (W := 0) (rm_at l Z a0 hw [] b_91 b73 ((SNM ([] : List Int32))) (([z_74, z_76, z_78, z_80, z_82] : List Int32)) (0) (0) (kc73) h91 n0 O0 zcs Scs hz_Scs fmt Sfm hz_Sfm E_b_91 G_b_91 V_b73 (by decide) (by decide) rfl (fun i hi => absurd (show i < 0 from hi) (Nat.not_lt_zero i))) hZ (hw _ (List.mem_of_getElem? (i := 173) rfl)) (hw _ (List.mem_of_getElem? (i := 4) rfl)) (by decide) (by decide)) (g := (mkF m 290 #[.val (.int p0), .val (.int p1), .val (.int p2), .val (.int p3), .val (.int p4), .val (.int p5), .val (.int (0 : Int32)), .val (.ref b73), .val (.ref b84), .val (.ref b85), .val (.ref b_91), .val (.int ((Int32.ofNat 0) - (1 : Int32))), .val (.int (Int32.ofNat (SNM ([] : List Int32)).length))] [(.int ((Int32.ofNat 0) - (1 : Int32))), (.ref b73), (.int (Int32.ofNat (SNM ([] : List Int32)).length)), (.int (0 : Int32)), (.ref b_91)])) rfl (by rw [hml]; rfl) (argsL := [(.ref b_91), (.int (0 : Int32)), (.int (Int32.ofNat (SNM ([] : List Int32)).length)), (.ref b73), (.int ((Int32.ofNat 0) - (1 : Int32)))]) (rest := []) (lenOf pd_22 rfl) rfl (by show 2 * 0 + _ ≤ _; exact Nat.le_of_eq rfl) (hb hby at_290) (fun _ _ => ⟨rfl, e92, (by decide : 14 + 0 ≤ _), (by decide : 49 + 0 ≤ _)⟩)
    dsimp only [Pt.U, Pt.locs, Pt.cells, Pt.slots] at X93 l93 y93 z93 st93 hQ93
    subst l93 y93 z93
    obtain ⟨rfl, rfl, e93⟩ := hQ93
    replace N0 := Fr.app N0 (Fr.nil n0)
    refine Goes.step (T' := T93) (g' := (mkF m 293 #[.val (.int p0), .val (.int p1), .val (.int p2), .val (.int p3), .val (.int p4), .val (.int p5), .val (.int (0 : Int32)), .val (.ref b73), .val (.ref b84), .val (.ref b85), .val (.ref b_91), .val (.int ((Int32.ofNat 0) - (1 : Int32))), .val (.int (Int32.ofNat (SNM ([] : List Int32)).length))] [(.int (1 : Int32))])) st93 ?_
    refine Goes.step (T' := T93) (g' := (mkF m 296 #[.val (.int p0), .val (.int p1), .val (.int p2), .val (.int p3), .val (.int p4), .val (.int p5), .val (.int (0 : Int32)), .val (.ref b73), .val (.ref b84), .val (.ref b85), .val (.ref b_91), .val (.int ((Int32.ofNat 0) - (1 : Int32))), .val (.int (Int32.ofNat (SNM ([] : List Int32)).length))] [])) (fun _ kz => XS.ifNo X93.here hx rfl (hb hby at_293) rfl ((if0 _ _).trans (feq (by decide : ¬ ((1 : Int32) = (0 : Int32)))).1) kz) ?_
    refine Goes.step (T' := T93) (g' := (mkF m 298 #[.val (.int p0), .val (.int p1), .val (.int p2), .val (.int p3), .val (.int p4), .val (.int p5), .val (.int (0 : Int32)), .val (.ref b73), .val (.ref b84), .val (.ref b85), .val (.ref b_91), .val (.int ((Int32.ofNat 0) - (1 : Int32))), .val (.int (Int32.ofNat (SNM ([] : List Int32)).length))] [(.ref b_91)])) (fun _ kz => XS.aload X93.here hx rfl (hb hby at_296) rfl rfl kz) ?_
    refine Goes.step (T' := T93) (g' := (mkF m 299 #[.val (.int p0), .val (.int p1), .val (.int p2), .val (.int p3), .val (.int p4), .val (.int p5), .val (.int (0 : Int32)), .val (.ref b73), .val (.ref b84), .val (.ref b85), .val (.ref b_91), .val (.int ((Int32.ofNat 0) - (1 : Int32))), .val (.int (Int32.ofNat (SNM ([] : List Int32)).length))] [(.int (1 : Int32)), (.ref b_91)])) (fun _ kz => XS.iconst X93.here hx rfl (hb hby at_298) kz) ?_
    refine Goes.step (T' := T93) (g' := (mkF m 301 #[.val (.int p0), .val (.int p1), .val (.int p2), .val (.int p3), .val (.int p4), .val (.int p5), .val (.int (0 : Int32)), .val (.ref b73), .val (.ref b84), .val (.ref b85), .val (.ref b_91), .val (.int ((Int32.ofNat 0) - (1 : Int32))), .val (.int (Int32.ofNat (SNM ([] : List Int32)).length))] [(.int (Int32.ofNat (SNM ([] : List Int32)).length)), (.int (1 : Int32)), (.ref b_91)])) (fun _ kz => XS.iload X93.here hx rfl (hb hby at_299) rfl  kz) ?_
    refine Goes.step (T' := T93) (g' := (mkF m 303 #[.val (.int p0), .val (.int p1), .val (.int p2), .val (.int p3), .val (.int p4), .val (.int p5), .val (.int (0 : Int32)), .val (.ref b73), .val (.ref b84), .val (.ref b85), .val (.ref b_91), .val (.int ((Int32.ofNat 0) - (1 : Int32))), .val (.int (Int32.ofNat (SNM ([] : List Int32)).length))] [(.ref b73), (.int (Int32.ofNat (SNM ([] : List Int32)).length)), (.int (1 : Int32)), (.ref b_91)])) (fun _ kz => XS.aload X93.here hx rfl (hb hby at_301) rfl rfl kz) ?_
    refine Goes.step (T' := T93) (g' := (mkF m 305 #[.val (.int p0), .val (.int p1), .val (.int p2), .val (.int p3), .val (.int p4), .val (.int p5), .val (.int (0 : Int32)), .val (.ref b73), .val (.ref b84), .val (.ref b85), .val (.ref b_91), .val (.int ((Int32.ofNat 0) - (1 : Int32))), .val (.int (Int32.ofNat (SNM ([] : List Int32)).length))] [(.int ((Int32.ofNat 0) - (1 : Int32))), (.ref b73), (.int (Int32.ofNat (SNM ([] : List Int32)).length)), (.int (1 : Int32)), (.ref b_91)])) (fun _ kz => XS.iload X93.here hx rfl (hb hby at_303) rfl  kz) ?_
    obtain ⟨_, _, ⟨T94, L94, k94, n94⟩, -, X94, ⟨Lc94, hQ94, l94, y94, z94⟩, st94⟩ := Jvm.LawKit.callS X93 hx (y := (⟨"com/example/demarcation/demarcation/component/NamedAnnotationSimpleNamePinLaw", "at", "(Ljava/lang/String;II[CI)Z"⟩ : MethodName)) hown (mvT hZ (hw _ (List.mem_of_getElem? (i := 171) rfl))) (mvT hZ (hw _ (List.mem_of_getElem? (i := 172) rfl))) (mvT hZ (hw _ (List.mem_of_getElem? (i := 4) rfl))) (mvT hZ (hw _ (List.mem_of_getElem? (i := 173) rfl))) (by decide) (backOf (W := 0) (rm_at l Z a0 hw [] b_91 b73 ((SNM ([] : List Int32))) (([z_74, z_76, z_78, z_80, z_82] : List Int32)) (0) (1) (kc73) h91 n0 O0 zcs Scs hz_Scs fmt Sfm hz_Sfm E_b_91 G_b_91 V_b73 (by decide) (by decide) rfl (fun i hi => absurd (show i < 0 from hi) (Nat.not_lt_zero i))) hZ (hw _ (List.mem_of_getElem? (i := 173) rfl)) (hw _ (List.mem_of_getElem? (i := 4) rfl)) (by decide) (by decide)) (g := (mkF m 305 #[.val (.int p0), .val (.int p1), .val (.int p2), .val (.int p3), .val (.int p4), .val (.int p5), .val (.int (0 : Int32)), .val (.ref b73), .val (.ref b84), .val (.ref b85), .val (.ref b_91), .val (.int ((Int32.ofNat 0) - (1 : Int32))), .val (.int (Int32.ofNat (SNM ([] : List Int32)).length))] [(.int ((Int32.ofNat 0) - (1 : Int32))), (.ref b73), (.int (Int32.ofNat (SNM ([] : List Int32)).length)), (.int (1 : Int32)), (.ref b_91)])) rfl (by rw [hml]; rfl) (argsL := [(.ref b_91), (.int (1 : Int32)), (.int (Int32.ofNat (SNM ([] : List Int32)).length)), (.ref b73), (.int ((Int32.ofNat 0) - (1 : Int32)))]) (rest := []) (lenOf pd_22 rfl) rfl (by show 2 * 0 + _ ≤ _; exact Nat.le_of_eq rfl) (hb hby at_305) (fun _ _ => ⟨rfl, e93, (by decide : 14 + 0 ≤ _), (by decide : 49 + 0 ≤ _)⟩)
    dsimp only [Pt.U, Pt.locs, Pt.cells, Pt.slots] at X94 l94 y94 z94 st94 hQ94
    subst l94 y94 z94
    obtain ⟨rfl, rfl, e94⟩ := hQ94
    replace N0 := Fr.app N0 (Fr.nil n0)
    refine Goes.step (T' := T94) (g' := (mkF m 308 #[.val (.int p0), .val (.int p1), .val (.int p2), .val (.int p3), .val (.int p4), .val (.int p5), .val (.int (0 : Int32)), .val (.ref b73), .val (.ref b84), .val (.ref b85), .val (.ref b_91), .val (.int ((Int32.ofNat 0) - (1 : Int32))), .val (.int (Int32.ofNat (SNM ([] : List Int32)).length))] [(.int (1 : Int32))])) st94 ?_
    refine Goes.step (T' := T94) (g' := (mkF m 311 #[.val (.int p0), .val (.int p1), .val (.int p2), .val (.int p3), .val (.int p4), .val (.int p5), .val (.int (0 : Int32)), .val (.ref b73), .val (.ref b84), .val (.ref b85), .val (.ref b_91), .val (.int ((Int32.ofNat 0) - (1 : Int32))), .val (.int (Int32.ofNat (SNM ([] : List Int32)).length))] [])) (fun _ kz => XS.ifNo X94.here hx rfl (hb hby at_308) rfl ((if0 _ _).trans (feq (by decide : ¬ ((1 : Int32) = (0 : Int32)))).1) kz) ?_
    refine Goes.step (T' := T94) (g' := (mkF m 313 #[.val (.int p0), .val (.int p1), .val (.int p2), .val (.int p3), .val (.int p4), .val (.int p5), .val (.int (0 : Int32)), .val (.ref b73), .val (.ref b84), .val (.ref b85), .val (.ref b_91), .val (.int ((Int32.ofNat 0) - (1 : Int32))), .val (.int (Int32.ofNat (SNM ([] : List Int32)).length))] [(.ref b_91)])) (fun _ kz => XS.aload X94.here hx rfl (hb hby at_311) rfl rfl kz) ?_
    refine Goes.step (T' := T94) (g' := (mkF m 314 #[.val (.int p0), .val (.int p1), .val (.int p2), .val (.int p3), .val (.int p4), .val (.int p5), .val (.int (0 : Int32)), .val (.ref b73), .val (.ref b84), .val (.ref b85), .val (.ref b_91), .val (.int ((Int32.ofNat 0) - (1 : Int32))), .val (.int (Int32.ofNat (SNM ([] : List Int32)).length))] [(.int (2 : Int32)), (.ref b_91)])) (fun _ kz => XS.iconst X94.here hx rfl (hb hby at_313) kz) ?_
    refine Goes.step (T' := T94) (g' := (mkF m 316 #[.val (.int p0), .val (.int p1), .val (.int p2), .val (.int p3), .val (.int p4), .val (.int p5), .val (.int (0 : Int32)), .val (.ref b73), .val (.ref b84), .val (.ref b85), .val (.ref b_91), .val (.int ((Int32.ofNat 0) - (1 : Int32))), .val (.int (Int32.ofNat (SNM ([] : List Int32)).length))] [(.int (Int32.ofNat (SNM ([] : List Int32)).length)), (.int (2 : Int32)), (.ref b_91)])) (fun _ kz => XS.iload X94.here hx rfl (hb hby at_314) rfl  kz) ?_
    refine Goes.step (T' := T94) (g' := (mkF m 318 #[.val (.int p0), .val (.int p1), .val (.int p2), .val (.int p3), .val (.int p4), .val (.int p5), .val (.int (0 : Int32)), .val (.ref b73), .val (.ref b84), .val (.ref b85), .val (.ref b_91), .val (.int ((Int32.ofNat 0) - (1 : Int32))), .val (.int (Int32.ofNat (SNM ([] : List Int32)).length))] [(.ref b73), (.int (Int32.ofNat (SNM ([] : List Int32)).length)), (.int (2 : Int32)), (.ref b_91)])) (fun _ kz => XS.aload X94.here hx rfl (hb hby at_316) rfl rfl kz) ?_
    refine Goes.step (T' := T94) (g' := (mkF m 320 #[.val (.int p0), .val (.int p1), .val (.int p2), .val (.int p3), .val (.int p4), .val (.int p5), .val (.int (0 : Int32)), .val (.ref b73), .val (.ref b84), .val (.ref b85), .val (.ref b_91), .val (.int ((Int32.ofNat 0) - (1 : Int32))), .val (.int (Int32.ofNat (SNM ([] : List Int32)).length))] [(.int ((Int32.ofNat 0) - (1 : Int32))), (.ref b73), (.int (Int32.ofNat (SNM ([] : List Int32)).length)), (.int (2 : Int32)), (.ref b_91)])) (fun _ kz => XS.iload X94.here hx rfl (hb hby at_318) rfl  kz) ?_
    obtain ⟨_, _, ⟨T95, L95, k95, n95⟩, -, X95, ⟨Lc95, hQ95, l95, y95, z95⟩, st95⟩ := Jvm.LawKit.callS X94 hx (y := (⟨"com/example/demarcation/demarcation/component/NamedAnnotationSimpleNamePinLaw", "at", "(Ljava/lang/String;II[CI)Z"⟩ : MethodName)) hown (mvT hZ (hw _ (List.mem_of_getElem? (i := 171) rfl))) (mvT hZ (hw _ (List.mem_of_getElem? (i := 172) rfl))) (mvT hZ (hw _ (List.mem_of_getElem? (i := 4) rfl))) (mvT hZ (hw _ (List.mem_of_getElem? (i := 173) rfl))) (by decide) (backOf (W := 0) (rm_at l Z a0 hw [] b_91 b73 ((SNM ([] : List Int32))) (([z_74, z_76, z_78, z_80, z_82] : List Int32)) (0) (2) (kc73) h91 n0 O0 zcs Scs hz_Scs fmt Sfm hz_Sfm E_b_91 G_b_91 V_b73 (by decide) (by decide) rfl (fun i hi => absurd (show i < 0 from hi) (Nat.not_lt_zero i))) hZ (hw _ (List.mem_of_getElem? (i := 173) rfl)) (hw _ (List.mem_of_getElem? (i := 4) rfl)) (by decide) (by decide)) (g := (mkF m 320 #[.val (.int p0), .val (.int p1), .val (.int p2), .val (.int p3), .val (.int p4), .val (.int p5), .val (.int (0 : Int32)), .val (.ref b73), .val (.ref b84), .val (.ref b85), .val (.ref b_91), .val (.int ((Int32.ofNat 0) - (1 : Int32))), .val (.int (Int32.ofNat (SNM ([] : List Int32)).length))] [(.int ((Int32.ofNat 0) - (1 : Int32))), (.ref b73), (.int (Int32.ofNat (SNM ([] : List Int32)).length)), (.int (2 : Int32)), (.ref b_91)])) rfl (by rw [hml]; rfl) (argsL := [(.ref b_91), (.int (2 : Int32)), (.int (Int32.ofNat (SNM ([] : List Int32)).length)), (.ref b73), (.int ((Int32.ofNat 0) - (1 : Int32)))]) (rest := []) (lenOf pd_22 rfl) rfl (by show 2 * 0 + _ ≤ _; exact Nat.le_of_eq rfl) (hb hby at_320) (fun _ _ => ⟨rfl, e94, (by decide : 14 + 0 ≤ _), (by decide : 49 + 0 ≤ _)⟩)
    dsimp only [Pt.U, Pt.locs, Pt.cells, Pt.slots] at X95 l95 y95 z95 st95 hQ95
    subst l95 y95 z95
    obtain ⟨rfl, rfl, e95⟩ := hQ95
    replace N0 := Fr.app N0 (Fr.nil n0)
    refine Goes.step (T' := T95) (g' := (mkF m 323 #[.val (.int p0), .val (.int p1), .val (.int p2), .val (.int p3), .val (.int p4), .val (.int p5), .val (.int (0 : Int32)), .val (.ref b73), .val (.ref b84), .val (.ref b85), .val (.ref b_91), .val (.int ((Int32.ofNat 0) - (1 : Int32))), .val (.int (Int32.ofNat (SNM ([] : List Int32)).length))] [(.int (1 : Int32))])) st95 ?_
    refine Goes.step (T' := T95) (g' := (mkF m 326 #[.val (.int p0), .val (.int p1), .val (.int p2), .val (.int p3), .val (.int p4), .val (.int p5), .val (.int (0 : Int32)), .val (.ref b73), .val (.ref b84), .val (.ref b85), .val (.ref b_91), .val (.int ((Int32.ofNat 0) - (1 : Int32))), .val (.int (Int32.ofNat (SNM ([] : List Int32)).length))] [])) (fun _ kz => XS.ifNo X95.here hx rfl (hb hby at_323) rfl ((if0 _ _).trans (feq (by decide : ¬ ((1 : Int32) = (0 : Int32)))).1) kz) ?_
    refine Goes.step (T' := T95) (g' := (mkF m 328 #[.val (.int p0), .val (.int p1), .val (.int p2), .val (.int p3), .val (.int p4), .val (.int p5), .val (.int (0 : Int32)), .val (.ref b73), .val (.ref b84), .val (.ref b85), .val (.ref b_91), .val (.int ((Int32.ofNat 0) - (1 : Int32))), .val (.int (Int32.ofNat (SNM ([] : List Int32)).length))] [(.ref b_91)])) (fun _ kz => XS.aload X95.here hx rfl (hb hby at_326) rfl rfl kz) ?_
    refine Goes.step (T' := T95) (g' := (mkF m 329 #[.val (.int p0), .val (.int p1), .val (.int p2), .val (.int p3), .val (.int p4), .val (.int p5), .val (.int (0 : Int32)), .val (.ref b73), .val (.ref b84), .val (.ref b85), .val (.ref b_91), .val (.int ((Int32.ofNat 0) - (1 : Int32))), .val (.int (Int32.ofNat (SNM ([] : List Int32)).length))] [(.int (3 : Int32)), (.ref b_91)])) (fun _ kz => XS.iconst X95.here hx rfl (hb hby at_328) kz) ?_
    refine Goes.step (T' := T95) (g' := (mkF m 331 #[.val (.int p0), .val (.int p1), .val (.int p2), .val (.int p3), .val (.int p4), .val (.int p5), .val (.int (0 : Int32)), .val (.ref b73), .val (.ref b84), .val (.ref b85), .val (.ref b_91), .val (.int ((Int32.ofNat 0) - (1 : Int32))), .val (.int (Int32.ofNat (SNM ([] : List Int32)).length))] [(.int (Int32.ofNat (SNM ([] : List Int32)).length)), (.int (3 : Int32)), (.ref b_91)])) (fun _ kz => XS.iload X95.here hx rfl (hb hby at_329) rfl  kz) ?_
    refine Goes.step (T' := T95) (g' := (mkF m 333 #[.val (.int p0), .val (.int p1), .val (.int p2), .val (.int p3), .val (.int p4), .val (.int p5), .val (.int (0 : Int32)), .val (.ref b73), .val (.ref b84), .val (.ref b85), .val (.ref b_91), .val (.int ((Int32.ofNat 0) - (1 : Int32))), .val (.int (Int32.ofNat (SNM ([] : List Int32)).length))] [(.ref b73), (.int (Int32.ofNat (SNM ([] : List Int32)).length)), (.int (3 : Int32)), (.ref b_91)])) (fun _ kz => XS.aload X95.here hx rfl (hb hby at_331) rfl rfl kz) ?_
    refine Goes.step (T' := T95) (g' := (mkF m 335 #[.val (.int p0), .val (.int p1), .val (.int p2), .val (.int p3), .val (.int p4), .val (.int p5), .val (.int (0 : Int32)), .val (.ref b73), .val (.ref b84), .val (.ref b85), .val (.ref b_91), .val (.int ((Int32.ofNat 0) - (1 : Int32))), .val (.int (Int32.ofNat (SNM ([] : List Int32)).length))] [(.int ((Int32.ofNat 0) - (1 : Int32))), (.ref b73), (.int (Int32.ofNat (SNM ([] : List Int32)).length)), (.int (3 : Int32)), (.ref b_91)])) (fun _ kz => XS.iload X95.here hx rfl (hb hby at_333) rfl  kz) ?_
    obtain ⟨_, _, ⟨T96, L96, k96, n96⟩, -, X96, ⟨Lc96, hQ96, l96, y96, z96⟩, st96⟩ := Jvm.LawKit.callS X95 hx (y := (⟨"com/example/demarcation/demarcation/component/NamedAnnotationSimpleNamePinLaw", "at", "(Ljava/lang/String;II[CI)Z"⟩ : MethodName)) hown (mvT hZ (hw _ (List.mem_of_getElem? (i := 171) rfl))) (mvT hZ (hw _ (List.mem_of_getElem? (i := 172) rfl))) (mvT hZ (hw _ (List.mem_of_getElem? (i := 4) rfl))) (mvT hZ (hw _ (List.mem_of_getElem? (i := 173) rfl))) (by decide) (backOf (W := 0) (rm_at l Z a0 hw [] b_91 b73 ((SNM ([] : List Int32))) (([z_74, z_76, z_78, z_80, z_82] : List Int32)) (0) (3) (kc73) h91 n0 O0 zcs Scs hz_Scs fmt Sfm hz_Sfm E_b_91 G_b_91 V_b73 (by decide) (by decide) rfl (fun i hi => absurd (show i < 0 from hi) (Nat.not_lt_zero i))) hZ (hw _ (List.mem_of_getElem? (i := 173) rfl)) (hw _ (List.mem_of_getElem? (i := 4) rfl)) (by decide) (by decide)) (g := (mkF m 335 #[.val (.int p0), .val (.int p1), .val (.int p2), .val (.int p3), .val (.int p4), .val (.int p5), .val (.int (0 : Int32)), .val (.ref b73), .val (.ref b84), .val (.ref b85), .val (.ref b_91), .val (.int ((Int32.ofNat 0) - (1 : Int32))), .val (.int (Int32.ofNat (SNM ([] : List Int32)).length))] [(.int ((Int32.ofNat 0) - (1 : Int32))), (.ref b73), (.int (Int32.ofNat (SNM ([] : List Int32)).length)), (.int (3 : Int32)), (.ref b_91)])) rfl (by rw [hml]; rfl) (argsL := [(.ref b_91), (.int (3 : Int32)), (.int (Int32.ofNat (SNM ([] : List Int32)).length)), (.ref b73), (.int ((Int32.ofNat 0) - (1 : Int32)))]) (rest := []) (lenOf pd_22 rfl) rfl (by show 2 * 0 + _ ≤ _; exact Nat.le_of_eq rfl) (hb hby at_335) (fun _ _ => ⟨rfl, e95, (by decide : 14 + 0 ≤ _), (by decide : 49 + 0 ≤ _)⟩)
    dsimp only [Pt.U, Pt.locs, Pt.cells, Pt.slots] at X96 l96 y96 z96 st96 hQ96
    subst l96 y96 z96
    obtain ⟨rfl, rfl, e96⟩ := hQ96
    replace N0 := Fr.app N0 (Fr.nil n0)
    refine Goes.step (T' := T96) (g' := (mkF m 338 #[.val (.int p0), .val (.int p1), .val (.int p2), .val (.int p3), .val (.int p4), .val (.int p5), .val (.int (0 : Int32)), .val (.ref b73), .val (.ref b84), .val (.ref b85), .val (.ref b_91), .val (.int ((Int32.ofNat 0) - (1 : Int32))), .val (.int (Int32.ofNat (SNM ([] : List Int32)).length))] [(.int (1 : Int32))])) st96 ?_
    refine Goes.step (T' := T96) (g' := (mkF m 341 #[.val (.int p0), .val (.int p1), .val (.int p2), .val (.int p3), .val (.int p4), .val (.int p5), .val (.int (0 : Int32)), .val (.ref b73), .val (.ref b84), .val (.ref b85), .val (.ref b_91), .val (.int ((Int32.ofNat 0) - (1 : Int32))), .val (.int (Int32.ofNat (SNM ([] : List Int32)).length))] [])) (fun _ kz => XS.ifNo X96.here hx rfl (hb hby at_338) rfl ((if0 _ _).trans (feq (by decide : ¬ ((1 : Int32) = (0 : Int32)))).1) kz) ?_
    refine Goes.step (T' := T96) (g' := (mkF m 343 #[.val (.int p0), .val (.int p1), .val (.int p2), .val (.int p3), .val (.int p4), .val (.int p5), .val (.int (0 : Int32)), .val (.ref b73), .val (.ref b84), .val (.ref b85), .val (.ref b_91), .val (.int ((Int32.ofNat 0) - (1 : Int32))), .val (.int (Int32.ofNat (SNM ([] : List Int32)).length))] [(.ref b_91)])) (fun _ kz => XS.aload X96.here hx rfl (hb hby at_341) rfl rfl kz) ?_
    refine Goes.step (T' := T96) (g' := (mkF m 344 #[.val (.int p0), .val (.int p1), .val (.int p2), .val (.int p3), .val (.int p4), .val (.int p5), .val (.int (0 : Int32)), .val (.ref b73), .val (.ref b84), .val (.ref b85), .val (.ref b_91), .val (.int ((Int32.ofNat 0) - (1 : Int32))), .val (.int (Int32.ofNat (SNM ([] : List Int32)).length))] [(.int (4 : Int32)), (.ref b_91)])) (fun _ kz => XS.iconst X96.here hx rfl (hb hby at_343) kz) ?_
    refine Goes.step (T' := T96) (g' := (mkF m 346 #[.val (.int p0), .val (.int p1), .val (.int p2), .val (.int p3), .val (.int p4), .val (.int p5), .val (.int (0 : Int32)), .val (.ref b73), .val (.ref b84), .val (.ref b85), .val (.ref b_91), .val (.int ((Int32.ofNat 0) - (1 : Int32))), .val (.int (Int32.ofNat (SNM ([] : List Int32)).length))] [(.int (Int32.ofNat (SNM ([] : List Int32)).length)), (.int (4 : Int32)), (.ref b_91)])) (fun _ kz => XS.iload X96.here hx rfl (hb hby at_344) rfl  kz) ?_
    refine Goes.step (T' := T96) (g' := (mkF m 348 #[.val (.int p0), .val (.int p1), .val (.int p2), .val (.int p3), .val (.int p4), .val (.int p5), .val (.int (0 : Int32)), .val (.ref b73), .val (.ref b84), .val (.ref b85), .val (.ref b_91), .val (.int ((Int32.ofNat 0) - (1 : Int32))), .val (.int (Int32.ofNat (SNM ([] : List Int32)).length))] [(.ref b73), (.int (Int32.ofNat (SNM ([] : List Int32)).length)), (.int (4 : Int32)), (.ref b_91)])) (fun _ kz => XS.aload X96.here hx rfl (hb hby at_346) rfl rfl kz) ?_
    refine Goes.step (T' := T96) (g' := (mkF m 350 #[.val (.int p0), .val (.int p1), .val (.int p2), .val (.int p3), .val (.int p4), .val (.int p5), .val (.int (0 : Int32)), .val (.ref b73), .val (.ref b84), .val (.ref b85), .val (.ref b_91), .val (.int ((Int32.ofNat 0) - (1 : Int32))), .val (.int (Int32.ofNat (SNM ([] : List Int32)).length))] [(.int ((Int32.ofNat 0) - (1 : Int32))), (.ref b73), (.int (Int32.ofNat (SNM ([] : List Int32)).length)), (.int (4 : Int32)), (.ref b_91)])) (fun _ kz => XS.iload X96.here hx rfl (hb hby at_348) rfl  kz) ?_
    obtain ⟨_, _, ⟨T97, L97, k97, n97⟩, -, X97, ⟨Lc97, hQ97, l97, y97, z97⟩, st97⟩ := Jvm.LawKit.callS X96 hx (y := (⟨"com/example/demarcation/demarcation/component/NamedAnnotationSimpleNamePinLaw", "at", "(Ljava/lang/String;II[CI)Z"⟩ : MethodName)) hown (mvT hZ (hw _ (List.mem_of_getElem? (i := 171) rfl))) (mvT hZ (hw _ (List.mem_of_getElem? (i := 172) rfl))) (mvT hZ (hw _ (List.mem_of_getElem? (i := 4) rfl))) (mvT hZ (hw _ (List.mem_of_getElem? (i := 173) rfl))) (by decide) (backOf (W := 0) (rm_at l Z a0 hw [] b_91 b73 ((SNM ([] : List Int32))) (([z_74, z_76, z_78, z_80, z_82] : List Int32)) (0) (4) (kc73) h91 n0 O0 zcs Scs hz_Scs fmt Sfm hz_Sfm E_b_91 G_b_91 V_b73 (by decide) (by decide) rfl (fun i hi => absurd (show i < 0 from hi) (Nat.not_lt_zero i))) hZ (hw _ (List.mem_of_getElem? (i := 173) rfl)) (hw _ (List.mem_of_getElem? (i := 4) rfl)) (by decide) (by decide)) (g := (mkF m 350 #[.val (.int p0), .val (.int p1), .val (.int p2), .val (.int p3), .val (.int p4), .val (.int p5), .val (.int (0 : Int32)), .val (.ref b73), .val (.ref b84), .val (.ref b85), .val (.ref b_91), .val (.int ((Int32.ofNat 0) - (1 : Int32))), .val (.int (Int32.ofNat (SNM ([] : List Int32)).length))] [(.int ((Int32.ofNat 0) - (1 : Int32))), (.ref b73), (.int (Int32.ofNat (SNM ([] : List Int32)).length)), (.int (4 : Int32)), (.ref b_91)])) rfl (by rw [hml]; rfl) (argsL := [(.ref b_91), (.int (4 : Int32)), (.int (Int32.ofNat (SNM ([] : List Int32)).length)), (.ref b73), (.int ((Int32.ofNat 0) - (1 : Int32)))]) (rest := []) (lenOf pd_22 rfl) rfl (by show 2 * 0 + _ ≤ _; exact Nat.le_of_eq rfl) (hb hby at_350) (fun _ _ => ⟨rfl, e96, (by decide : 14 + 0 ≤ _), (by decide : 49 + 0 ≤ _)⟩)
    dsimp only [Pt.U, Pt.locs, Pt.cells, Pt.slots] at X97 l97 y97 z97 st97 hQ97
    subst l97 y97 z97
    obtain ⟨rfl, rfl, e97⟩ := hQ97
    replace N0 := Fr.app N0 (Fr.nil n0)
    refine Goes.step (T' := T97) (g' := (mkF m 353 #[.val (.int p0), .val (.int p1), .val (.int p2), .val (.int p3), .val (.int p4), .val (.int p5), .val (.int (0 : Int32)), .val (.ref b73), .val (.ref b84), .val (.ref b85), .val (.ref b_91), .val (.int ((Int32.ofNat 0) - (1 : Int32))), .val (.int (Int32.ofNat (SNM ([] : List Int32)).length))] [(.int (1 : Int32))])) st97 ?_
    refine Goes.step (T' := T97) (g' := (mkF m 356 #[.val (.int p0), .val (.int p1), .val (.int p2), .val (.int p3), .val (.int p4), .val (.int p5), .val (.int (0 : Int32)), .val (.ref b73), .val (.ref b84), .val (.ref b85), .val (.ref b_91), .val (.int ((Int32.ofNat 0) - (1 : Int32))), .val (.int (Int32.ofNat (SNM ([] : List Int32)).length))] [])) (fun _ kz => XS.ifNo X97.here hx rfl (hb hby at_353) rfl ((if0 _ _).trans (feq (by decide : ¬ ((1 : Int32) = (0 : Int32)))).1) kz) ?_
    refine Goes.step (T' := T97) (g' := (mkF m 357 #[.val (.int p0), .val (.int p1), .val (.int p2), .val (.int p3), .val (.int p4), .val (.int p5), .val (.int (0 : Int32)), .val (.ref b73), .val (.ref b84), .val (.ref b85), .val (.ref b_91), .val (.int ((Int32.ofNat 0) - (1 : Int32))), .val (.int (Int32.ofNat (SNM ([] : List Int32)).length))] [(.int (1 : Int32))])) (fun _ kz => XS.iconst X97.here hx rfl (hb hby at_356) kz) ?_
    refine Goes.step (T' := T97) (g' := (mkF m 361 #[.val (.int p0), .val (.int p1), .val (.int p2), .val (.int p3), .val (.int p4), .val (.int p5), .val (.int (0 : Int32)), .val (.ref b73), .val (.ref b84), .val (.ref b85), .val (.ref b_91), .val (.int ((Int32.ofNat 0) - (1 : Int32))), .val (.int (Int32.ofNat (SNM ([] : List Int32)).length))] [(.int (1 : Int32))])) (fun _ kz => XS.goto X97.here hx rfl (pc0 := 357) (pc' := 361) rfl (hb hby at_357) (by decide) (by decide) kz) ?_
    obtain ⟨fs, hr, hrun, hended, hend⟩ := X97.leaveW hS0 (by rw [e97]; exact hk0) (v := some (.int (nar .boolean (1 : Int32)))) (fun h => by rw [Bd.returns] at h; cases h)
    exact ⟨_, _, retN X97 hx (t := .boolean) Bd.returns (by simp) (hb hby at_361) hr, hrun, hended, _, _, rfl, (by show Q_law Z p0 p1 p2 p3 p4 p5 h0 n0 _ T97.heap _; rw [e97]; exact ⟨rfl, N0, K0⟩), (by show CHr Z EL s.vm s.heap T97.vm T97.heap; rw [e97, hh]; exact C0.trans (CHv.at X97 hZ hEL C0.1)), own_mono hend (by decide) (by decide)⟩
  ·
    suffices J0 : ∀ (ba : Addr) (kba : ClassId) (k : Nat) (cs : List Int32) (g_ba : n0 ≤ ba) (sz_ba : h0.size ≤ ba) (ne_b73_ba : b73 ≠ ba) (hk1 : 1 ≤ k) (hk5 : k ≤ 5) (hcl : cs.length = k) (hcg : ∀ i, i < k → cs.getD i 0 = ([z_74, z_76, z_78, z_80, z_82] : List Int32).getD i 0) (hcb : ∀ c ∈ cs, ¬ c < 0 ∧ ¬ (255 : Int32) < c) (T98 : State) (h98 : Heap) (locs98 : List Loc) (X98 : Stand p l e room_1 (s.setVm s.vm) m #[(.int p0), (.int p1), (.int p2), (.int p3), (.int p4), (.int p5)] below meth c T98 locs98 2 10) (e98 : T98.heap = h98) (N0 : Fr n0 locs98) (K0 : Keep h0 h98 []) (O0 : Old Z n0 h98) (C0 : CHr Z EL s.vm h0 s.vm h98) (hk0 : h0.size ≤ h98.size) (S_b73 : Safe Z EL s.vm h98 b73) (V_b73 : Arv Z h98 b73 kc73 .char (5 : Int32) [(.int z_74), (.int z_76), (.int z_78), (.int z_80), (.int z_82)] (.int (0 : Int32))) (V_ba : Arv Z h98 ba kba .char (Int32.ofNat k) (cs.map Value.int) (.int (0 : Int32))) (S_ba : Safe Z EL s.vm h98 ba), Goes p e below (fun o U' => ∃ v L, o = .returned v ∧ Q_law Z p0 p1 p2 p3 p4 p5 h0 n0 v U'.heap L ∧ CHr Z EL s.vm s.heap U'.vm U'.heap ∧ ReturnedEndW s o U' L 40 2240) T98 (mkF m 126 #[.val (.int p0), .val (.int p1), .val (.int p2), .val (.int p3), .val (.int p4), .val (.int p5), .val (.int (Int32.ofNat k)), .val (.ref b73), .val (.ref ba), .unset, .unset, .unset, .unset] []) by
      rcases own_mod6' p5 hz6 with h6 | h6 | h6 | h6 | h6
      ·
        rw [h6]
        refine Goes.step (T' := T83) (g' := (mkF m 53 #[.val (.int p0), .val (.int p1), .val (.int p2), .val (.int p3), .val (.int p4), .val (.int p5), .val (.int (1 : Int32)), .val (.ref b73), .unset, .unset, .unset, .unset, .unset] [(.int (1 : Int32))])) (fun _ kz => XS.iload X83.here hx rfl (hb hby at_51) rfl  kz) ?_
        obtain ⟨T99, h99, kc99, X99, e99, Ex99, A99, st99⟩ := newP X83 hx hZ (hw _ (List.mem_of_getElem? (i := 1) rfl)) e83 (g := (mkF m 53 #[.val (.int p0), .val (.int p1), .val (.int p2), .val (.int p3), .val (.int p4), .val (.int p5), .val (.int (1 : Int32)), .val (.ref b73), .unset, .unset, .unset, .unset, .unset] [(.int (1 : Int32))])) rfl (hb hby at_53) rfl (by decide) (cap := 1) (by decide) (by decide) (by decide) (by decide)
        obtain ⟨b99, gg99⟩ : ∃ z, z = h83.size := ⟨_, rfl⟩
        rw [← gg99] at A99 st99
        have g_b99 : n0 ≤ b99 := Nat.le_trans (own_n0 O0) (Nat.le_of_eq gg99.symm)
        have sz_b99 : h0.size ≤ b99 := Nat.le_trans K0.1 (Nat.le_of_eq gg99.symm)
        have ne_b73_b99 : b73 ≠ b99 := Nat.ne_of_lt (Nat.lt_of_lt_of_le V_b73.lt (Nat.le_of_eq gg99.symm))
        have S_b99 := (Safe.new (Z := Z) (EL := EL) (vm := s.vm) (Nat.le_of_eq gg99.symm)).ext Ex99 C0.1
        replace S_b73 := S_b73.ext Ex99 C0.1
        replace V_b73 := V_b73.ext Ex99
        replace O0 := O0.ext Ex99
        replace K0 := K0.ext Ex99
        replace C0 := C0.trans (CHr.ext Ex99 C0.1)
        replace hk0 := Nat.le_trans hk0 Ex99.1
        have V_b99 : Arv Z h99 b99 kc99 .char (1 : Int32) [(.int (0 : Int32))] (.int (0 : Int32)) := (Arv.new A99 (by decide)).pad (pad_rep [] (.int (0 : Int32)) 1)
        refine Goes.step (T' := T99) (g' := (mkF m 55 #[.val (.int p0), .val (.int p1), .val (.int p2), .val (.int p3), .val (.int p4), .val (.int p5), .val (.int (1 : Int32)), .val (.ref b73), .unset, .unset, .unset, .unset, .unset] [(.ref b99)])) st99 ?_
        refine Goes.step (T' := T99) (g' := (mkF m 57 #[.val (.int p0), .val (.int p1), .val (.int p2), .val (.int p3), .val (.int p4), .val (.int p5), .val (.int (1 : Int32)), .val (.ref b73), .val (.ref b99), .unset, .unset, .unset, .unset] [])) (fun _ kz => XS.astore X99.here hx rfl (hb hby at_55) rfl rfl (l' := #[.val (.int p0), .val (.int p1), .val (.int p2), .val (.int p3), .val (.int p4), .val (.int p5), .val (.int (1 : Int32)), .val (.ref b73), .val (.ref b99), .unset, .unset, .unset, .unset]) rfl kz) ?_
        refine Goes.step (T' := T99) (g' := (mkF m 59 #[.val (.int p0), .val (.int p1), .val (.int p2), .val (.int p3), .val (.int p4), .val (.int p5), .val (.int (1 : Int32)), .val (.ref b73), .val (.ref b99), .unset, .unset, .unset, .unset] [(.int (1 : Int32))])) (fun _ kz => XS.iload X99.here hx rfl (hb hby at_57) rfl  kz) ?_
        refine Goes.step (T' := T99) (g' := (mkF m 62 #[.val (.int p0), .val (.int p1), .val (.int p2), .val (.int p3), .val (.int p4), .val (.int p5), .val (.int (1 : Int32)), .val (.ref b73), .val (.ref b99), .unset, .unset, .unset, .unset] [])) (fun _ kz => XS.ifNo X99.here hx rfl (hb hby at_59) rfl ((if0 _ _).trans (tlt (by decide : ((0 : Int32) < (1 : Int32)))).2.2.2) kz) ?_
        refine Goes.step (T' := T99) (g' := (mkF m 64 #[.val (.int p0), .val (.int p1), .val (.int p2), .val (.int p3), .val (.int p4), .val (.int p5), .val (.int (1 : Int32)), .val (.ref b73), .val (.ref b99), .unset, .unset, .unset, .unset] [(.ref b99)])) (fun _ kz => XS.aload X99.here hx rfl (hb hby at_62) rfl rfl kz) ?_
        refine Goes.step (T' := T99) (g' := (mkF m 65 #[.val (.int p0), .val (.int p1), .val (.int p2), .val (.int p3), .val (.int p4), .val (.int p5), .val (.int (1 : Int32)), .val (.ref b73), .val (.ref b99), .unset, .unset, .unset, .unset] [(.int (0 : Int32)), (.ref b99)])) (fun _ kz => XS.iconst X99.here hx rfl (hb hby at_64) kz) ?_
        refine Goes.step (T' := T99) (g' := (mkF m 67 #[.val (.int p0), .val (.int p1), .val (.int p2), .val (.int p3), .val (.int p4), .val (.int p5), .val (.int (1 : Int32)), .val (.ref b73), .val (.ref b99), .unset, .unset, .unset, .unset] [(.ref b73), (.int (0 : Int32)), (.ref b99)])) (fun _ kz => XS.aload X99.here hx rfl (hb hby at_65) rfl rfl kz) ?_
        refine Goes.step (T' := T99) (g' := (mkF m 68 #[.val (.int p0), .val (.int p1), .val (.int p2), .val (.int p3), .val (.int p4), .val (.int p5), .val (.int (1 : Int32)), .val (.ref b73), .val (.ref b99), .unset, .unset, .unset, .unset] [(.int (0 : Int32)), (.ref b73), (.int (0 : Int32)), (.ref b99)])) (fun _ kz => XS.iconst X99.here hx rfl (hb hby at_67) kz) ?_
        obtain ⟨cl100, Ar100, q100, Sz100, Nn100, Hs100, Gs100⟩ := (id V_b73 : Arv Z h99 b73 kc73 .char (5 : Int32) [(.int z_74), (.int z_76), (.int z_78), (.int z_80), (.int z_82)] (.int (0 : Int32)))
        refine Goes.step (T' := T99) (g' := (mkF m 69 #[.val (.int p0), .val (.int p1), .val (.int p2), .val (.int p3), .val (.int p4), .val (.int p5), .val (.int (1 : Int32)), .val (.ref b73), .val (.ref b99), .unset, .unset, .unset, .unset] [(.int z_74), (.int (0 : Int32)), (.ref b99)])) (X99.caload hx (j := (0 : Int32)) (v := (.int z_74)) (by rw [e99]; exact Ar100.1) (State.isArrayOf_alike hZ.alike Ar100.2.1) Ar100.2.2 (inb_of Sz100 ⟨by decide, by decide⟩) (Has.at Hs100 (inb_of Sz100 ⟨by decide, by decide⟩) rfl) (g := (mkF m 68 #[.val (.int p0), .val (.int p1), .val (.int p2), .val (.int p3), .val (.int p4), .val (.int p5), .val (.int (1 : Int32)), .val (.ref b73), .val (.ref b99), .unset, .unset, .unset, .unset] [(.int (0 : Int32)), (.ref b73), (.int (0 : Int32)), (.ref b99)])) rfl rfl (hb hby at_68)) ?_
        obtain ⟨cl101, Ar101, q101, Sz101, Nn101, Hs101, Gs101⟩ := (id V_b99 : Arv Z h99 b99 kc99 .char (1 : Int32) [(.int (0 : Int32))] (.int (0 : Int32)))
        obtain ⟨T101, h101, X101, e101, W101, st101⟩ := stC X99 hx hZ e99 Ar101 (j := (0 : Int32)) (inb_of Sz101 ⟨by decide, by decide⟩) (g := (mkF m 69 #[.val (.int p0), .val (.int p1), .val (.int p2), .val (.int p3), .val (.int p4), .val (.int p5), .val (.int (1 : Int32)), .val (.ref b73), .val (.ref b99), .unset, .unset, .unset, .unset] [(.int z_74), (.int (0 : Int32)), (.ref b99)])) rfl rfl (hb hby at_69)
        replace V_b99 : Arv Z h101 b99 kc99 .char (1 : Int32) [(.int (nar .char z_74))] (.int (0 : Int32)) := Arv.set Ar101 q101 Sz101 Nn101 Hs101 Gs101 (fits_nar_char _) W101 0 rfl (Nat.le_of_ble_eq_true rfl)
        replace N0 := Fr.snoc X101 N0 g_b99
        have Sw : Safe Z EL s.vm h99 b99 := S_b99
        replace S_b73 := Safe.wr W101 Sw C0.1 S_b73
        replace S_b99 := Safe.wr W101 Sw C0.1 S_b99
        replace C0 := C0.trans (CHr.wr W101 Sw C0.1)
        replace hk0 := Nat.le_trans hk0 (Nat.le_of_eq W101.size.symm)
        replace V_b73 := V_b73.other W101 ne_b73_b99
        replace O0 := O0.wr W101 g_b99
        replace K0 := K0.wr W101 (Or.inr sz_b99)
        refine Goes.step (T' := T101) (g' := (mkF m 70 #[.val (.int p0), .val (.int p1), .val (.int p2), .val (.int p3), .val (.int p4), .val (.int p5), .val (.int (1 : Int32)), .val (.ref b73), .val (.ref b99), .unset, .unset, .unset, .unset] [])) st101 ?_
        refine Goes.step (T' := T101) (g' := (mkF m 72 #[.val (.int p0), .val (.int p1), .val (.int p2), .val (.int p3), .val (.int p4), .val (.int p5), .val (.int (1 : Int32)), .val (.ref b73), .val (.ref b99), .unset, .unset, .unset, .unset] [(.int (1 : Int32))])) (fun _ kz => XS.iload X101.here hx rfl (hb hby at_70) rfl  kz) ?_
        refine Goes.step (T' := T101) (g' := (mkF m 73 #[.val (.int p0), .val (.int p1), .val (.int p2), .val (.int p3), .val (.int p4), .val (.int p5), .val (.int (1 : Int32)), .val (.ref b73), .val (.ref b99), .unset, .unset, .unset, .unset] [(.int (1 : Int32)), (.int (1 : Int32))])) (fun _ kz => XS.iconst X101.here hx rfl (hb hby at_72) kz) ?_
        refine Goes.step (T' := T101) (g' := (mkF m 84 #[.val (.int p0), .val (.int p1), .val (.int p2), .val (.int p3), .val (.int p4), .val (.int p5), .val (.int (1 : Int32)), .val (.ref b73), .val (.ref b99), .unset, .unset, .unset, .unset] [])) (fun _ kz => XS.icmpYes X101.here hx rfl (pc0 := 73) (pc' := 84) rfl (hb hby at_73) rfl (flt (by decide : ¬ ((1 : Int32) < (1 : Int32)))).2.2.2 (by decide) (by decide) kz) ?_
        refine Goes.step (T' := T101) (g' := (mkF m 86 #[.val (.int p0), .val (.int p1), .val (.int p2), .val (.int p3), .val (.int p4), .val (.int p5), .val (.int (1 : Int32)), .val (.ref b73), .val (.ref b99), .unset, .unset, .unset, .unset] [(.int (1 : Int32))])) (fun _ kz => XS.iload X101.here hx rfl (hb hby at_84) rfl  kz) ?_
        refine Goes.step (T' := T101) (g' := (mkF m 87 #[.val (.int p0), .val (.int p1), .val (.int p2), .val (.int p3), .val (.int p4), .val (.int p5), .val (.int (1 : Int32)), .val (.ref b73), .val (.ref b99), .unset, .unset, .unset, .unset] [(.int (2 : Int32)), (.int (1 : Int32))])) (fun _ kz => XS.iconst X101.here hx rfl (hb hby at_86) kz) ?_
        refine Goes.step (T' := T101) (g' := (mkF m 98 #[.val (.int p0), .val (.int p1), .val (.int p2), .val (.int p3), .val (.int p4), .val (.int p5), .val (.int (1 : Int32)), .val (.ref b73), .val (.ref b99), .unset, .unset, .unset, .unset] [])) (fun _ kz => XS.icmpYes X101.here hx rfl (pc0 := 87) (pc' := 98) rfl (hb hby at_87) rfl (flt (by decide : ¬ ((2 : Int32) < (1 : Int32)))).2.2.2 (by decide) (by decide) kz) ?_
        refine Goes.step (T' := T101) (g' := (mkF m 100 #[.val (.int p0), .val (.int p1), .val (.int p2), .val (.int p3), .val (.int p4), .val (.int p5), .val (.int (1 : Int32)), .val (.ref b73), .val (.ref b99), .unset, .unset, .unset, .unset] [(.int (1 : Int32))])) (fun _ kz => XS.iload X101.here hx rfl (hb hby at_98) rfl  kz) ?_
        refine Goes.step (T' := T101) (g' := (mkF m 101 #[.val (.int p0), .val (.int p1), .val (.int p2), .val (.int p3), .val (.int p4), .val (.int p5), .val (.int (1 : Int32)), .val (.ref b73), .val (.ref b99), .unset, .unset, .unset, .unset] [(.int (3 : Int32)), (.int (1 : Int32))])) (fun _ kz => XS.iconst X101.here hx rfl (hb hby at_100) kz) ?_
        refine Goes.step (T' := T101) (g' := (mkF m 112 #[.val (.int p0), .val (.int p1), .val (.int p2), .val (.int p3), .val (.int p4), .val (.int p5), .val (.int (1 : Int32)), .val (.ref b73), .val (.ref b99), .unset, .unset, .unset, .unset] [])) (fun _ kz => XS.icmpYes X101.here hx rfl (pc0 := 101) (pc' := 112) rfl (hb hby at_101) rfl (flt (by decide : ¬ ((3 : Int32) < (1 : Int32)))).2.2.2 (by decide) (by decide) kz) ?_
        refine Goes.step (T' := T101) (g' := (mkF m 114 #[.val (.int p0), .val (.int p1), .val (.int p2), .val (.int p3), .val (.int p4), .val (.int p5), .val (.int (1 : Int32)), .val (.ref b73), .val (.ref b99), .unset, .unset, .unset, .unset] [(.int (1 : Int32))])) (fun _ kz => XS.iload X101.here hx rfl (hb hby at_112) rfl  kz) ?_
        refine Goes.step (T' := T101) (g' := (mkF m 115 #[.val (.int p0), .val (.int p1), .val (.int p2), .val (.int p3), .val (.int p4), .val (.int p5), .val (.int (1 : Int32)), .val (.ref b73), .val (.ref b99), .unset, .unset, .unset, .unset] [(.int (4 : Int32)), (.int (1 : Int32))])) (fun _ kz => XS.iconst X101.here hx rfl (hb hby at_114) kz) ?_
        refine Goes.step (T' := T101) (g' := (mkF m 126 #[.val (.int p0), .val (.int p1), .val (.int p2), .val (.int p3), .val (.int p4), .val (.int p5), .val (.int (1 : Int32)), .val (.ref b73), .val (.ref b99), .unset, .unset, .unset, .unset] [])) (fun _ kz => XS.icmpYes X101.here hx rfl (pc0 := 115) (pc' := 126) rfl (hb hby at_115) rfl (flt (by decide : ¬ ((4 : Int32) < (1 : Int32)))).2.2.2 (by decide) (by decide) kz) ?_
        rw [hnz_74] at V_b99
        exact J0 (b99) (kc99) (1) ([z_74]) (g_b99) (sz_b99) (ne_b73_b99) (by decide) (by decide) (rfl) (fun i hi => match i, hi with | 0, _ => rfl | i + 1, hi => absurd hi (by omega)) ((List.forall_mem_cons.mpr ⟨hbz_74, (fun _ h => nomatch h)⟩)) _ _ _ (X101.mono (by decide) (by decide)) e101 N0 K0 O0 C0 hk0 S_b73 V_b73 V_b99 S_b99
      ·
        rw [h6]
        refine Goes.step (T' := T83) (g' := (mkF m 53 #[.val (.int p0), .val (.int p1), .val (.int p2), .val (.int p3), .val (.int p4), .val (.int p5), .val (.int (2 : Int32)), .val (.ref b73), .unset, .unset, .unset, .unset, .unset] [(.int (2 : Int32))])) (fun _ kz => XS.iload X83.here hx rfl (hb hby at_51) rfl  kz) ?_
        obtain ⟨T102, h102, kc102, X102, e102, Ex102, A102, st102⟩ := newP X83 hx hZ (hw _ (List.mem_of_getElem? (i := 1) rfl)) e83 (g := (mkF m 53 #[.val (.int p0), .val (.int p1), .val (.int p2), .val (.int p3), .val (.int p4), .val (.int p5), .val (.int (2 : Int32)), .val (.ref b73), .unset, .unset, .unset, .unset, .unset] [(.int (2 : Int32))])) rfl (hb hby at_53) rfl (by decide) (cap := 2) (by decide) (by decide) (by decide) (by decide)
        obtain ⟨b102, gg102⟩ : ∃ z, z = h83.size := ⟨_, rfl⟩
        rw [← gg102] at A102 st102
        have g_b102 : n0 ≤ b102 := Nat.le_trans (own_n0 O0) (Nat.le_of_eq gg102.symm)
        have sz_b102 : h0.size ≤ b102 := Nat.le_trans K0.1 (Nat.le_of_eq gg102.symm)
        have ne_b73_b102 : b73 ≠ b102 := Nat.ne_of_lt (Nat.lt_of_lt_of_le V_b73.lt (Nat.le_of_eq gg102.symm))
        have S_b102 := (Safe.new (Z := Z) (EL := EL) (vm := s.vm) (Nat.le_of_eq gg102.symm)).ext Ex102 C0.1
        replace S_b73 := S_b73.ext Ex102 C0.1
        replace V_b73 := V_b73.ext Ex102
        replace O0 := O0.ext Ex102
        replace K0 := K0.ext Ex102
        replace C0 := C0.trans (CHr.ext Ex102 C0.1)
        replace hk0 := Nat.le_trans hk0 Ex102.1
        have V_b102 : Arv Z h102 b102 kc102 .char (2 : Int32) [(.int (0 : Int32)), (.int (0 : Int32))] (.int (0 : Int32)) := (Arv.new A102 (by decide)).pad (pad_rep [] (.int (0 : Int32)) 2)
        refine Goes.step (T' := T102) (g' := (mkF m 55 #[.val (.int p0), .val (.int p1), .val (.int p2), .val (.int p3), .val (.int p4), .val (.int p5), .val (.int (2 : Int32)), .val (.ref b73), .unset, .unset, .unset, .unset, .unset] [(.ref b102)])) st102 ?_
        refine Goes.step (T' := T102) (g' := (mkF m 57 #[.val (.int p0), .val (.int p1), .val (.int p2), .val (.int p3), .val (.int p4), .val (.int p5), .val (.int (2 : Int32)), .val (.ref b73), .val (.ref b102), .unset, .unset, .unset, .unset] [])) (fun _ kz => XS.astore X102.here hx rfl (hb hby at_55) rfl rfl (l' := #[.val (.int p0), .val (.int p1), .val (.int p2), .val (.int p3), .val (.int p4), .val (.int p5), .val (.int (2 : Int32)), .val (.ref b73), .val (.ref b102), .unset, .unset, .unset, .unset]) rfl kz) ?_
        refine Goes.step (T' := T102) (g' := (mkF m 59 #[.val (.int p0), .val (.int p1), .val (.int p2), .val (.int p3), .val (.int p4), .val (.int p5), .val (.int (2 : Int32)), .val (.ref b73), .val (.ref b102), .unset, .unset, .unset, .unset] [(.int (2 : Int32))])) (fun _ kz => XS.iload X102.here hx rfl (hb hby at_57) rfl  kz) ?_
        refine Goes.step (T' := T102) (g' := (mkF m 62 #[.val (.int p0), .val (.int p1), .val (.int p2), .val (.int p3), .val (.int p4), .val (.int p5), .val (.int (2 : Int32)), .val (.ref b73), .val (.ref b102), .unset, .unset, .unset, .unset] [])) (fun _ kz => XS.ifNo X102.here hx rfl (hb hby at_59) rfl ((if0 _ _).trans (tlt (by decide : ((0 : Int32) < (2 : Int32)))).2.2.2) kz) ?_
        refine Goes.step (T' := T102) (g' := (mkF m 64 #[.val (.int p0), .val (.int p1), .val (.int p2), .val (.int p3), .val (.int p4), .val (.int p5), .val (.int (2 : Int32)), .val (.ref b73), .val (.ref b102), .unset, .unset, .unset, .unset] [(.ref b102)])) (fun _ kz => XS.aload X102.here hx rfl (hb hby at_62) rfl rfl kz) ?_
        refine Goes.step (T' := T102) (g' := (mkF m 65 #[.val (.int p0), .val (.int p1), .val (.int p2), .val (.int p3), .val (.int p4), .val (.int p5), .val (.int (2 : Int32)), .val (.ref b73), .val (.ref b102), .unset, .unset, .unset, .unset] [(.int (0 : Int32)), (.ref b102)])) (fun _ kz => XS.iconst X102.here hx rfl (hb hby at_64) kz) ?_
        refine Goes.step (T' := T102) (g' := (mkF m 67 #[.val (.int p0), .val (.int p1), .val (.int p2), .val (.int p3), .val (.int p4), .val (.int p5), .val (.int (2 : Int32)), .val (.ref b73), .val (.ref b102), .unset, .unset, .unset, .unset] [(.ref b73), (.int (0 : Int32)), (.ref b102)])) (fun _ kz => XS.aload X102.here hx rfl (hb hby at_65) rfl rfl kz) ?_
        refine Goes.step (T' := T102) (g' := (mkF m 68 #[.val (.int p0), .val (.int p1), .val (.int p2), .val (.int p3), .val (.int p4), .val (.int p5), .val (.int (2 : Int32)), .val (.ref b73), .val (.ref b102), .unset, .unset, .unset, .unset] [(.int (0 : Int32)), (.ref b73), (.int (0 : Int32)), (.ref b102)])) (fun _ kz => XS.iconst X102.here hx rfl (hb hby at_67) kz) ?_
        obtain ⟨cl103, Ar103, q103, Sz103, Nn103, Hs103, Gs103⟩ := (id V_b73 : Arv Z h102 b73 kc73 .char (5 : Int32) [(.int z_74), (.int z_76), (.int z_78), (.int z_80), (.int z_82)] (.int (0 : Int32)))
        refine Goes.step (T' := T102) (g' := (mkF m 69 #[.val (.int p0), .val (.int p1), .val (.int p2), .val (.int p3), .val (.int p4), .val (.int p5), .val (.int (2 : Int32)), .val (.ref b73), .val (.ref b102), .unset, .unset, .unset, .unset] [(.int z_74), (.int (0 : Int32)), (.ref b102)])) (X102.caload hx (j := (0 : Int32)) (v := (.int z_74)) (by rw [e102]; exact Ar103.1) (State.isArrayOf_alike hZ.alike Ar103.2.1) Ar103.2.2 (inb_of Sz103 ⟨by decide, by decide⟩) (Has.at Hs103 (inb_of Sz103 ⟨by decide, by decide⟩) rfl) (g := (mkF m 68 #[.val (.int p0), .val (.int p1), .val (.int p2), .val (.int p3), .val (.int p4), .val (.int p5), .val (.int (2 : Int32)), .val (.ref b73), .val (.ref b102), .unset, .unset, .unset, .unset] [(.int (0 : Int32)), (.ref b73), (.int (0 : Int32)), (.ref b102)])) rfl rfl (hb hby at_68)) ?_
        obtain ⟨cl104, Ar104, q104, Sz104, Nn104, Hs104, Gs104⟩ := (id V_b102 : Arv Z h102 b102 kc102 .char (2 : Int32) [(.int (0 : Int32)), (.int (0 : Int32))] (.int (0 : Int32)))
        obtain ⟨T104, h104, X104, e104, W104, st104⟩ := stC X102 hx hZ e102 Ar104 (j := (0 : Int32)) (inb_of Sz104 ⟨by decide, by decide⟩) (g := (mkF m 69 #[.val (.int p0), .val (.int p1), .val (.int p2), .val (.int p3), .val (.int p4), .val (.int p5), .val (.int (2 : Int32)), .val (.ref b73), .val (.ref b102), .unset, .unset, .unset, .unset] [(.int z_74), (.int (0 : Int32)), (.ref b102)])) rfl rfl (hb hby at_69)
        replace V_b102 : Arv Z h104 b102 kc102 .char (2 : Int32) [(.int (nar .char z_74)), (.int (0 : Int32))] (.int (0 : Int32)) := Arv.set Ar104 q104 Sz104 Nn104 Hs104 Gs104 (fits_nar_char _) W104 0 rfl (Nat.le_of_ble_eq_true rfl)
        replace N0 := Fr.snoc X104 N0 g_b102
        have Sw : Safe Z EL s.vm h102 b102 := S_b102
        replace S_b73 := Safe.wr W104 Sw C0.1 S_b73
        replace S_b102 := Safe.wr W104 Sw C0.1 S_b102
        replace C0 := C0.trans (CHr.wr W104 Sw C0.1)
        replace hk0 := Nat.le_trans hk0 (Nat.le_of_eq W104.size.symm)
        replace V_b73 := V_b73.other W104 ne_b73_b102
        replace O0 := O0.wr W104 g_b102
        replace K0 := K0.wr W104 (Or.inr sz_b102)
        refine Goes.step (T' := T104) (g' := (mkF m 70 #[.val (.int p0), .val (.int p1), .val (.int p2), .val (.int p3), .val (.int p4), .val (.int p5), .val (.int (2 : Int32)), .val (.ref b73), .val (.ref b102), .unset, .unset, .unset, .unset] [])) st104 ?_
        refine Goes.step (T' := T104) (g' := (mkF m 72 #[.val (.int p0), .val (.int p1), .val (.int p2), .val (.int p3), .val (.int p4), .val (.int p5), .val (.int (2 : Int32)), .val (.ref b73), .val (.ref b102), .unset, .unset, .unset, .unset] [(.int (2 : Int32))])) (fun _ kz => XS.iload X104.here hx rfl (hb hby at_70) rfl  kz) ?_
        refine Goes.step (T' := T104) (g' := (mkF m 73 #[.val (.int p0), .val (.int p1), .val (.int p2), .val (.int p3), .val (.int p4), .val (.int p5), .val (.int (2 : Int32)), .val (.ref b73), .val (.ref b102), .unset, .unset, .unset, .unset] [(.int (1 : Int32)), (.int (2 : Int32))])) (fun _ kz => XS.iconst X104.here hx rfl (hb hby at_72) kz) ?_
        refine Goes.step (T' := T104) (g' := (mkF m 76 #[.val (.int p0), .val (.int p1), .val (.int p2), .val (.int p3), .val (.int p4), .val (.int p5), .val (.int (2 : Int32)), .val (.ref b73), .val (.ref b102), .unset, .unset, .unset, .unset] [])) (fun _ kz => XS.icmpNo X104.here hx rfl (hb hby at_73) rfl (tlt (by decide : ((1 : Int32) < (2 : Int32)))).2.2.2 kz) ?_
        refine Goes.step (T' := T104) (g' := (mkF m 78 #[.val (.int p0), .val (.int p1), .val (.int p2), .val (.int p3), .val (.int p4), .val (.int p5), .val (.int (2 : Int32)), .val (.ref b73), .val (.ref b102), .unset, .unset, .unset, .unset] [(.ref b102)])) (fun _ kz => XS.aload X104.here hx rfl (hb hby at_76) rfl rfl kz) ?_
        refine Goes.step (T' := T104) (g' := (mkF m 79 #[.val (.int p0), .val (.int p1), .val (.int p2), .val (.int p3), .val (.int p4), .val (.int p5), .val (.int (2 : Int32)), .val (.ref b73), .val (.ref b102), .unset, .unset, .unset, .unset] [(.int (1 : Int32)), (.ref b102)])) (fun _ kz => XS.iconst X104.here hx rfl (hb hby at_78) kz) ?_
        refine Goes.step (T' := T104) (g' := (mkF m 81 #[.val (.int p0), .val (.int p1), .val (.int p2), .val (.int p3), .val (.int p4), .val (.int p5), .val (.int (2 : Int32)), .val (.ref b73), .val (.ref b102), .unset, .unset, .unset, .unset] [(.ref b73), (.int (1 : Int32)), (.ref b102)])) (fun _ kz => XS.aload X104.here hx rfl (hb hby at_79) rfl rfl kz) ?_
        refine Goes.step (T' := T104) (g' := (mkF m 82 #[.val (.int p0), .val (.int p1), .val (.int p2), .val (.int p3), .val (.int p4), .val (.int p5), .val (.int (2 : Int32)), .val (.ref b73), .val (.ref b102), .unset, .unset, .unset, .unset] [(.int (1 : Int32)), (.ref b73), (.int (1 : Int32)), (.ref b102)])) (fun _ kz => XS.iconst X104.here hx rfl (hb hby at_81) kz) ?_
        obtain ⟨cl105, Ar105, q105, Sz105, Nn105, Hs105, Gs105⟩ := (id V_b73 : Arv Z h104 b73 kc73 .char (5 : Int32) [(.int z_74), (.int z_76), (.int z_78), (.int z_80), (.int z_82)] (.int (0 : Int32)))
        refine Goes.step (T' := T104) (g' := (mkF m 83 #[.val (.int p0), .val (.int p1), .val (.int p2), .val (.int p3), .val (.int p4), .val (.int p5), .val (.int (2 : Int32)), .val (.ref b73), .val (.ref b102), .unset, .unset, .unset, .unset] [(.int z_76), (.int (1 : Int32)), (.ref b102)])) (X104.caload hx (j := (1 : Int32)) (v := (.int z_76)) (by rw [e104]; exact Ar105.1) (State.isArrayOf_alike hZ.alike Ar105.2.1) Ar105.2.2 (inb_of Sz105 ⟨by decide, by decide⟩) (Has.at Hs105 (inb_of Sz105 ⟨by decide, by decide⟩) rfl) (g := (mkF m 82 #[.val (.int p0), .val (.int p1), .val (.int p2), .val (.int p3), .val (.int p4), .val (.int p5), .val (.int (2 : Int32)), .val (.ref b73), .val (.ref b102), .unset, .unset, .unset, .unset] [(.int (1 : Int32)), (.ref b73), (.int (1 : Int32)), (.ref b102)])) rfl rfl (hb hby at_82)) ?_
        obtain ⟨cl106, Ar106, q106, Sz106, Nn106, Hs106, Gs106⟩ := (id V_b102 : Arv Z h104 b102 kc102 .char (2 : Int32) [(.int (nar .char z_74)), (.int (0 : Int32))] (.int (0 : Int32)))
        obtain ⟨T106, h106, X106, e106, W106, st106⟩ := stC X104 hx hZ e104 Ar106 (j := (1 : Int32)) (inb_of Sz106 ⟨by decide, by decide⟩) (g := (mkF m 83 #[.val (.int p0), .val (.int p1), .val (.int p2), .val (.int p3), .val (.int p4), .val (.int p5), .val (.int (2 : Int32)), .val (.ref b73), .val (.ref b102), .unset, .unset, .unset, .unset] [(.int z_76), (.int (1 : Int32)), (.ref b102)])) rfl rfl (hb hby at_83)
        replace V_b102 : Arv Z h106 b102 kc102 .char (2 : Int32) [(.int (nar .char z_74)), (.int (nar .char z_76))] (.int (0 : Int32)) := Arv.set Ar106 q106 Sz106 Nn106 Hs106 Gs106 (fits_nar_char _) W106 1 rfl (Nat.le_of_ble_eq_true rfl)
        replace N0 := Fr.snoc X106 N0 g_b102
        have Sw : Safe Z EL s.vm h104 b102 := S_b102
        replace S_b73 := Safe.wr W106 Sw C0.1 S_b73
        replace S_b102 := Safe.wr W106 Sw C0.1 S_b102
        replace C0 := C0.trans (CHr.wr W106 Sw C0.1)
        replace hk0 := Nat.le_trans hk0 (Nat.le_of_eq W106.size.symm)
        replace V_b73 := V_b73.other W106 ne_b73_b102
        replace O0 := O0.wr W106 g_b102
        replace K0 := K0.wr W106 (Or.inr sz_b102)
        refine Goes.step (T' := T106) (g' := (mkF m 84 #[.val (.int p0), .val (.int p1), .val (.int p2), .val (.int p3), .val (.int p4), .val (.int p5), .val (.int (2 : Int32)), .val (.ref b73), .val (.ref b102), .unset, .unset, .unset, .unset] [])) st106 ?_
        refine Goes.step (T' := T106) (g' := (mkF m 86 #[.val (.int p0), .val (.int p1), .val (.int p2), .val (.int p3), .val (.int p4), .val (.int p5), .val (.int (2 : Int32)), .val (.ref b73), .val (.ref b102), .unset, .unset, .unset, .unset] [(.int (2 : Int32))])) (fun _ kz => XS.iload X106.here hx rfl (hb hby at_84) rfl  kz) ?_
        refine Goes.step (T' := T106) (g' := (mkF m 87 #[.val (.int p0), .val (.int p1), .val (.int p2), .val (.int p3), .val (.int p4), .val (.int p5), .val (.int (2 : Int32)), .val (.ref b73), .val (.ref b102), .unset, .unset, .unset, .unset] [(.int (2 : Int32)), (.int (2 : Int32))])) (fun _ kz => XS.iconst X106.here hx rfl (hb hby at_86) kz) ?_
        refine Goes.step (T' := T106) (g' := (mkF m 98 #[.val (.int p0), .val (.int p1), .val (.int p2), .val (.int p3), .val (.int p4), .val (.int p5), .val (.int (2 : Int32)), .val (.ref b73), .val (.ref b102), .unset, .unset, .unset, .unset] [])) (fun _ kz => XS.icmpYes X106.here hx rfl (pc0 := 87) (pc' := 98) rfl (hb hby at_87) rfl (flt (by decide : ¬ ((2 : Int32) < (2 : Int32)))).2.2.2 (by decide) (by decide) kz) ?_
        refine Goes.step (T' := T106) (g' := (mkF m 100 #[.val (.int p0), .val (.int p1), .val (.int p2), .val (.int p3), .val (.int p4), .val (.int p5), .val (.int (2 : Int32)), .val (.ref b73), .val (.ref b102), .unset, .unset, .unset, .unset] [(.int (2 : Int32))])) (fun _ kz => XS.iload X106.here hx rfl (hb hby at_98) rfl  kz) ?_
        refine Goes.step (T' := T106) (g' := (mkF m 101 #[.val (.int p0), .val (.int p1), .val (.int p2), .val (.int p3), .val (.int p4), .val (.int p5), .val (.int (2 : Int32)), .val (.ref b73), .val (.ref b102), .unset, .unset, .unset, .unset] [(.int (3 : Int32)), (.int (2 : Int32))])) (fun _ kz => XS.iconst X106.here hx rfl (hb hby at_100) kz) ?_
        refine Goes.step (T' := T106) (g' := (mkF m 112 #[.val (.int p0), .val (.int p1), .val (.int p2), .val (.int p3), .val (.int p4), .val (.int p5), .val (.int (2 : Int32)), .val (.ref b73), .val (.ref b102), .unset, .unset, .unset, .unset] [])) (fun _ kz => XS.icmpYes X106.here hx rfl (pc0 := 101) (pc' := 112) rfl (hb hby at_101) rfl (flt (by decide : ¬ ((3 : Int32) < (2 : Int32)))).2.2.2 (by decide) (by decide) kz) ?_
        refine Goes.step (T' := T106) (g' := (mkF m 114 #[.val (.int p0), .val (.int p1), .val (.int p2), .val (.int p3), .val (.int p4), .val (.int p5), .val (.int (2 : Int32)), .val (.ref b73), .val (.ref b102), .unset, .unset, .unset, .unset] [(.int (2 : Int32))])) (fun _ kz => XS.iload X106.here hx rfl (hb hby at_112) rfl  kz) ?_
        refine Goes.step (T' := T106) (g' := (mkF m 115 #[.val (.int p0), .val (.int p1), .val (.int p2), .val (.int p3), .val (.int p4), .val (.int p5), .val (.int (2 : Int32)), .val (.ref b73), .val (.ref b102), .unset, .unset, .unset, .unset] [(.int (4 : Int32)), (.int (2 : Int32))])) (fun _ kz => XS.iconst X106.here hx rfl (hb hby at_114) kz) ?_
        refine Goes.step (T' := T106) (g' := (mkF m 126 #[.val (.int p0), .val (.int p1), .val (.int p2), .val (.int p3), .val (.int p4), .val (.int p5), .val (.int (2 : Int32)), .val (.ref b73), .val (.ref b102), .unset, .unset, .unset, .unset] [])) (fun _ kz => XS.icmpYes X106.here hx rfl (pc0 := 115) (pc' := 126) rfl (hb hby at_115) rfl (flt (by decide : ¬ ((4 : Int32) < (2 : Int32)))).2.2.2 (by decide) (by decide) kz) ?_
        rw [hnz_74, hnz_76] at V_b102
        exact J0 (b102) (kc102) (2) ([z_74, z_76]) (g_b102) (sz_b102) (ne_b73_b102) (by decide) (by decide) (rfl) (fun i hi => match i, hi with | 0, _ => rfl | 1, _ => rfl | i + 2, hi => absurd hi (by omega)) ((List.forall_mem_cons.mpr ⟨hbz_74, (List.forall_mem_cons.mpr ⟨hbz_76, (fun _ h => nomatch h)⟩)⟩)) _ _ _ (X106.mono (by decide) (by decide)) e106 N0 K0 O0 C0 hk0 S_b73 V_b73 V_b102 S_b102
      ·
        rw [h6]
        refine Goes.step (T' := T83) (g' := (mkF m 53 #[.val (.int p0), .val (.int p1), .val (.int p2), .val (.int p3), .val (.int p4), .val (.int p5), .val (.int (3 : Int32)), .val (.ref b73), .unset, .unset, .unset, .unset, .unset] [(.int (3 : Int32))])) (fun _ kz => XS.iload X83.here hx rfl (hb hby at_51) rfl  kz) ?_
        obtain ⟨T107, h107, kc107, X107, e107, Ex107, A107, st107⟩ := newP X83 hx hZ (hw _ (List.mem_of_getElem? (i := 1) rfl)) e83 (g := (mkF m 53 #[.val (.int p0), .val (.int p1), .val (.int p2), .val (.int p3), .val (.int p4), .val (.int p5), .val (.int (3 : Int32)), .val (.ref b73), .unset, .unset, .unset, .unset, .unset] [(.int (3 : Int32))])) rfl (hb hby at_53) rfl (by decide) (cap := 3) (by decide) (by decide) (by decide) (by decide)
        obtain ⟨b107, gg107⟩ : ∃ z, z = h83.size := ⟨_, rfl⟩
        rw [← gg107] at A107 st107
        have g_b107 : n0 ≤ b107 := Nat.le_trans (own_n0 O0) (Nat.le_of_eq gg107.symm)
        have sz_b107 : h0.size ≤ b107 := Nat.le_trans K0.1 (Nat.le_of_eq gg107.symm)
        have ne_b73_b107 : b73 ≠ b107 := Nat.ne_of_lt (Nat.lt_of_lt_of_le V_b73.lt (Nat.le_of_eq gg107.symm))
        have S_b107 := (Safe.new (Z := Z) (EL := EL) (vm := s.vm) (Nat.le_of_eq gg107.symm)).ext Ex107 C0.1
        replace S_b73 := S_b73.ext Ex107 C0.1
        replace V_b73 := V_b73.ext Ex107
        replace O0 := O0.ext Ex107
        replace K0 := K0.ext Ex107
        replace C0 := C0.trans (CHr.ext Ex107 C0.1)
        replace hk0 := Nat.le_trans hk0 Ex107.1
        have V_b107 : Arv Z h107 b107 kc107 .char (3 : Int32) [(.int (0 : Int32)), (.int (0 : Int32)), (.int (0 : Int32))] (.int (0 : Int32)) := (Arv.new A107 (by decide)).pad (pad_rep [] (.int (0 : Int32)) 3)
        refine Goes.step (T' := T107) (g' := (mkF m 55 #[.val (.int p0), .val (.int p1), .val (.int p2), .val (.int p3), .val (.int p4), .val (.int p5), .val (.int (3 : Int32)), .val (.ref b73), .unset, .unset, .unset, .unset, .unset] [(.ref b107)])) st107 ?_
        refine Goes.step (T' := T107) (g' := (mkF m 57 #[.val (.int p0), .val (.int p1), .val (.int p2), .val (.int p3), .val (.int p4), .val (.int p5), .val (.int (3 : Int32)), .val (.ref b73), .val (.ref b107), .unset, .unset, .unset, .unset] [])) (fun _ kz => XS.astore X107.here hx rfl (hb hby at_55) rfl rfl (l' := #[.val (.int p0), .val (.int p1), .val (.int p2), .val (.int p3), .val (.int p4), .val (.int p5), .val (.int (3 : Int32)), .val (.ref b73), .val (.ref b107), .unset, .unset, .unset, .unset]) rfl kz) ?_
        refine Goes.step (T' := T107) (g' := (mkF m 59 #[.val (.int p0), .val (.int p1), .val (.int p2), .val (.int p3), .val (.int p4), .val (.int p5), .val (.int (3 : Int32)), .val (.ref b73), .val (.ref b107), .unset, .unset, .unset, .unset] [(.int (3 : Int32))])) (fun _ kz => XS.iload X107.here hx rfl (hb hby at_57) rfl  kz) ?_
        refine Goes.step (T' := T107) (g' := (mkF m 62 #[.val (.int p0), .val (.int p1), .val (.int p2), .val (.int p3), .val (.int p4), .val (.int p5), .val (.int (3 : Int32)), .val (.ref b73), .val (.ref b107), .unset, .unset, .unset, .unset] [])) (fun _ kz => XS.ifNo X107.here hx rfl (hb hby at_59) rfl ((if0 _ _).trans (tlt (by decide : ((0 : Int32) < (3 : Int32)))).2.2.2) kz) ?_
        refine Goes.step (T' := T107) (g' := (mkF m 64 #[.val (.int p0), .val (.int p1), .val (.int p2), .val (.int p3), .val (.int p4), .val (.int p5), .val (.int (3 : Int32)), .val (.ref b73), .val (.ref b107), .unset, .unset, .unset, .unset] [(.ref b107)])) (fun _ kz => XS.aload X107.here hx rfl (hb hby at_62) rfl rfl kz) ?_
        refine Goes.step (T' := T107) (g' := (mkF m 65 #[.val (.int p0), .val (.int p1), .val (.int p2), .val (.int p3), .val (.int p4), .val (.int p5), .val (.int (3 : Int32)), .val (.ref b73), .val (.ref b107), .unset, .unset, .unset, .unset] [(.int (0 : Int32)), (.ref b107)])) (fun _ kz => XS.iconst X107.here hx rfl (hb hby at_64) kz) ?_
        refine Goes.step (T' := T107) (g' := (mkF m 67 #[.val (.int p0), .val (.int p1), .val (.int p2), .val (.int p3), .val (.int p4), .val (.int p5), .val (.int (3 : Int32)), .val (.ref b73), .val (.ref b107), .unset, .unset, .unset, .unset] [(.ref b73), (.int (0 : Int32)), (.ref b107)])) (fun _ kz => XS.aload X107.here hx rfl (hb hby at_65) rfl rfl kz) ?_
        refine Goes.step (T' := T107) (g' := (mkF m 68 #[.val (.int p0), .val (.int p1), .val (.int p2), .val (.int p3), .val (.int p4), .val (.int p5), .val (.int (3 : Int32)), .val (.ref b73), .val (.ref b107), .unset, .unset, .unset, .unset] [(.int (0 : Int32)), (.ref b73), (.int (0 : Int32)), (.ref b107)])) (fun _ kz => XS.iconst X107.here hx rfl (hb hby at_67) kz) ?_
        obtain ⟨cl108, Ar108, q108, Sz108, Nn108, Hs108, Gs108⟩ := (id V_b73 : Arv Z h107 b73 kc73 .char (5 : Int32) [(.int z_74), (.int z_76), (.int z_78), (.int z_80), (.int z_82)] (.int (0 : Int32)))
        refine Goes.step (T' := T107) (g' := (mkF m 69 #[.val (.int p0), .val (.int p1), .val (.int p2), .val (.int p3), .val (.int p4), .val (.int p5), .val (.int (3 : Int32)), .val (.ref b73), .val (.ref b107), .unset, .unset, .unset, .unset] [(.int z_74), (.int (0 : Int32)), (.ref b107)])) (X107.caload hx (j := (0 : Int32)) (v := (.int z_74)) (by rw [e107]; exact Ar108.1) (State.isArrayOf_alike hZ.alike Ar108.2.1) Ar108.2.2 (inb_of Sz108 ⟨by decide, by decide⟩) (Has.at Hs108 (inb_of Sz108 ⟨by decide, by decide⟩) rfl) (g := (mkF m 68 #[.val (.int p0), .val (.int p1), .val (.int p2), .val (.int p3), .val (.int p4), .val (.int p5), .val (.int (3 : Int32)), .val (.ref b73), .val (.ref b107), .unset, .unset, .unset, .unset] [(.int (0 : Int32)), (.ref b73), (.int (0 : Int32)), (.ref b107)])) rfl rfl (hb hby at_68)) ?_
        obtain ⟨cl109, Ar109, q109, Sz109, Nn109, Hs109, Gs109⟩ := (id V_b107 : Arv Z h107 b107 kc107 .char (3 : Int32) [(.int (0 : Int32)), (.int (0 : Int32)), (.int (0 : Int32))] (.int (0 : Int32)))
        obtain ⟨T109, h109, X109, e109, W109, st109⟩ := stC X107 hx hZ e107 Ar109 (j := (0 : Int32)) (inb_of Sz109 ⟨by decide, by decide⟩) (g := (mkF m 69 #[.val (.int p0), .val (.int p1), .val (.int p2), .val (.int p3), .val (.int p4), .val (.int p5), .val (.int (3 : Int32)), .val (.ref b73), .val (.ref b107), .unset, .unset, .unset, .unset] [(.int z_74), (.int (0 : Int32)), (.ref b107)])) rfl rfl (hb hby at_69)
        replace V_b107 : Arv Z h109 b107 kc107 .char (3 : Int32) [(.int (nar .char z_74)), (.int (0 : Int32)), (.int (0 : Int32))] (.int (0 : Int32)) := Arv.set Ar109 q109 Sz109 Nn109 Hs109 Gs109 (fits_nar_char _) W109 0 rfl (Nat.le_of_ble_eq_true rfl)
        replace N0 := Fr.snoc X109 N0 g_b107
        have Sw : Safe Z EL s.vm h107 b107 := S_b107
        replace S_b73 := Safe.wr W109 Sw C0.1 S_b73
        replace S_b107 := Safe.wr W109 Sw C0.1 S_b107
        replace C0 := C0.trans (CHr.wr W109 Sw C0.1)
        replace hk0 := Nat.le_trans hk0 (Nat.le_of_eq W109.size.symm)
        replace V_b73 := V_b73.other W109 ne_b73_b107
        replace O0 := O0.wr W109 g_b107
        replace K0 := K0.wr W109 (Or.inr sz_b107)
        refine Goes.step (T' := T109) (g' := (mkF m 70 #[.val (.int p0), .val (.int p1), .val (.int p2), .val (.int p3), .val (.int p4), .val (.int p5), .val (.int (3 : Int32)), .val (.ref b73), .val (.ref b107), .unset, .unset, .unset, .unset] [])) st109 ?_
        refine Goes.step (T' := T109) (g' := (mkF m 72 #[.val (.int p0), .val (.int p1), .val (.int p2), .val (.int p3), .val (.int p4), .val (.int p5), .val (.int (3 : Int32)), .val (.ref b73), .val (.ref b107), .unset, .unset, .unset, .unset] [(.int (3 : Int32))])) (fun _ kz => XS.iload X109.here hx rfl (hb hby at_70) rfl  kz) ?_
        refine Goes.step (T' := T109) (g' := (mkF m 73 #[.val (.int p0), .val (.int p1), .val (.int p2), .val (.int p3), .val (.int p4), .val (.int p5), .val (.int (3 : Int32)), .val (.ref b73), .val (.ref b107), .unset, .unset, .unset, .unset] [(.int (1 : Int32)), (.int (3 : Int32))])) (fun _ kz => XS.iconst X109.here hx rfl (hb hby at_72) kz) ?_
        refine Goes.step (T' := T109) (g' := (mkF m 76 #[.val (.int p0), .val (.int p1), .val (.int p2), .val (.int p3), .val (.int p4), .val (.int p5), .val (.int (3 : Int32)), .val (.ref b73), .val (.ref b107), .unset, .unset, .unset, .unset] [])) (fun _ kz => XS.icmpNo X109.here hx rfl (hb hby at_73) rfl (tlt (by decide : ((1 : Int32) < (3 : Int32)))).2.2.2 kz) ?_
        refine Goes.step (T' := T109) (g' := (mkF m 78 #[.val (.int p0), .val (.int p1), .val (.int p2), .val (.int p3), .val (.int p4), .val (.int p5), .val (.int (3 : Int32)), .val (.ref b73), .val (.ref b107), .unset, .unset, .unset, .unset] [(.ref b107)])) (fun _ kz => XS.aload X109.here hx rfl (hb hby at_76) rfl rfl kz) ?_
        refine Goes.step (T' := T109) (g' := (mkF m 79 #[.val (.int p0), .val (.int p1), .val (.int p2), .val (.int p3), .val (.int p4), .val (.int p5), .val (.int (3 : Int32)), .val (.ref b73), .val (.ref b107), .unset, .unset, .unset, .unset] [(.int (1 : Int32)), (.ref b107)])) (fun _ kz => XS.iconst X109.here hx rfl (hb hby at_78) kz) ?_
        refine Goes.step (T' := T109) (g' := (mkF m 81 #[.val (.int p0), .val (.int p1), .val (.int p2), .val (.int p3), .val (.int p4), .val (.int p5), .val (.int (3 : Int32)), .val (.ref b73), .val (.ref b107), .unset, .unset, .unset, .unset] [(.ref b73), (.int (1 : Int32)), (.ref b107)])) (fun _ kz => XS.aload X109.here hx rfl (hb hby at_79) rfl rfl kz) ?_
        refine Goes.step (T' := T109) (g' := (mkF m 82 #[.val (.int p0), .val (.int p1), .val (.int p2), .val (.int p3), .val (.int p4), .val (.int p5), .val (.int (3 : Int32)), .val (.ref b73), .val (.ref b107), .unset, .unset, .unset, .unset] [(.int (1 : Int32)), (.ref b73), (.int (1 : Int32)), (.ref b107)])) (fun _ kz => XS.iconst X109.here hx rfl (hb hby at_81) kz) ?_
        obtain ⟨cl110, Ar110, q110, Sz110, Nn110, Hs110, Gs110⟩ := (id V_b73 : Arv Z h109 b73 kc73 .char (5 : Int32) [(.int z_74), (.int z_76), (.int z_78), (.int z_80), (.int z_82)] (.int (0 : Int32)))
        refine Goes.step (T' := T109) (g' := (mkF m 83 #[.val (.int p0), .val (.int p1), .val (.int p2), .val (.int p3), .val (.int p4), .val (.int p5), .val (.int (3 : Int32)), .val (.ref b73), .val (.ref b107), .unset, .unset, .unset, .unset] [(.int z_76), (.int (1 : Int32)), (.ref b107)])) (X109.caload hx (j := (1 : Int32)) (v := (.int z_76)) (by rw [e109]; exact Ar110.1) (State.isArrayOf_alike hZ.alike Ar110.2.1) Ar110.2.2 (inb_of Sz110 ⟨by decide, by decide⟩) (Has.at Hs110 (inb_of Sz110 ⟨by decide, by decide⟩) rfl) (g := (mkF m 82 #[.val (.int p0), .val (.int p1), .val (.int p2), .val (.int p3), .val (.int p4), .val (.int p5), .val (.int (3 : Int32)), .val (.ref b73), .val (.ref b107), .unset, .unset, .unset, .unset] [(.int (1 : Int32)), (.ref b73), (.int (1 : Int32)), (.ref b107)])) rfl rfl (hb hby at_82)) ?_
        obtain ⟨cl111, Ar111, q111, Sz111, Nn111, Hs111, Gs111⟩ := (id V_b107 : Arv Z h109 b107 kc107 .char (3 : Int32) [(.int (nar .char z_74)), (.int (0 : Int32)), (.int (0 : Int32))] (.int (0 : Int32)))
        obtain ⟨T111, h111, X111, e111, W111, st111⟩ := stC X109 hx hZ e109 Ar111 (j := (1 : Int32)) (inb_of Sz111 ⟨by decide, by decide⟩) (g := (mkF m 83 #[.val (.int p0), .val (.int p1), .val (.int p2), .val (.int p3), .val (.int p4), .val (.int p5), .val (.int (3 : Int32)), .val (.ref b73), .val (.ref b107), .unset, .unset, .unset, .unset] [(.int z_76), (.int (1 : Int32)), (.ref b107)])) rfl rfl (hb hby at_83)
        replace V_b107 : Arv Z h111 b107 kc107 .char (3 : Int32) [(.int (nar .char z_74)), (.int (nar .char z_76)), (.int (0 : Int32))] (.int (0 : Int32)) := Arv.set Ar111 q111 Sz111 Nn111 Hs111 Gs111 (fits_nar_char _) W111 1 rfl (Nat.le_of_ble_eq_true rfl)
        replace N0 := Fr.snoc X111 N0 g_b107
        have Sw : Safe Z EL s.vm h109 b107 := S_b107
        replace S_b73 := Safe.wr W111 Sw C0.1 S_b73
        replace S_b107 := Safe.wr W111 Sw C0.1 S_b107
        replace C0 := C0.trans (CHr.wr W111 Sw C0.1)
        replace hk0 := Nat.le_trans hk0 (Nat.le_of_eq W111.size.symm)
        replace V_b73 := V_b73.other W111 ne_b73_b107
        replace O0 := O0.wr W111 g_b107
        replace K0 := K0.wr W111 (Or.inr sz_b107)
        refine Goes.step (T' := T111) (g' := (mkF m 84 #[.val (.int p0), .val (.int p1), .val (.int p2), .val (.int p3), .val (.int p4), .val (.int p5), .val (.int (3 : Int32)), .val (.ref b73), .val (.ref b107), .unset, .unset, .unset, .unset] [])) st111 ?_
        refine Goes.step (T' := T111) (g' := (mkF m 86 #[.val (.int p0), .val (.int p1), .val (.int p2), .val (.int p3), .val (.int p4), .val (.int p5), .val (.int (3 : Int32)), .val (.ref b73), .val (.ref b107), .unset, .unset, .unset, .unset] [(.int (3 : Int32))])) (fun _ kz => XS.iload X111.here hx rfl (hb hby at_84) rfl  kz) ?_
        refine Goes.step (T' := T111) (g' := (mkF m 87 #[.val (.int p0), .val (.int p1), .val (.int p2), .val (.int p3), .val (.int p4), .val (.int p5), .val (.int (3 : Int32)), .val (.ref b73), .val (.ref b107), .unset, .unset, .unset, .unset] [(.int (2 : Int32)), (.int (3 : Int32))])) (fun _ kz => XS.iconst X111.here hx rfl (hb hby at_86) kz) ?_
        refine Goes.step (T' := T111) (g' := (mkF m 90 #[.val (.int p0), .val (.int p1), .val (.int p2), .val (.int p3), .val (.int p4), .val (.int p5), .val (.int (3 : Int32)), .val (.ref b73), .val (.ref b107), .unset, .unset, .unset, .unset] [])) (fun _ kz => XS.icmpNo X111.here hx rfl (hb hby at_87) rfl (tlt (by decide : ((2 : Int32) < (3 : Int32)))).2.2.2 kz) ?_
        refine Goes.step (T' := T111) (g' := (mkF m 92 #[.val (.int p0), .val (.int p1), .val (.int p2), .val (.int p3), .val (.int p4), .val (.int p5), .val (.int (3 : Int32)), .val (.ref b73), .val (.ref b107), .unset, .unset, .unset, .unset] [(.ref b107)])) (fun _ kz => XS.aload X111.here hx rfl (hb hby at_90) rfl rfl kz) ?_
        refine Goes.step (T' := T111) (g' := (mkF m 93 #[.val (.int p0), .val (.int p1), .val (.int p2), .val (.int p3), .val (.int p4), .val (.int p5), .val (.int (3 : Int32)), .val (.ref b73), .val (.ref b107), .unset, .unset, .unset, .unset] [(.int (2 : Int32)), (.ref b107)])) (fun _ kz => XS.iconst X111.here hx rfl (hb hby at_92) kz) ?_
        refine Goes.step (T' := T111) (g' := (mkF m 95 #[.val (.int p0), .val (.int p1), .val (.int p2), .val (.int p3), .val (.int p4), .val (.int p5), .val (.int (3 : Int32)), .val (.ref b73), .val (.ref b107), .unset, .unset, .unset, .unset] [(.ref b73), (.int (2 : Int32)), (.ref b107)])) (fun _ kz => XS.aload X111.here hx rfl (hb hby at_93) rfl rfl kz) ?_
        refine Goes.step (T' := T111) (g' := (mkF m 96 #[.val (.int p0), .val (.int p1), .val (.int p2), .val (.int p3), .val (.int p4), .val (.int p5), .val (.int (3 : Int32)), .val (.ref b73), .val (.ref b107), .unset, .unset, .unset, .unset] [(.int (2 : Int32)), (.ref b73), (.int (2 : Int32)), (.ref b107)])) (fun _ kz => XS.iconst X111.here hx rfl (hb hby at_95) kz) ?_
        obtain ⟨cl112, Ar112, q112, Sz112, Nn112, Hs112, Gs112⟩ := (id V_b73 : Arv Z h111 b73 kc73 .char (5 : Int32) [(.int z_74), (.int z_76), (.int z_78), (.int z_80), (.int z_82)] (.int (0 : Int32)))
        refine Goes.step (T' := T111) (g' := (mkF m 97 #[.val (.int p0), .val (.int p1), .val (.int p2), .val (.int p3), .val (.int p4), .val (.int p5), .val (.int (3 : Int32)), .val (.ref b73), .val (.ref b107), .unset, .unset, .unset, .unset] [(.int z_78), (.int (2 : Int32)), (.ref b107)])) (X111.caload hx (j := (2 : Int32)) (v := (.int z_78)) (by rw [e111]; exact Ar112.1) (State.isArrayOf_alike hZ.alike Ar112.2.1) Ar112.2.2 (inb_of Sz112 ⟨by decide, by decide⟩) (Has.at Hs112 (inb_of Sz112 ⟨by decide, by decide⟩) rfl) (g := (mkF m 96 #[.val (.int p0), .val (.int p1), .val (.int p2), .val (.int p3), .val (.int p4), .val (.int p5), .val (.int (3 : Int32)), .val (.ref b73), .val (.ref b107), .unset, .unset, .unset, .unset] [(.int (2 : Int32)), (.ref b73), (.int (2 : Int32)), (.ref b107)])) rfl rfl (hb hby at_96)) ?_
        obtain ⟨cl113, Ar113, q113, Sz113, Nn113, Hs113, Gs113⟩ := (id V_b107 : Arv Z h111 b107 kc107 .char (3 : Int32) [(.int (nar .char z_74)), (.int (nar .char z_76)), (.int (0 : Int32))] (.int (0 : Int32)))
        obtain ⟨T113, h113, X113, e113, W113, st113⟩ := stC X111 hx hZ e111 Ar113 (j := (2 : Int32)) (inb_of Sz113 ⟨by decide, by decide⟩) (g := (mkF m 97 #[.val (.int p0), .val (.int p1), .val (.int p2), .val (.int p3), .val (.int p4), .val (.int p5), .val (.int (3 : Int32)), .val (.ref b73), .val (.ref b107), .unset, .unset, .unset, .unset] [(.int z_78), (.int (2 : Int32)), (.ref b107)])) rfl rfl (hb hby at_97)
        replace V_b107 : Arv Z h113 b107 kc107 .char (3 : Int32) [(.int (nar .char z_74)), (.int (nar .char z_76)), (.int (nar .char z_78))] (.int (0 : Int32)) := Arv.set Ar113 q113 Sz113 Nn113 Hs113 Gs113 (fits_nar_char _) W113 2 rfl (Nat.le_of_ble_eq_true rfl)
        replace N0 := Fr.snoc X113 N0 g_b107
        have Sw : Safe Z EL s.vm h111 b107 := S_b107
        replace S_b73 := Safe.wr W113 Sw C0.1 S_b73
        replace S_b107 := Safe.wr W113 Sw C0.1 S_b107
        replace C0 := C0.trans (CHr.wr W113 Sw C0.1)
        replace hk0 := Nat.le_trans hk0 (Nat.le_of_eq W113.size.symm)
        replace V_b73 := V_b73.other W113 ne_b73_b107
        replace O0 := O0.wr W113 g_b107
        replace K0 := K0.wr W113 (Or.inr sz_b107)
        refine Goes.step (T' := T113) (g' := (mkF m 98 #[.val (.int p0), .val (.int p1), .val (.int p2), .val (.int p3), .val (.int p4), .val (.int p5), .val (.int (3 : Int32)), .val (.ref b73), .val (.ref b107), .unset, .unset, .unset, .unset] [])) st113 ?_
        refine Goes.step (T' := T113) (g' := (mkF m 100 #[.val (.int p0), .val (.int p1), .val (.int p2), .val (.int p3), .val (.int p4), .val (.int p5), .val (.int (3 : Int32)), .val (.ref b73), .val (.ref b107), .unset, .unset, .unset, .unset] [(.int (3 : Int32))])) (fun _ kz => XS.iload X113.here hx rfl (hb hby at_98) rfl  kz) ?_
        refine Goes.step (T' := T113) (g' := (mkF m 101 #[.val (.int p0), .val (.int p1), .val (.int p2), .val (.int p3), .val (.int p4), .val (.int p5), .val (.int (3 : Int32)), .val (.ref b73), .val (.ref b107), .unset, .unset, .unset, .unset] [(.int (3 : Int32)), (.int (3 : Int32))])) (fun _ kz => XS.iconst X113.here hx rfl (hb hby at_100) kz) ?_
        refine Goes.step (T' := T113) (g' := (mkF m 112 #[.val (.int p0), .val (.int p1), .val (.int p2), .val (.int p3), .val (.int p4), .val (.int p5), .val (.int (3 : Int32)), .val (.ref b73), .val (.ref b107), .unset, .unset, .unset, .unset] [])) (fun _ kz => XS.icmpYes X113.here hx rfl (pc0 := 101) (pc' := 112) rfl (hb hby at_101) rfl (flt (by decide : ¬ ((3 : Int32) < (3 : Int32)))).2.2.2 (by decide) (by decide) kz) ?_
        refine Goes.step (T' := T113) (g' := (mkF m 114 #[.val (.int p0), .val (.int p1), .val (.int p2), .val (.int p3), .val (.int p4), .val (.int p5), .val (.int (3 : Int32)), .val (.ref b73), .val (.ref b107), .unset, .unset, .unset, .unset] [(.int (3 : Int32))])) (fun _ kz => XS.iload X113.here hx rfl (hb hby at_112) rfl  kz) ?_
        refine Goes.step (T' := T113) (g' := (mkF m 115 #[.val (.int p0), .val (.int p1), .val (.int p2), .val (.int p3), .val (.int p4), .val (.int p5), .val (.int (3 : Int32)), .val (.ref b73), .val (.ref b107), .unset, .unset, .unset, .unset] [(.int (4 : Int32)), (.int (3 : Int32))])) (fun _ kz => XS.iconst X113.here hx rfl (hb hby at_114) kz) ?_
        refine Goes.step (T' := T113) (g' := (mkF m 126 #[.val (.int p0), .val (.int p1), .val (.int p2), .val (.int p3), .val (.int p4), .val (.int p5), .val (.int (3 : Int32)), .val (.ref b73), .val (.ref b107), .unset, .unset, .unset, .unset] [])) (fun _ kz => XS.icmpYes X113.here hx rfl (pc0 := 115) (pc' := 126) rfl (hb hby at_115) rfl (flt (by decide : ¬ ((4 : Int32) < (3 : Int32)))).2.2.2 (by decide) (by decide) kz) ?_
        rw [hnz_74, hnz_76, hnz_78] at V_b107
        exact J0 (b107) (kc107) (3) ([z_74, z_76, z_78]) (g_b107) (sz_b107) (ne_b73_b107) (by decide) (by decide) (rfl) (fun i hi => match i, hi with | 0, _ => rfl | 1, _ => rfl | 2, _ => rfl | i + 3, hi => absurd hi (by omega)) ((List.forall_mem_cons.mpr ⟨hbz_74, (List.forall_mem_cons.mpr ⟨hbz_76, (List.forall_mem_cons.mpr ⟨hbz_78, (fun _ h => nomatch h)⟩)⟩)⟩)) _ _ _ (X113.mono (by decide) (by decide)) e113 N0 K0 O0 C0 hk0 S_b73 V_b73 V_b107 S_b107
      ·
        rw [h6]
        refine Goes.step (T' := T83) (g' := (mkF m 53 #[.val (.int p0), .val (.int p1), .val (.int p2), .val (.int p3), .val (.int p4), .val (.int p5), .val (.int (4 : Int32)), .val (.ref b73), .unset, .unset, .unset, .unset, .unset] [(.int (4 : Int32))])) (fun _ kz => XS.iload X83.here hx rfl (hb hby at_51) rfl  kz) ?_
        obtain ⟨T114, h114, kc114, X114, e114, Ex114, A114, st114⟩ := newP X83 hx hZ (hw _ (List.mem_of_getElem? (i := 1) rfl)) e83 (g := (mkF m 53 #[.val (.int p0), .val (.int p1), .val (.int p2), .val (.int p3), .val (.int p4), .val (.int p5), .val (.int (4 : Int32)), .val (.ref b73), .unset, .unset, .unset, .unset, .unset] [(.int (4 : Int32))])) rfl (hb hby at_53) rfl (by decide) (cap := 4) (by decide) (by decide) (by decide) (by decide)
        obtain ⟨b114, gg114⟩ : ∃ z, z = h83.size := ⟨_, rfl⟩
        rw [← gg114] at A114 st114
        have g_b114 : n0 ≤ b114 := Nat.le_trans (own_n0 O0) (Nat.le_of_eq gg114.symm)
        have sz_b114 : h0.size ≤ b114 := Nat.le_trans K0.1 (Nat.le_of_eq gg114.symm)
        have ne_b73_b114 : b73 ≠ b114 := Nat.ne_of_lt (Nat.lt_of_lt_of_le V_b73.lt (Nat.le_of_eq gg114.symm))
        have S_b114 := (Safe.new (Z := Z) (EL := EL) (vm := s.vm) (Nat.le_of_eq gg114.symm)).ext Ex114 C0.1
        replace S_b73 := S_b73.ext Ex114 C0.1
        replace V_b73 := V_b73.ext Ex114
        replace O0 := O0.ext Ex114
        replace K0 := K0.ext Ex114
        replace C0 := C0.trans (CHr.ext Ex114 C0.1)
        replace hk0 := Nat.le_trans hk0 Ex114.1
        have V_b114 : Arv Z h114 b114 kc114 .char (4 : Int32) [(.int (0 : Int32)), (.int (0 : Int32)), (.int (0 : Int32)), (.int (0 : Int32))] (.int (0 : Int32)) := (Arv.new A114 (by decide)).pad (pad_rep [] (.int (0 : Int32)) 4)
        refine Goes.step (T' := T114) (g' := (mkF m 55 #[.val (.int p0), .val (.int p1), .val (.int p2), .val (.int p3), .val (.int p4), .val (.int p5), .val (.int (4 : Int32)), .val (.ref b73), .unset, .unset, .unset, .unset, .unset] [(.ref b114)])) st114 ?_
        refine Goes.step (T' := T114) (g' := (mkF m 57 #[.val (.int p0), .val (.int p1), .val (.int p2), .val (.int p3), .val (.int p4), .val (.int p5), .val (.int (4 : Int32)), .val (.ref b73), .val (.ref b114), .unset, .unset, .unset, .unset] [])) (fun _ kz => XS.astore X114.here hx rfl (hb hby at_55) rfl rfl (l' := #[.val (.int p0), .val (.int p1), .val (.int p2), .val (.int p3), .val (.int p4), .val (.int p5), .val (.int (4 : Int32)), .val (.ref b73), .val (.ref b114), .unset, .unset, .unset, .unset]) rfl kz) ?_
        refine Goes.step (T' := T114) (g' := (mkF m 59 #[.val (.int p0), .val (.int p1), .val (.int p2), .val (.int p3), .val (.int p4), .val (.int p5), .val (.int (4 : Int32)), .val (.ref b73), .val (.ref b114), .unset, .unset, .unset, .unset] [(.int (4 : Int32))])) (fun _ kz => XS.iload X114.here hx rfl (hb hby at_57) rfl  kz) ?_
        refine Goes.step (T' := T114) (g' := (mkF m 62 #[.val (.int p0), .val (.int p1), .val (.int p2), .val (.int p3), .val (.int p4), .val (.int p5), .val (.int (4 : Int32)), .val (.ref b73), .val (.ref b114), .unset, .unset, .unset, .unset] [])) (fun _ kz => XS.ifNo X114.here hx rfl (hb hby at_59) rfl ((if0 _ _).trans (tlt (by decide : ((0 : Int32) < (4 : Int32)))).2.2.2) kz) ?_
        refine Goes.step (T' := T114) (g' := (mkF m 64 #[.val (.int p0), .val (.int p1), .val (.int p2), .val (.int p3), .val (.int p4), .val (.int p5), .val (.int (4 : Int32)), .val (.ref b73), .val (.ref b114), .unset, .unset, .unset, .unset] [(.ref b114)])) (fun _ kz => XS.aload X114.here hx rfl (hb hby at_62) rfl rfl kz) ?_
        refine Goes.step (T' := T114) (g' := (mkF m 65 #[.val (.int p0), .val (.int p1), .val (.int p2), .val (.int p3), .val (.int p4), .val (.int p5), .val (.int (4 : Int32)), .val (.ref b73), .val (.ref b114), .unset, .unset, .unset, .unset] [(.int (0 : Int32)), (.ref b114)])) (fun _ kz => XS.iconst X114.here hx rfl (hb hby at_64) kz) ?_
        refine Goes.step (T' := T114) (g' := (mkF m 67 #[.val (.int p0), .val (.int p1), .val (.int p2), .val (.int p3), .val (.int p4), .val (.int p5), .val (.int (4 : Int32)), .val (.ref b73), .val (.ref b114), .unset, .unset, .unset, .unset] [(.ref b73), (.int (0 : Int32)), (.ref b114)])) (fun _ kz => XS.aload X114.here hx rfl (hb hby at_65) rfl rfl kz) ?_
        refine Goes.step (T' := T114) (g' := (mkF m 68 #[.val (.int p0), .val (.int p1), .val (.int p2), .val (.int p3), .val (.int p4), .val (.int p5), .val (.int (4 : Int32)), .val (.ref b73), .val (.ref b114), .unset, .unset, .unset, .unset] [(.int (0 : Int32)), (.ref b73), (.int (0 : Int32)), (.ref b114)])) (fun _ kz => XS.iconst X114.here hx rfl (hb hby at_67) kz) ?_
        obtain ⟨cl115, Ar115, q115, Sz115, Nn115, Hs115, Gs115⟩ := (id V_b73 : Arv Z h114 b73 kc73 .char (5 : Int32) [(.int z_74), (.int z_76), (.int z_78), (.int z_80), (.int z_82)] (.int (0 : Int32)))
        refine Goes.step (T' := T114) (g' := (mkF m 69 #[.val (.int p0), .val (.int p1), .val (.int p2), .val (.int p3), .val (.int p4), .val (.int p5), .val (.int (4 : Int32)), .val (.ref b73), .val (.ref b114), .unset, .unset, .unset, .unset] [(.int z_74), (.int (0 : Int32)), (.ref b114)])) (X114.caload hx (j := (0 : Int32)) (v := (.int z_74)) (by rw [e114]; exact Ar115.1) (State.isArrayOf_alike hZ.alike Ar115.2.1) Ar115.2.2 (inb_of Sz115 ⟨by decide, by decide⟩) (Has.at Hs115 (inb_of Sz115 ⟨by decide, by decide⟩) rfl) (g := (mkF m 68 #[.val (.int p0), .val (.int p1), .val (.int p2), .val (.int p3), .val (.int p4), .val (.int p5), .val (.int (4 : Int32)), .val (.ref b73), .val (.ref b114), .unset, .unset, .unset, .unset] [(.int (0 : Int32)), (.ref b73), (.int (0 : Int32)), (.ref b114)])) rfl rfl (hb hby at_68)) ?_
        obtain ⟨cl116, Ar116, q116, Sz116, Nn116, Hs116, Gs116⟩ := (id V_b114 : Arv Z h114 b114 kc114 .char (4 : Int32) [(.int (0 : Int32)), (.int (0 : Int32)), (.int (0 : Int32)), (.int (0 : Int32))] (.int (0 : Int32)))
        obtain ⟨T116, h116, X116, e116, W116, st116⟩ := stC X114 hx hZ e114 Ar116 (j := (0 : Int32)) (inb_of Sz116 ⟨by decide, by decide⟩) (g := (mkF m 69 #[.val (.int p0), .val (.int p1), .val (.int p2), .val (.int p3), .val (.int p4), .val (.int p5), .val (.int (4 : Int32)), .val (.ref b73), .val (.ref b114), .unset, .unset, .unset, .unset] [(.int z_74), (.int (0 : Int32)), (.ref b114)])) rfl rfl (hb hby at_69)
        replace V_b114 : Arv Z h116 b114 kc114 .char (4 : Int32) [(.int (nar .char z_74)), (.int (0 : Int32)), (.int (0 : Int32)), (.int (0 : Int32))] (.int (0 : Int32)) := Arv.set Ar116 q116 Sz116 Nn116 Hs116 Gs116 (fits_nar_char _) W116 0 rfl (Nat.le_of_ble_eq_true rfl)
        replace N0 := Fr.snoc X116 N0 g_b114
        have Sw : Safe Z EL s.vm h114 b114 := S_b114
        replace S_b73 := Safe.wr W116 Sw C0.1 S_b73
        replace S_b114 := Safe.wr W116 Sw C0.1 S_b114
        replace C0 := C0.trans (CHr.wr W116 Sw C0.1)
        replace hk0 := Nat.le_trans hk0 (Nat.le_of_eq W116.size.symm)
        replace V_b73 := V_b73.other W116 ne_b73_b114
        replace O0 := O0.wr W116 g_b114
        replace K0 := K0.wr W116 (Or.inr sz_b114)
        refine Goes.step (T' := T116) (g' := (mkF m 70 #[.val (.int p0), .val (.int p1), .val (.int p2), .val (.int p3), .val (.int p4), .val (.int p5), .val (.int (4 : Int32)), .val (.ref b73), .val (.ref b114), .unset, .unset, .unset, .unset] [])) st116 ?_
        refine Goes.step (T' := T116) (g' := (mkF m 72 #[.val (.int p0), .val (.int p1), .val (.int p2), .val (.int p3), .val (.int p4), .val (.int p5), .val (.int (4 : Int32)), .val (.ref b73), .val (.ref b114), .unset, .unset, .unset, .unset] [(.int (4 : Int32))])) (fun _ kz => XS.iload X116.here hx rfl (hb hby at_70) rfl  kz) ?_
        refine Goes.step (T' := T116) (g' := (mkF m 73 #[.val (.int p0), .val (.int p1), .val (.int p2), .val (.int p3), .val (.int p4), .val (.int p5), .val (.int (4 : Int32)), .val (.ref b73), .val (.ref b114), .unset, .unset, .unset, .unset] [(.int (1 : Int32)), (.int (4 : Int32))])) (fun _ kz => XS.iconst X116.here hx rfl (hb hby at_72) kz) ?_
        refine Goes.step (T' := T116) (g' := (mkF m 76 #[.val (.int p0), .val (.int p1), .val (.int p2), .val (.int p3), .val (.int p4), .val (.int p5), .val (.int (4 : Int32)), .val (.ref b73), .val (.ref b114), .unset, .unset, .unset, .unset] [])) (fun _ kz => XS.icmpNo X116.here hx rfl (hb hby at_73) rfl (tlt (by decide : ((1 : Int32) < (4 : Int32)))).2.2.2 kz) ?_
        refine Goes.step (T' := T116) (g' := (mkF m 78 #[.val (.int p0), .val (.int p1), .val (.int p2), .val (.int p3), .val (.int p4), .val (.int p5), .val (.int (4 : Int32)), .val (.ref b73), .val (.ref b114), .unset, .unset, .unset, .unset] [(.ref b114)])) (fun _ kz => XS.aload X116.here hx rfl (hb hby at_76) rfl rfl kz) ?_
        refine Goes.step (T' := T116) (g' := (mkF m 79 #[.val (.int p0), .val (.int p1), .val (.int p2), .val (.int p3), .val (.int p4), .val (.int p5), .val (.int (4 : Int32)), .val (.ref b73), .val (.ref b114), .unset, .unset, .unset, .unset] [(.int (1 : Int32)), (.ref b114)])) (fun _ kz => XS.iconst X116.here hx rfl (hb hby at_78) kz) ?_
        refine Goes.step (T' := T116) (g' := (mkF m 81 #[.val (.int p0), .val (.int p1), .val (.int p2), .val (.int p3), .val (.int p4), .val (.int p5), .val (.int (4 : Int32)), .val (.ref b73), .val (.ref b114), .unset, .unset, .unset, .unset] [(.ref b73), (.int (1 : Int32)), (.ref b114)])) (fun _ kz => XS.aload X116.here hx rfl (hb hby at_79) rfl rfl kz) ?_
        refine Goes.step (T' := T116) (g' := (mkF m 82 #[.val (.int p0), .val (.int p1), .val (.int p2), .val (.int p3), .val (.int p4), .val (.int p5), .val (.int (4 : Int32)), .val (.ref b73), .val (.ref b114), .unset, .unset, .unset, .unset] [(.int (1 : Int32)), (.ref b73), (.int (1 : Int32)), (.ref b114)])) (fun _ kz => XS.iconst X116.here hx rfl (hb hby at_81) kz) ?_
        obtain ⟨cl117, Ar117, q117, Sz117, Nn117, Hs117, Gs117⟩ := (id V_b73 : Arv Z h116 b73 kc73 .char (5 : Int32) [(.int z_74), (.int z_76), (.int z_78), (.int z_80), (.int z_82)] (.int (0 : Int32)))
        refine Goes.step (T' := T116) (g' := (mkF m 83 #[.val (.int p0), .val (.int p1), .val (.int p2), .val (.int p3), .val (.int p4), .val (.int p5), .val (.int (4 : Int32)), .val (.ref b73), .val (.ref b114), .unset, .unset, .unset, .unset] [(.int z_76), (.int (1 : Int32)), (.ref b114)])) (X116.caload hx (j := (1 : Int32)) (v := (.int z_76)) (by rw [e116]; exact Ar117.1) (State.isArrayOf_alike hZ.alike Ar117.2.1) Ar117.2.2 (inb_of Sz117 ⟨by decide, by decide⟩) (Has.at Hs117 (inb_of Sz117 ⟨by decide, by decide⟩) rfl) (g := (mkF m 82 #[.val (.int p0), .val (.int p1), .val (.int p2), .val (.int p3), .val (.int p4), .val (.int p5), .val (.int (4 : Int32)), .val (.ref b73), .val (.ref b114), .unset, .unset, .unset, .unset] [(.int (1 : Int32)), (.ref b73), (.int (1 : Int32)), (.ref b114)])) rfl rfl (hb hby at_82)) ?_
        obtain ⟨cl118, Ar118, q118, Sz118, Nn118, Hs118, Gs118⟩ := (id V_b114 : Arv Z h116 b114 kc114 .char (4 : Int32) [(.int (nar .char z_74)), (.int (0 : Int32)), (.int (0 : Int32)), (.int (0 : Int32))] (.int (0 : Int32)))
        obtain ⟨T118, h118, X118, e118, W118, st118⟩ := stC X116 hx hZ e116 Ar118 (j := (1 : Int32)) (inb_of Sz118 ⟨by decide, by decide⟩) (g := (mkF m 83 #[.val (.int p0), .val (.int p1), .val (.int p2), .val (.int p3), .val (.int p4), .val (.int p5), .val (.int (4 : Int32)), .val (.ref b73), .val (.ref b114), .unset, .unset, .unset, .unset] [(.int z_76), (.int (1 : Int32)), (.ref b114)])) rfl rfl (hb hby at_83)
        replace V_b114 : Arv Z h118 b114 kc114 .char (4 : Int32) [(.int (nar .char z_74)), (.int (nar .char z_76)), (.int (0 : Int32)), (.int (0 : Int32))] (.int (0 : Int32)) := Arv.set Ar118 q118 Sz118 Nn118 Hs118 Gs118 (fits_nar_char _) W118 1 rfl (Nat.le_of_ble_eq_true rfl)
        replace N0 := Fr.snoc X118 N0 g_b114
        have Sw : Safe Z EL s.vm h116 b114 := S_b114
        replace S_b73 := Safe.wr W118 Sw C0.1 S_b73
        replace S_b114 := Safe.wr W118 Sw C0.1 S_b114
        replace C0 := C0.trans (CHr.wr W118 Sw C0.1)
        replace hk0 := Nat.le_trans hk0 (Nat.le_of_eq W118.size.symm)
        replace V_b73 := V_b73.other W118 ne_b73_b114
        replace O0 := O0.wr W118 g_b114
        replace K0 := K0.wr W118 (Or.inr sz_b114)
        refine Goes.step (T' := T118) (g' := (mkF m 84 #[.val (.int p0), .val (.int p1), .val (.int p2), .val (.int p3), .val (.int p4), .val (.int p5), .val (.int (4 : Int32)), .val (.ref b73), .val (.ref b114), .unset, .unset, .unset, .unset] [])) st118 ?_
        refine Goes.step (T' := T118) (g' := (mkF m 86 #[.val (.int p0), .val (.int p1), .val (.int p2), .val (.int p3), .val (.int p4), .val (.int p5), .val (.int (4 : Int32)), .val (.ref b73), .val (.ref b114), .unset, .unset, .unset, .unset] [(.int (4 : Int32))])) (fun _ kz => XS.iload X118.here hx rfl (hb hby at_84) rfl  kz) ?_
        refine Goes.step (T' := T118) (g' := (mkF m 87 #[.val (.int p0), .val (.int p1), .val (.int p2), .val (.int p3), .val (.int p4), .val (.int p5), .val (.int (4 : Int32)), .val (.ref b73), .val (.ref b114), .unset, .unset, .unset, .unset] [(.int (2 : Int32)), (.int (4 : Int32))])) (fun _ kz => XS.iconst X118.here hx rfl (hb hby at_86) kz) ?_
        refine Goes.step (T' := T118) (g' := (mkF m 90 #[.val (.int p0), .val (.int p1), .val (.int p2), .val (.int p3), .val (.int p4), .val (.int p5), .val (.int (4 : Int32)), .val (.ref b73), .val (.ref b114), .unset, .unset, .unset, .unset] [])) (fun _ kz => XS.icmpNo X118.here hx rfl (hb hby at_87) rfl (tlt (by decide : ((2 : Int32) < (4 : Int32)))).2.2.2 kz) ?_
        refine Goes.step (T' := T118) (g' := (mkF m 92 #[.val (.int p0), .val (.int p1), .val (.int p2), .val (.int p3), .val (.int p4), .val (.int p5), .val (.int (4 : Int32)), .val (.ref b73), .val (.ref b114), .unset, .unset, .unset, .unset] [(.ref b114)])) (fun _ kz => XS.aload X118.here hx rfl (hb hby at_90) rfl rfl kz) ?_
        refine Goes.step (T' := T118) (g' := (mkF m 93 #[.val (.int p0), .val (.int p1), .val (.int p2), .val (.int p3), .val (.int p4), .val (.int p5), .val (.int (4 : Int32)), .val (.ref b73), .val (.ref b114), .unset, .unset, .unset, .unset] [(.int (2 : Int32)), (.ref b114)])) (fun _ kz => XS.iconst X118.here hx rfl (hb hby at_92) kz) ?_
        refine Goes.step (T' := T118) (g' := (mkF m 95 #[.val (.int p0), .val (.int p1), .val (.int p2), .val (.int p3), .val (.int p4), .val (.int p5), .val (.int (4 : Int32)), .val (.ref b73), .val (.ref b114), .unset, .unset, .unset, .unset] [(.ref b73), (.int (2 : Int32)), (.ref b114)])) (fun _ kz => XS.aload X118.here hx rfl (hb hby at_93) rfl rfl kz) ?_
        refine Goes.step (T' := T118) (g' := (mkF m 96 #[.val (.int p0), .val (.int p1), .val (.int p2), .val (.int p3), .val (.int p4), .val (.int p5), .val (.int (4 : Int32)), .val (.ref b73), .val (.ref b114), .unset, .unset, .unset, .unset] [(.int (2 : Int32)), (.ref b73), (.int (2 : Int32)), (.ref b114)])) (fun _ kz => XS.iconst X118.here hx rfl (hb hby at_95) kz) ?_
        obtain ⟨cl119, Ar119, q119, Sz119, Nn119, Hs119, Gs119⟩ := (id V_b73 : Arv Z h118 b73 kc73 .char (5 : Int32) [(.int z_74), (.int z_76), (.int z_78), (.int z_80), (.int z_82)] (.int (0 : Int32)))
        refine Goes.step (T' := T118) (g' := (mkF m 97 #[.val (.int p0), .val (.int p1), .val (.int p2), .val (.int p3), .val (.int p4), .val (.int p5), .val (.int (4 : Int32)), .val (.ref b73), .val (.ref b114), .unset, .unset, .unset, .unset] [(.int z_78), (.int (2 : Int32)), (.ref b114)])) (X118.caload hx (j := (2 : Int32)) (v := (.int z_78)) (by rw [e118]; exact Ar119.1) (State.isArrayOf_alike hZ.alike Ar119.2.1) Ar119.2.2 (inb_of Sz119 ⟨by decide, by decide⟩) (Has.at Hs119 (inb_of Sz119 ⟨by decide, by decide⟩) rfl) (g := (mkF m 96 #[.val (.int p0), .val (.int p1), .val (.int p2), .val (.int p3), .val (.int p4), .val (.int p5), .val (.int (4 : Int32)), .val (.ref b73), .val (.ref b114), .unset, .unset, .unset, .unset] [(.int (2 : Int32)), (.ref b73), (.int (2 : Int32)), (.ref b114)])) rfl rfl (hb hby at_96)) ?_
        obtain ⟨cl120, Ar120, q120, Sz120, Nn120, Hs120, Gs120⟩ := (id V_b114 : Arv Z h118 b114 kc114 .char (4 : Int32) [(.int (nar .char z_74)), (.int (nar .char z_76)), (.int (0 : Int32)), (.int (0 : Int32))] (.int (0 : Int32)))
        obtain ⟨T120, h120, X120, e120, W120, st120⟩ := stC X118 hx hZ e118 Ar120 (j := (2 : Int32)) (inb_of Sz120 ⟨by decide, by decide⟩) (g := (mkF m 97 #[.val (.int p0), .val (.int p1), .val (.int p2), .val (.int p3), .val (.int p4), .val (.int p5), .val (.int (4 : Int32)), .val (.ref b73), .val (.ref b114), .unset, .unset, .unset, .unset] [(.int z_78), (.int (2 : Int32)), (.ref b114)])) rfl rfl (hb hby at_97)
        replace V_b114 : Arv Z h120 b114 kc114 .char (4 : Int32) [(.int (nar .char z_74)), (.int (nar .char z_76)), (.int (nar .char z_78)), (.int (0 : Int32))] (.int (0 : Int32)) := Arv.set Ar120 q120 Sz120 Nn120 Hs120 Gs120 (fits_nar_char _) W120 2 rfl (Nat.le_of_ble_eq_true rfl)
        replace N0 := Fr.snoc X120 N0 g_b114
        have Sw : Safe Z EL s.vm h118 b114 := S_b114
        replace S_b73 := Safe.wr W120 Sw C0.1 S_b73
        replace S_b114 := Safe.wr W120 Sw C0.1 S_b114
        replace C0 := C0.trans (CHr.wr W120 Sw C0.1)
        replace hk0 := Nat.le_trans hk0 (Nat.le_of_eq W120.size.symm)
        replace V_b73 := V_b73.other W120 ne_b73_b114
        replace O0 := O0.wr W120 g_b114
        replace K0 := K0.wr W120 (Or.inr sz_b114)
        refine Goes.step (T' := T120) (g' := (mkF m 98 #[.val (.int p0), .val (.int p1), .val (.int p2), .val (.int p3), .val (.int p4), .val (.int p5), .val (.int (4 : Int32)), .val (.ref b73), .val (.ref b114), .unset, .unset, .unset, .unset] [])) st120 ?_
        refine Goes.step (T' := T120) (g' := (mkF m 100 #[.val (.int p0), .val (.int p1), .val (.int p2), .val (.int p3), .val (.int p4), .val (.int p5), .val (.int (4 : Int32)), .val (.ref b73), .val (.ref b114), .unset, .unset, .unset, .unset] [(.int (4 : Int32))])) (fun _ kz => XS.iload X120.here hx rfl (hb hby at_98) rfl  kz) ?_
        refine Goes.step (T' := T120) (g' := (mkF m 101 #[.val (.int p0), .val (.int p1), .val (.int p2), .val (.int p3), .val (.int p4), .val (.int p5), .val (.int (4 : Int32)), .val (.ref b73), .val (.ref b114), .unset, .unset, .unset, .unset] [(.int (3 : Int32)), (.int (4 : Int32))])) (fun _ kz => XS.iconst X120.here hx rfl (hb hby at_100) kz) ?_
        refine Goes.step (T' := T120) (g' := (mkF m 104 #[.val (.int p0), .val (.int p1), .val (.int p2), .val (.int p3), .val (.int p4), .val (.int p5), .val (.int (4 : Int32)), .val (.ref b73), .val (.ref b114), .unset, .unset, .unset, .unset] [])) (fun _ kz => XS.icmpNo X120.here hx rfl (hb hby at_101) rfl (tlt (by decide : ((3 : Int32) < (4 : Int32)))).2.2.2 kz) ?_
        refine Goes.step (T' := T120) (g' := (mkF m 106 #[.val (.int p0), .val (.int p1), .val (.int p2), .val (.int p3), .val (.int p4), .val (.int p5), .val (.int (4 : Int32)), .val (.ref b73), .val (.ref b114), .unset, .unset, .unset, .unset] [(.ref b114)])) (fun _ kz => XS.aload X120.here hx rfl (hb hby at_104) rfl rfl kz) ?_
        refine Goes.step (T' := T120) (g' := (mkF m 107 #[.val (.int p0), .val (.int p1), .val (.int p2), .val (.int p3), .val (.int p4), .val (.int p5), .val (.int (4 : Int32)), .val (.ref b73), .val (.ref b114), .unset, .unset, .unset, .unset] [(.int (3 : Int32)), (.ref b114)])) (fun _ kz => XS.iconst X120.here hx rfl (hb hby at_106) kz) ?_
        refine Goes.step (T' := T120) (g' := (mkF m 109 #[.val (.int p0), .val (.int p1), .val (.int p2), .val (.int p3), .val (.int p4), .val (.int p5), .val (.int (4 : Int32)), .val (.ref b73), .val (.ref b114), .unset, .unset, .unset, .unset] [(.ref b73), (.int (3 : Int32)), (.ref b114)])) (fun _ kz => XS.aload X120.here hx rfl (hb hby at_107) rfl rfl kz) ?_
        refine Goes.step (T' := T120) (g' := (mkF m 110 #[.val (.int p0), .val (.int p1), .val (.int p2), .val (.int p3), .val (.int p4), .val (.int p5), .val (.int (4 : Int32)), .val (.ref b73), .val (.ref b114), .unset, .unset, .unset, .unset] [(.int (3 : Int32)), (.ref b73), (.int (3 : Int32)), (.ref b114)])) (fun _ kz => XS.iconst X120.here hx rfl (hb hby at_109) kz) ?_
        obtain ⟨cl121, Ar121, q121, Sz121, Nn121, Hs121, Gs121⟩ := (id V_b73 : Arv Z h120 b73 kc73 .char (5 : Int32) [(.int z_74), (.int z_76), (.int z_78), (.int z_80), (.int z_82)] (.int (0 : Int32)))
        refine Goes.step (T' := T120) (g' := (mkF m 111 #[.val (.int p0), .val (.int p1), .val (.int p2), .val (.int p3), .val (.int p4), .val (.int p5), .val (.int (4 : Int32)), .val (.ref b73), .val (.ref b114), .unset, .unset, .unset, .unset] [(.int z_80), (.int (3 : Int32)), (.ref b114)])) (X120.caload hx (j := (3 : Int32)) (v := (.int z_80)) (by rw [e120]; exact Ar121.1) (State.isArrayOf_alike hZ.alike Ar121.2.1) Ar121.2.2 (inb_of Sz121 ⟨by decide, by decide⟩) (Has.at Hs121 (inb_of Sz121 ⟨by decide, by decide⟩) rfl) (g := (mkF m 110 #[.val (.int p0), .val (.int p1), .val (.int p2), .val (.int p3), .val (.int p4), .val (.int p5), .val (.int (4 : Int32)), .val (.ref b73), .val (.ref b114), .unset, .unset, .unset, .unset] [(.int (3 : Int32)), (.ref b73), (.int (3 : Int32)), (.ref b114)])) rfl rfl (hb hby at_110)) ?_
        obtain ⟨cl122, Ar122, q122, Sz122, Nn122, Hs122, Gs122⟩ := (id V_b114 : Arv Z h120 b114 kc114 .char (4 : Int32) [(.int (nar .char z_74)), (.int (nar .char z_76)), (.int (nar .char z_78)), (.int (0 : Int32))] (.int (0 : Int32)))
        obtain ⟨T122, h122, X122, e122, W122, st122⟩ := stC X120 hx hZ e120 Ar122 (j := (3 : Int32)) (inb_of Sz122 ⟨by decide, by decide⟩) (g := (mkF m 111 #[.val (.int p0), .val (.int p1), .val (.int p2), .val (.int p3), .val (.int p4), .val (.int p5), .val (.int (4 : Int32)), .val (.ref b73), .val (.ref b114), .unset, .unset, .unset, .unset] [(.int z_80), (.int (3 : Int32)), (.ref b114)])) rfl rfl (hb hby at_111)
        replace V_b114 : Arv Z h122 b114 kc114 .char (4 : Int32) [(.int (nar .char z_74)), (.int (nar .char z_76)), (.int (nar .char z_78)), (.int (nar .char z_80))] (.int (0 : Int32)) := Arv.set Ar122 q122 Sz122 Nn122 Hs122 Gs122 (fits_nar_char _) W122 3 rfl (Nat.le_of_ble_eq_true rfl)
        replace N0 := Fr.snoc X122 N0 g_b114
        have Sw : Safe Z EL s.vm h120 b114 := S_b114
        replace S_b73 := Safe.wr W122 Sw C0.1 S_b73
        replace S_b114 := Safe.wr W122 Sw C0.1 S_b114
        replace C0 := C0.trans (CHr.wr W122 Sw C0.1)
        replace hk0 := Nat.le_trans hk0 (Nat.le_of_eq W122.size.symm)
        replace V_b73 := V_b73.other W122 ne_b73_b114
        replace O0 := O0.wr W122 g_b114
        replace K0 := K0.wr W122 (Or.inr sz_b114)
        refine Goes.step (T' := T122) (g' := (mkF m 112 #[.val (.int p0), .val (.int p1), .val (.int p2), .val (.int p3), .val (.int p4), .val (.int p5), .val (.int (4 : Int32)), .val (.ref b73), .val (.ref b114), .unset, .unset, .unset, .unset] [])) st122 ?_
        refine Goes.step (T' := T122) (g' := (mkF m 114 #[.val (.int p0), .val (.int p1), .val (.int p2), .val (.int p3), .val (.int p4), .val (.int p5), .val (.int (4 : Int32)), .val (.ref b73), .val (.ref b114), .unset, .unset, .unset, .unset] [(.int (4 : Int32))])) (fun _ kz => XS.iload X122.here hx rfl (hb hby at_112) rfl  kz) ?_
        refine Goes.step (T' := T122) (g' := (mkF m 115 #[.val (.int p0), .val (.int p1), .val (.int p2), .val (.int p3), .val (.int p4), .val (.int p5), .val (.int (4 : Int32)), .val (.ref b73), .val (.ref b114), .unset, .unset, .unset, .unset] [(.int (4 : Int32)), (.int (4 : Int32))])) (fun _ kz => XS.iconst X122.here hx rfl (hb hby at_114) kz) ?_
        refine Goes.step (T' := T122) (g' := (mkF m 126 #[.val (.int p0), .val (.int p1), .val (.int p2), .val (.int p3), .val (.int p4), .val (.int p5), .val (.int (4 : Int32)), .val (.ref b73), .val (.ref b114), .unset, .unset, .unset, .unset] [])) (fun _ kz => XS.icmpYes X122.here hx rfl (pc0 := 115) (pc' := 126) rfl (hb hby at_115) rfl (flt (by decide : ¬ ((4 : Int32) < (4 : Int32)))).2.2.2 (by decide) (by decide) kz) ?_
        rw [hnz_74, hnz_76, hnz_78, hnz_80] at V_b114
        exact J0 (b114) (kc114) (4) ([z_74, z_76, z_78, z_80]) (g_b114) (sz_b114) (ne_b73_b114) (by decide) (by decide) (rfl) (fun i hi => match i, hi with | 0, _ => rfl | 1, _ => rfl | 2, _ => rfl | 3, _ => rfl | i + 4, hi => absurd hi (by omega)) ((List.forall_mem_cons.mpr ⟨hbz_74, (List.forall_mem_cons.mpr ⟨hbz_76, (List.forall_mem_cons.mpr ⟨hbz_78, (List.forall_mem_cons.mpr ⟨hbz_80, (fun _ h => nomatch h)⟩)⟩)⟩)⟩)) _ _ _ (X122.mono (by decide) (by decide)) e122 N0 K0 O0 C0 hk0 S_b73 V_b73 V_b114 S_b114
      ·
        rw [h6]
        refine Goes.step (T' := T83) (g' := (mkF m 53 #[.val (.int p0), .val (.int p1), .val (.int p2), .val (.int p3), .val (.int p4), .val (.int p5), .val (.int (5 : Int32)), .val (.ref b73), .unset, .unset, .unset, .unset, .unset] [(.int (5 : Int32))])) (fun _ kz => XS.iload X83.here hx rfl (hb hby at_51) rfl  kz) ?_
        obtain ⟨T123, h123, kc123, X123, e123, Ex123, A123, st123⟩ := newP X83 hx hZ (hw _ (List.mem_of_getElem? (i := 1) rfl)) e83 (g := (mkF m 53 #[.val (.int p0), .val (.int p1), .val (.int p2), .val (.int p3), .val (.int p4), .val (.int p5), .val (.int (5 : Int32)), .val (.ref b73), .unset, .unset, .unset, .unset, .unset] [(.int (5 : Int32))])) rfl (hb hby at_53) rfl (by decide) (cap := 5) (by decide) (by decide) (by decide) (by decide)
        obtain ⟨b123, gg123⟩ : ∃ z, z = h83.size := ⟨_, rfl⟩
        rw [← gg123] at A123 st123
        have g_b123 : n0 ≤ b123 := Nat.le_trans (own_n0 O0) (Nat.le_of_eq gg123.symm)
        have sz_b123 : h0.size ≤ b123 := Nat.le_trans K0.1 (Nat.le_of_eq gg123.symm)
        have ne_b73_b123 : b73 ≠ b123 := Nat.ne_of_lt (Nat.lt_of_lt_of_le V_b73.lt (Nat.le_of_eq gg123.symm))
        have S_b123 := (Safe.new (Z := Z) (EL := EL) (vm := s.vm) (Nat.le_of_eq gg123.symm)).ext Ex123 C0.1
        replace S_b73 := S_b73.ext Ex123 C0.1
        replace V_b73 := V_b73.ext Ex123
        replace O0 := O0.ext Ex123
        replace K0 := K0.ext Ex123
        replace C0 := C0.trans (CHr.ext Ex123 C0.1)
        replace hk0 := Nat.le_trans hk0 Ex123.1
        have V_b123 : Arv Z h123 b123 kc123 .char (5 : Int32) [(.int (0 : Int32)), (.int (0 : Int32)), (.int (0 : Int32)), (.int (0 : Int32)), (.int (0 : Int32))] (.int (0 : Int32)) := (Arv.new A123 (by decide)).pad (pad_rep [] (.int (0 : Int32)) 5)
        refine Goes.step (T' := T123) (g' := (mkF m 55 #[.val (.int p0), .val (.int p1), .val (.int p2), .val (.int p3), .val (.int p4), .val (.int p5), .val (.int (5 : Int32)), .val (.ref b73), .unset, .unset, .unset, .unset, .unset] [(.ref b123)])) st123 ?_
        refine Goes.step (T' := T123) (g' := (mkF m 57 #[.val (.int p0), .val (.int p1), .val (.int p2), .val (.int p3), .val (.int p4), .val (.int p5), .val (.int (5 : Int32)), .val (.ref b73), .val (.ref b123), .unset, .unset, .unset, .unset] [])) (fun _ kz => XS.astore X123.here hx rfl (hb hby at_55) rfl rfl (l' := #[.val (.int p0), .val (.int p1), .val (.int p2), .val (.int p3), .val (.int p4), .val (.int p5), .val (.int (5 : Int32)), .val (.ref b73), .val (.ref b123), .unset, .unset, .unset, .unset]) rfl kz) ?_
        refine Goes.step (T' := T123) (g' := (mkF m 59 #[.val (.int p0), .val (.int p1), .val (.int p2), .val (.int p3), .val (.int p4), .val (.int p5), .val (.int (5 : Int32)), .val (.ref b73), .val (.ref b123), .unset, .unset, .unset, .unset] [(.int (5 : Int32))])) (fun _ kz => XS.iload X123.here hx rfl (hb hby at_57) rfl  kz) ?_
        refine Goes.step (T' := T123) (g' := (mkF m 62 #[.val (.int p0), .val (.int p1), .val (.int p2), .val (.int p3), .val (.int p4), .val (.int p5), .val (.int (5 : Int32)), .val (.ref b73), .val (.ref b123), .unset, .unset, .unset, .unset] [])) (fun _ kz => XS.ifNo X123.here hx rfl (hb hby at_59) rfl ((if0 _ _).trans (tlt (by decide : ((0 : Int32) < (5 : Int32)))).2.2.2) kz) ?_
        refine Goes.step (T' := T123) (g' := (mkF m 64 #[.val (.int p0), .val (.int p1), .val (.int p2), .val (.int p3), .val (.int p4), .val (.int p5), .val (.int (5 : Int32)), .val (.ref b73), .val (.ref b123), .unset, .unset, .unset, .unset] [(.ref b123)])) (fun _ kz => XS.aload X123.here hx rfl (hb hby at_62) rfl rfl kz) ?_
        refine Goes.step (T' := T123) (g' := (mkF m 65 #[.val (.int p0), .val (.int p1), .val (.int p2), .val (.int p3), .val (.int p4), .val (.int p5), .val (.int (5 : Int32)), .val (.ref b73), .val (.ref b123), .unset, .unset, .unset, .unset] [(.int (0 : Int32)), (.ref b123)])) (fun _ kz => XS.iconst X123.here hx rfl (hb hby at_64) kz) ?_
        refine Goes.step (T' := T123) (g' := (mkF m 67 #[.val (.int p0), .val (.int p1), .val (.int p2), .val (.int p3), .val (.int p4), .val (.int p5), .val (.int (5 : Int32)), .val (.ref b73), .val (.ref b123), .unset, .unset, .unset, .unset] [(.ref b73), (.int (0 : Int32)), (.ref b123)])) (fun _ kz => XS.aload X123.here hx rfl (hb hby at_65) rfl rfl kz) ?_
        refine Goes.step (T' := T123) (g' := (mkF m 68 #[.val (.int p0), .val (.int p1), .val (.int p2), .val (.int p3), .val (.int p4), .val (.int p5), .val (.int (5 : Int32)), .val (.ref b73), .val (.ref b123), .unset, .unset, .unset, .unset] [(.int (0 : Int32)), (.ref b73), (.int (0 : Int32)), (.ref b123)])) (fun _ kz => XS.iconst X123.here hx rfl (hb hby at_67) kz) ?_
        obtain ⟨cl124, Ar124, q124, Sz124, Nn124, Hs124, Gs124⟩ := (id V_b73 : Arv Z h123 b73 kc73 .char (5 : Int32) [(.int z_74), (.int z_76), (.int z_78), (.int z_80), (.int z_82)] (.int (0 : Int32)))
        refine Goes.step (T' := T123) (g' := (mkF m 69 #[.val (.int p0), .val (.int p1), .val (.int p2), .val (.int p3), .val (.int p4), .val (.int p5), .val (.int (5 : Int32)), .val (.ref b73), .val (.ref b123), .unset, .unset, .unset, .unset] [(.int z_74), (.int (0 : Int32)), (.ref b123)])) (X123.caload hx (j := (0 : Int32)) (v := (.int z_74)) (by rw [e123]; exact Ar124.1) (State.isArrayOf_alike hZ.alike Ar124.2.1) Ar124.2.2 (inb_of Sz124 ⟨by decide, by decide⟩) (Has.at Hs124 (inb_of Sz124 ⟨by decide, by decide⟩) rfl) (g := (mkF m 68 #[.val (.int p0), .val (.int p1), .val (.int p2), .val (.int p3), .val (.int p4), .val (.int p5), .val (.int (5 : Int32)), .val (.ref b73), .val (.ref b123), .unset, .unset, .unset, .unset] [(.int (0 : Int32)), (.ref b73), (.int (0 : Int32)), (.ref b123)])) rfl rfl (hb hby at_68)) ?_
        obtain ⟨cl125, Ar125, q125, Sz125, Nn125, Hs125, Gs125⟩ := (id V_b123 : Arv Z h123 b123 kc123 .char (5 : Int32) [(.int (0 : Int32)), (.int (0 : Int32)), (.int (0 : Int32)), (.int (0 : Int32)), (.int (0 : Int32))] (.int (0 : Int32)))
        obtain ⟨T125, h125, X125, e125, W125, st125⟩ := stC X123 hx hZ e123 Ar125 (j := (0 : Int32)) (inb_of Sz125 ⟨by decide, by decide⟩) (g := (mkF m 69 #[.val (.int p0), .val (.int p1), .val (.int p2), .val (.int p3), .val (.int p4), .val (.int p5), .val (.int (5 : Int32)), .val (.ref b73), .val (.ref b123), .unset, .unset, .unset, .unset] [(.int z_74), (.int (0 : Int32)), (.ref b123)])) rfl rfl (hb hby at_69)
        replace V_b123 : Arv Z h125 b123 kc123 .char (5 : Int32) [(.int (nar .char z_74)), (.int (0 : Int32)), (.int (0 : Int32)), (.int (0 : Int32)), (.int (0 : Int32))] (.int (0 : Int32)) := Arv.set Ar125 q125 Sz125 Nn125 Hs125 Gs125 (fits_nar_char _) W125 0 rfl (Nat.le_of_ble_eq_true rfl)
        replace N0 := Fr.snoc X125 N0 g_b123
        have Sw : Safe Z EL s.vm h123 b123 := S_b123
        replace S_b73 := Safe.wr W125 Sw C0.1 S_b73
        replace S_b123 := Safe.wr W125 Sw C0.1 S_b123
        replace C0 := C0.trans (CHr.wr W125 Sw C0.1)
        replace hk0 := Nat.le_trans hk0 (Nat.le_of_eq W125.size.symm)
        replace V_b73 := V_b73.other W125 ne_b73_b123
        replace O0 := O0.wr W125 g_b123
        replace K0 := K0.wr W125 (Or.inr sz_b123)
        refine Goes.step (T' := T125) (g' := (mkF m 70 #[.val (.int p0), .val (.int p1), .val (.int p2), .val (.int p3), .val (.int p4), .val (.int p5), .val (.int (5 : Int32)), .val (.ref b73), .val (.ref b123), .unset, .unset, .unset, .unset] [])) st125 ?_
        refine Goes.step (T' := T125) (g' := (mkF m 72 #[.val (.int p0), .val (.int p1), .val (.int p2), .val (.int p3), .val (.int p4), .val (.int p5), .val (.int (5 : Int32)), .val (.ref b73), .val (.ref b123), .unset, .unset, .unset, .unset] [(.int (5 : Int32))])) (fun _ kz => XS.iload X125.here hx rfl (hb hby at_70) rfl  kz) ?_
        refine Goes.step (T' := T125) (g' := (mkF m 73 #[.val (.int p0), .val (.int p1), .val (.int p2), .val (.int p3), .val (.int p4), .val (.int p5), .val (.int (5 : Int32)), .val (.ref b73), .val (.ref b123), .unset, .unset, .unset, .unset] [(.int (1 : Int32)), (.int (5 : Int32))])) (fun _ kz => XS.iconst X125.here hx rfl (hb hby at_72) kz) ?_
        refine Goes.step (T' := T125) (g' := (mkF m 76 #[.val (.int p0), .val (.int p1), .val (.int p2), .val (.int p3), .val (.int p4), .val (.int p5), .val (.int (5 : Int32)), .val (.ref b73), .val (.ref b123), .unset, .unset, .unset, .unset] [])) (fun _ kz => XS.icmpNo X125.here hx rfl (hb hby at_73) rfl (tlt (by decide : ((1 : Int32) < (5 : Int32)))).2.2.2 kz) ?_
        refine Goes.step (T' := T125) (g' := (mkF m 78 #[.val (.int p0), .val (.int p1), .val (.int p2), .val (.int p3), .val (.int p4), .val (.int p5), .val (.int (5 : Int32)), .val (.ref b73), .val (.ref b123), .unset, .unset, .unset, .unset] [(.ref b123)])) (fun _ kz => XS.aload X125.here hx rfl (hb hby at_76) rfl rfl kz) ?_
        refine Goes.step (T' := T125) (g' := (mkF m 79 #[.val (.int p0), .val (.int p1), .val (.int p2), .val (.int p3), .val (.int p4), .val (.int p5), .val (.int (5 : Int32)), .val (.ref b73), .val (.ref b123), .unset, .unset, .unset, .unset] [(.int (1 : Int32)), (.ref b123)])) (fun _ kz => XS.iconst X125.here hx rfl (hb hby at_78) kz) ?_
        refine Goes.step (T' := T125) (g' := (mkF m 81 #[.val (.int p0), .val (.int p1), .val (.int p2), .val (.int p3), .val (.int p4), .val (.int p5), .val (.int (5 : Int32)), .val (.ref b73), .val (.ref b123), .unset, .unset, .unset, .unset] [(.ref b73), (.int (1 : Int32)), (.ref b123)])) (fun _ kz => XS.aload X125.here hx rfl (hb hby at_79) rfl rfl kz) ?_
        refine Goes.step (T' := T125) (g' := (mkF m 82 #[.val (.int p0), .val (.int p1), .val (.int p2), .val (.int p3), .val (.int p4), .val (.int p5), .val (.int (5 : Int32)), .val (.ref b73), .val (.ref b123), .unset, .unset, .unset, .unset] [(.int (1 : Int32)), (.ref b73), (.int (1 : Int32)), (.ref b123)])) (fun _ kz => XS.iconst X125.here hx rfl (hb hby at_81) kz) ?_
        obtain ⟨cl126, Ar126, q126, Sz126, Nn126, Hs126, Gs126⟩ := (id V_b73 : Arv Z h125 b73 kc73 .char (5 : Int32) [(.int z_74), (.int z_76), (.int z_78), (.int z_80), (.int z_82)] (.int (0 : Int32)))
        refine Goes.step (T' := T125) (g' := (mkF m 83 #[.val (.int p0), .val (.int p1), .val (.int p2), .val (.int p3), .val (.int p4), .val (.int p5), .val (.int (5 : Int32)), .val (.ref b73), .val (.ref b123), .unset, .unset, .unset, .unset] [(.int z_76), (.int (1 : Int32)), (.ref b123)])) (X125.caload hx (j := (1 : Int32)) (v := (.int z_76)) (by rw [e125]; exact Ar126.1) (State.isArrayOf_alike hZ.alike Ar126.2.1) Ar126.2.2 (inb_of Sz126 ⟨by decide, by decide⟩) (Has.at Hs126 (inb_of Sz126 ⟨by decide, by decide⟩) rfl) (g := (mkF m 82 #[.val (.int p0), .val (.int p1), .val (.int p2), .val (.int p3), .val (.int p4), .val (.int p5), .val (.int (5 : Int32)), .val (.ref b73), .val (.ref b123), .unset, .unset, .unset, .unset] [(.int (1 : Int32)), (.ref b73), (.int (1 : Int32)), (.ref b123)])) rfl rfl (hb hby at_82)) ?_
        obtain ⟨cl127, Ar127, q127, Sz127, Nn127, Hs127, Gs127⟩ := (id V_b123 : Arv Z h125 b123 kc123 .char (5 : Int32) [(.int (nar .char z_74)), (.int (0 : Int32)), (.int (0 : Int32)), (.int (0 : Int32)), (.int (0 : Int32))] (.int (0 : Int32)))
        obtain ⟨T127, h127, X127, e127, W127, st127⟩ := stC X125 hx hZ e125 Ar127 (j := (1 : Int32)) (inb_of Sz127 ⟨by decide, by decide⟩) (g := (mkF m 83 #[.val (.int p0), .val (.int p1), .val (.int p2), .val (.int p3), .val (.int p4), .val (.int p5), .val (.int (5 : Int32)), .val (.ref b73), .val (.ref b123), .unset, .unset, .unset, .unset] [(.int z_76), (.int (1 : Int32)), (.ref b123)])) rfl rfl (hb hby at_83)
        replace V_b123 : Arv Z h127 b123 kc123 .char (5 : Int32) [(.int (nar .char z_74)), (.int (nar .char z_76)), (.int (0 : Int32)), (.int (0 : Int32)), (.int (0 : Int32))] (.int (0 : Int32)) := Arv.set Ar127 q127 Sz127 Nn127 Hs127 Gs127 (fits_nar_char _) W127 1 rfl (Nat.le_of_ble_eq_true rfl)
        replace N0 := Fr.snoc X127 N0 g_b123
        have Sw : Safe Z EL s.vm h125 b123 := S_b123
        replace S_b73 := Safe.wr W127 Sw C0.1 S_b73
        replace S_b123 := Safe.wr W127 Sw C0.1 S_b123
        replace C0 := C0.trans (CHr.wr W127 Sw C0.1)
        replace hk0 := Nat.le_trans hk0 (Nat.le_of_eq W127.size.symm)
        replace V_b73 := V_b73.other W127 ne_b73_b123
        replace O0 := O0.wr W127 g_b123
        replace K0 := K0.wr W127 (Or.inr sz_b123)
        refine Goes.step (T' := T127) (g' := (mkF m 84 #[.val (.int p0), .val (.int p1), .val (.int p2), .val (.int p3), .val (.int p4), .val (.int p5), .val (.int (5 : Int32)), .val (.ref b73), .val (.ref b123), .unset, .unset, .unset, .unset] [])) st127 ?_
        refine Goes.step (T' := T127) (g' := (mkF m 86 #[.val (.int p0), .val (.int p1), .val (.int p2), .val (.int p3), .val (.int p4), .val (.int p5), .val (.int (5 : Int32)), .val (.ref b73), .val (.ref b123), .unset, .unset, .unset, .unset] [(.int (5 : Int32))])) (fun _ kz => XS.iload X127.here hx rfl (hb hby at_84) rfl  kz) ?_
        refine Goes.step (T' := T127) (g' := (mkF m 87 #[.val (.int p0), .val (.int p1), .val (.int p2), .val (.int p3), .val (.int p4), .val (.int p5), .val (.int (5 : Int32)), .val (.ref b73), .val (.ref b123), .unset, .unset, .unset, .unset] [(.int (2 : Int32)), (.int (5 : Int32))])) (fun _ kz => XS.iconst X127.here hx rfl (hb hby at_86) kz) ?_
        refine Goes.step (T' := T127) (g' := (mkF m 90 #[.val (.int p0), .val (.int p1), .val (.int p2), .val (.int p3), .val (.int p4), .val (.int p5), .val (.int (5 : Int32)), .val (.ref b73), .val (.ref b123), .unset, .unset, .unset, .unset] [])) (fun _ kz => XS.icmpNo X127.here hx rfl (hb hby at_87) rfl (tlt (by decide : ((2 : Int32) < (5 : Int32)))).2.2.2 kz) ?_
        refine Goes.step (T' := T127) (g' := (mkF m 92 #[.val (.int p0), .val (.int p1), .val (.int p2), .val (.int p3), .val (.int p4), .val (.int p5), .val (.int (5 : Int32)), .val (.ref b73), .val (.ref b123), .unset, .unset, .unset, .unset] [(.ref b123)])) (fun _ kz => XS.aload X127.here hx rfl (hb hby at_90) rfl rfl kz) ?_
        refine Goes.step (T' := T127) (g' := (mkF m 93 #[.val (.int p0), .val (.int p1), .val (.int p2), .val (.int p3), .val (.int p4), .val (.int p5), .val (.int (5 : Int32)), .val (.ref b73), .val (.ref b123), .unset, .unset, .unset, .unset] [(.int (2 : Int32)), (.ref b123)])) (fun _ kz => XS.iconst X127.here hx rfl (hb hby at_92) kz) ?_
        refine Goes.step (T' := T127) (g' := (mkF m 95 #[.val (.int p0), .val (.int p1), .val (.int p2), .val (.int p3), .val (.int p4), .val (.int p5), .val (.int (5 : Int32)), .val (.ref b73), .val (.ref b123), .unset, .unset, .unset, .unset] [(.ref b73), (.int (2 : Int32)), (.ref b123)])) (fun _ kz => XS.aload X127.here hx rfl (hb hby at_93) rfl rfl kz) ?_
        refine Goes.step (T' := T127) (g' := (mkF m 96 #[.val (.int p0), .val (.int p1), .val (.int p2), .val (.int p3), .val (.int p4), .val (.int p5), .val (.int (5 : Int32)), .val (.ref b73), .val (.ref b123), .unset, .unset, .unset, .unset] [(.int (2 : Int32)), (.ref b73), (.int (2 : Int32)), (.ref b123)])) (fun _ kz => XS.iconst X127.here hx rfl (hb hby at_95) kz) ?_
        obtain ⟨cl128, Ar128, q128, Sz128, Nn128, Hs128, Gs128⟩ := (id V_b73 : Arv Z h127 b73 kc73 .char (5 : Int32) [(.int z_74), (.int z_76), (.int z_78), (.int z_80), (.int z_82)] (.int (0 : Int32)))
        refine Goes.step (T' := T127) (g' := (mkF m 97 #[.val (.int p0), .val (.int p1), .val (.int p2), .val (.int p3), .val (.int p4), .val (.int p5), .val (.int (5 : Int32)), .val (.ref b73), .val (.ref b123), .unset, .unset, .unset, .unset] [(.int z_78), (.int (2 : Int32)), (.ref b123)])) (X127.caload hx (j := (2 : Int32)) (v := (.int z_78)) (by rw [e127]; exact Ar128.1) (State.isArrayOf_alike hZ.alike Ar128.2.1) Ar128.2.2 (inb_of Sz128 ⟨by decide, by decide⟩) (Has.at Hs128 (inb_of Sz128 ⟨by decide, by decide⟩) rfl) (g := (mkF m 96 #[.val (.int p0), .val (.int p1), .val (.int p2), .val (.int p3), .val (.int p4), .val (.int p5), .val (.int (5 : Int32)), .val (.ref b73), .val (.ref b123), .unset, .unset, .unset, .unset] [(.int (2 : Int32)), (.ref b73), (.int (2 : Int32)), (.ref b123)])) rfl rfl (hb hby at_96)) ?_
        obtain ⟨cl129, Ar129, q129, Sz129, Nn129, Hs129, Gs129⟩ := (id V_b123 : Arv Z h127 b123 kc123 .char (5 : Int32) [(.int (nar .char z_74)), (.int (nar .char z_76)), (.int (0 : Int32)), (.int (0 : Int32)), (.int (0 : Int32))] (.int (0 : Int32)))
        obtain ⟨T129, h129, X129, e129, W129, st129⟩ := stC X127 hx hZ e127 Ar129 (j := (2 : Int32)) (inb_of Sz129 ⟨by decide, by decide⟩) (g := (mkF m 97 #[.val (.int p0), .val (.int p1), .val (.int p2), .val (.int p3), .val (.int p4), .val (.int p5), .val (.int (5 : Int32)), .val (.ref b73), .val (.ref b123), .unset, .unset, .unset, .unset] [(.int z_78), (.int (2 : Int32)), (.ref b123)])) rfl rfl (hb hby at_97)
        replace V_b123 : Arv Z h129 b123 kc123 .char (5 : Int32) [(.int (nar .char z_74)), (.int (nar .char z_76)), (.int (nar .char z_78)), (.int (0 : Int32)), (.int (0 : Int32))] (.int (0 : Int32)) := Arv.set Ar129 q129 Sz129 Nn129 Hs129 Gs129 (fits_nar_char _) W129 2 rfl (Nat.le_of_ble_eq_true rfl)
        replace N0 := Fr.snoc X129 N0 g_b123
        have Sw : Safe Z EL s.vm h127 b123 := S_b123
        replace S_b73 := Safe.wr W129 Sw C0.1 S_b73
        replace S_b123 := Safe.wr W129 Sw C0.1 S_b123
        replace C0 := C0.trans (CHr.wr W129 Sw C0.1)
        replace hk0 := Nat.le_trans hk0 (Nat.le_of_eq W129.size.symm)
        replace V_b73 := V_b73.other W129 ne_b73_b123
        replace O0 := O0.wr W129 g_b123
        replace K0 := K0.wr W129 (Or.inr sz_b123)
        refine Goes.step (T' := T129) (g' := (mkF m 98 #[.val (.int p0), .val (.int p1), .val (.int p2), .val (.int p3), .val (.int p4), .val (.int p5), .val (.int (5 : Int32)), .val (.ref b73), .val (.ref b123), .unset, .unset, .unset, .unset] [])) st129 ?_
        refine Goes.step (T' := T129) (g' := (mkF m 100 #[.val (.int p0), .val (.int p1), .val (.int p2), .val (.int p3), .val (.int p4), .val (.int p5), .val (.int (5 : Int32)), .val (.ref b73), .val (.ref b123), .unset, .unset, .unset, .unset] [(.int (5 : Int32))])) (fun _ kz => XS.iload X129.here hx rfl (hb hby at_98) rfl  kz) ?_
        refine Goes.step (T' := T129) (g' := (mkF m 101 #[.val (.int p0), .val (.int p1), .val (.int p2), .val (.int p3), .val (.int p4), .val (.int p5), .val (.int (5 : Int32)), .val (.ref b73), .val (.ref b123), .unset, .unset, .unset, .unset] [(.int (3 : Int32)), (.int (5 : Int32))])) (fun _ kz => XS.iconst X129.here hx rfl (hb hby at_100) kz) ?_
        refine Goes.step (T' := T129) (g' := (mkF m 104 #[.val (.int p0), .val (.int p1), .val (.int p2), .val (.int p3), .val (.int p4), .val (.int p5), .val (.int (5 : Int32)), .val (.ref b73), .val (.ref b123), .unset, .unset, .unset, .unset] [])) (fun _ kz => XS.icmpNo X129.here hx rfl (hb hby at_101) rfl (tlt (by decide : ((3 : Int32) < (5 : Int32)))).2.2.2 kz) ?_
        refine Goes.step (T' := T129) (g' := (mkF m 106 #[.val (.int p0), .val (.int p1), .val (.int p2), .val (.int p3), .val (.int p4), .val (.int p5), .val (.int (5 : Int32)), .val (.ref b73), .val (.ref b123), .unset, .unset, .unset, .unset] [(.ref b123)])) (fun _ kz => XS.aload X129.here hx rfl (hb hby at_104) rfl rfl kz) ?_
        refine Goes.step (T' := T129) (g' := (mkF m 107 #[.val (.int p0), .val (.int p1), .val (.int p2), .val (.int p3), .val (.int p4), .val (.int p5), .val (.int (5 : Int32)), .val (.ref b73), .val (.ref b123), .unset, .unset, .unset, .unset] [(.int (3 : Int32)), (.ref b123)])) (fun _ kz => XS.iconst X129.here hx rfl (hb hby at_106) kz) ?_
        refine Goes.step (T' := T129) (g' := (mkF m 109 #[.val (.int p0), .val (.int p1), .val (.int p2), .val (.int p3), .val (.int p4), .val (.int p5), .val (.int (5 : Int32)), .val (.ref b73), .val (.ref b123), .unset, .unset, .unset, .unset] [(.ref b73), (.int (3 : Int32)), (.ref b123)])) (fun _ kz => XS.aload X129.here hx rfl (hb hby at_107) rfl rfl kz) ?_
        refine Goes.step (T' := T129) (g' := (mkF m 110 #[.val (.int p0), .val (.int p1), .val (.int p2), .val (.int p3), .val (.int p4), .val (.int p5), .val (.int (5 : Int32)), .val (.ref b73), .val (.ref b123), .unset, .unset, .unset, .unset] [(.int (3 : Int32)), (.ref b73), (.int (3 : Int32)), (.ref b123)])) (fun _ kz => XS.iconst X129.here hx rfl (hb hby at_109) kz) ?_
        obtain ⟨cl130, Ar130, q130, Sz130, Nn130, Hs130, Gs130⟩ := (id V_b73 : Arv Z h129 b73 kc73 .char (5 : Int32) [(.int z_74), (.int z_76), (.int z_78), (.int z_80), (.int z_82)] (.int (0 : Int32)))
        refine Goes.step (T' := T129) (g' := (mkF m 111 #[.val (.int p0), .val (.int p1), .val (.int p2), .val (.int p3), .val (.int p4), .val (.int p5), .val (.int (5 : Int32)), .val (.ref b73), .val (.ref b123), .unset, .unset, .unset, .unset] [(.int z_80), (.int (3 : Int32)), (.ref b123)])) (X129.caload hx (j := (3 : Int32)) (v := (.int z_80)) (by rw [e129]; exact Ar130.1) (State.isArrayOf_alike hZ.alike Ar130.2.1) Ar130.2.2 (inb_of Sz130 ⟨by decide, by decide⟩) (Has.at Hs130 (inb_of Sz130 ⟨by decide, by decide⟩) rfl) (g := (mkF m 110 #[.val (.int p0), .val (.int p1), .val (.int p2), .val (.int p3), .val (.int p4), .val (.int p5), .val (.int (5 : Int32)), .val (.ref b73), .val (.ref b123), .unset, .unset, .unset, .unset] [(.int (3 : Int32)), (.ref b73), (.int (3 : Int32)), (.ref b123)])) rfl rfl (hb hby at_110)) ?_
        obtain ⟨cl131, Ar131, q131, Sz131, Nn131, Hs131, Gs131⟩ := (id V_b123 : Arv Z h129 b123 kc123 .char (5 : Int32) [(.int (nar .char z_74)), (.int (nar .char z_76)), (.int (nar .char z_78)), (.int (0 : Int32)), (.int (0 : Int32))] (.int (0 : Int32)))
        obtain ⟨T131, h131, X131, e131, W131, st131⟩ := stC X129 hx hZ e129 Ar131 (j := (3 : Int32)) (inb_of Sz131 ⟨by decide, by decide⟩) (g := (mkF m 111 #[.val (.int p0), .val (.int p1), .val (.int p2), .val (.int p3), .val (.int p4), .val (.int p5), .val (.int (5 : Int32)), .val (.ref b73), .val (.ref b123), .unset, .unset, .unset, .unset] [(.int z_80), (.int (3 : Int32)), (.ref b123)])) rfl rfl (hb hby at_111)
        replace V_b123 : Arv Z h131 b123 kc123 .char (5 : Int32) [(.int (nar .char z_74)), (.int (nar .char z_76)), (.int (nar .char z_78)), (.int (nar .char z_80)), (.int (0 : Int32))] (.int (0 : Int32)) := Arv.set Ar131 q131 Sz131 Nn131 Hs131 Gs131 (fits_nar_char _) W131 3 rfl (Nat.le_of_ble_eq_true rfl)
        replace N0 := Fr.snoc X131 N0 g_b123
        have Sw : Safe Z EL s.vm h129 b123 := S_b123
        replace S_b73 := Safe.wr W131 Sw C0.1 S_b73
        replace S_b123 := Safe.wr W131 Sw C0.1 S_b123
        replace C0 := C0.trans (CHr.wr W131 Sw C0.1)
        replace hk0 := Nat.le_trans hk0 (Nat.le_of_eq W131.size.symm)
        replace V_b73 := V_b73.other W131 ne_b73_b123
        replace O0 := O0.wr W131 g_b123
        replace K0 := K0.wr W131 (Or.inr sz_b123)
        refine Goes.step (T' := T131) (g' := (mkF m 112 #[.val (.int p0), .val (.int p1), .val (.int p2), .val (.int p3), .val (.int p4), .val (.int p5), .val (.int (5 : Int32)), .val (.ref b73), .val (.ref b123), .unset, .unset, .unset, .unset] [])) st131 ?_
        refine Goes.step (T' := T131) (g' := (mkF m 114 #[.val (.int p0), .val (.int p1), .val (.int p2), .val (.int p3), .val (.int p4), .val (.int p5), .val (.int (5 : Int32)), .val (.ref b73), .val (.ref b123), .unset, .unset, .unset, .unset] [(.int (5 : Int32))])) (fun _ kz => XS.iload X131.here hx rfl (hb hby at_112) rfl  kz) ?_
        refine Goes.step (T' := T131) (g' := (mkF m 115 #[.val (.int p0), .val (.int p1), .val (.int p2), .val (.int p3), .val (.int p4), .val (.int p5), .val (.int (5 : Int32)), .val (.ref b73), .val (.ref b123), .unset, .unset, .unset, .unset] [(.int (4 : Int32)), (.int (5 : Int32))])) (fun _ kz => XS.iconst X131.here hx rfl (hb hby at_114) kz) ?_
        refine Goes.step (T' := T131) (g' := (mkF m 118 #[.val (.int p0), .val (.int p1), .val (.int p2), .val (.int p3), .val (.int p4), .val (.int p5), .val (.int (5 : Int32)), .val (.ref b73), .val (.ref b123), .unset, .unset, .unset, .unset] [])) (fun _ kz => XS.icmpNo X131.here hx rfl (hb hby at_115) rfl (tlt (by decide : ((4 : Int32) < (5 : Int32)))).2.2.2 kz) ?_
        refine Goes.step (T' := T131) (g' := (mkF m 120 #[.val (.int p0), .val (.int p1), .val (.int p2), .val (.int p3), .val (.int p4), .val (.int p5), .val (.int (5 : Int32)), .val (.ref b73), .val (.ref b123), .unset, .unset, .unset, .unset] [(.ref b123)])) (fun _ kz => XS.aload X131.here hx rfl (hb hby at_118) rfl rfl kz) ?_
        refine Goes.step (T' := T131) (g' := (mkF m 121 #[.val (.int p0), .val (.int p1), .val (.int p2), .val (.int p3), .val (.int p4), .val (.int p5), .val (.int (5 : Int32)), .val (.ref b73), .val (.ref b123), .unset, .unset, .unset, .unset] [(.int (4 : Int32)), (.ref b123)])) (fun _ kz => XS.iconst X131.here hx rfl (hb hby at_120) kz) ?_
        refine Goes.step (T' := T131) (g' := (mkF m 123 #[.val (.int p0), .val (.int p1), .val (.int p2), .val (.int p3), .val (.int p4), .val (.int p5), .val (.int (5 : Int32)), .val (.ref b73), .val (.ref b123), .unset, .unset, .unset, .unset] [(.ref b73), (.int (4 : Int32)), (.ref b123)])) (fun _ kz => XS.aload X131.here hx rfl (hb hby at_121) rfl rfl kz) ?_
        refine Goes.step (T' := T131) (g' := (mkF m 124 #[.val (.int p0), .val (.int p1), .val (.int p2), .val (.int p3), .val (.int p4), .val (.int p5), .val (.int (5 : Int32)), .val (.ref b73), .val (.ref b123), .unset, .unset, .unset, .unset] [(.int (4 : Int32)), (.ref b73), (.int (4 : Int32)), (.ref b123)])) (fun _ kz => XS.iconst X131.here hx rfl (hb hby at_123) kz) ?_
        obtain ⟨cl132, Ar132, q132, Sz132, Nn132, Hs132, Gs132⟩ := (id V_b73 : Arv Z h131 b73 kc73 .char (5 : Int32) [(.int z_74), (.int z_76), (.int z_78), (.int z_80), (.int z_82)] (.int (0 : Int32)))
        refine Goes.step (T' := T131) (g' := (mkF m 125 #[.val (.int p0), .val (.int p1), .val (.int p2), .val (.int p3), .val (.int p4), .val (.int p5), .val (.int (5 : Int32)), .val (.ref b73), .val (.ref b123), .unset, .unset, .unset, .unset] [(.int z_82), (.int (4 : Int32)), (.ref b123)])) (X131.caload hx (j := (4 : Int32)) (v := (.int z_82)) (by rw [e131]; exact Ar132.1) (State.isArrayOf_alike hZ.alike Ar132.2.1) Ar132.2.2 (inb_of Sz132 ⟨by decide, by decide⟩) (Has.at Hs132 (inb_of Sz132 ⟨by decide, by decide⟩) rfl) (g := (mkF m 124 #[.val (.int p0), .val (.int p1), .val (.int p2), .val (.int p3), .val (.int p4), .val (.int p5), .val (.int (5 : Int32)), .val (.ref b73), .val (.ref b123), .unset, .unset, .unset, .unset] [(.int (4 : Int32)), (.ref b73), (.int (4 : Int32)), (.ref b123)])) rfl rfl (hb hby at_124)) ?_
        obtain ⟨cl133, Ar133, q133, Sz133, Nn133, Hs133, Gs133⟩ := (id V_b123 : Arv Z h131 b123 kc123 .char (5 : Int32) [(.int (nar .char z_74)), (.int (nar .char z_76)), (.int (nar .char z_78)), (.int (nar .char z_80)), (.int (0 : Int32))] (.int (0 : Int32)))
        obtain ⟨T133, h133, X133, e133, W133, st133⟩ := stC X131 hx hZ e131 Ar133 (j := (4 : Int32)) (inb_of Sz133 ⟨by decide, by decide⟩) (g := (mkF m 125 #[.val (.int p0), .val (.int p1), .val (.int p2), .val (.int p3), .val (.int p4), .val (.int p5), .val (.int (5 : Int32)), .val (.ref b73), .val (.ref b123), .unset, .unset, .unset, .unset] [(.int z_82), (.int (4 : Int32)), (.ref b123)])) rfl rfl (hb hby at_125)
        replace V_b123 : Arv Z h133 b123 kc123 .char (5 : Int32) [(.int (nar .char z_74)), (.int (nar .char z_76)), (.int (nar .char z_78)), (.int (nar .char z_80)), (.int (nar .char z_82))] (.int (0 : Int32)) := Arv.set Ar133 q133 Sz133 Nn133 Hs133 Gs133 (fits_nar_char _) W133 4 rfl (Nat.le_of_ble_eq_true rfl)
        replace N0 := Fr.snoc X133 N0 g_b123
        have Sw : Safe Z EL s.vm h131 b123 := S_b123
        replace S_b73 := Safe.wr W133 Sw C0.1 S_b73
        replace S_b123 := Safe.wr W133 Sw C0.1 S_b123
        replace C0 := C0.trans (CHr.wr W133 Sw C0.1)
        replace hk0 := Nat.le_trans hk0 (Nat.le_of_eq W133.size.symm)
        replace V_b73 := V_b73.other W133 ne_b73_b123
        replace O0 := O0.wr W133 g_b123
        replace K0 := K0.wr W133 (Or.inr sz_b123)
        refine Goes.step (T' := T133) (g' := (mkF m 126 #[.val (.int p0), .val (.int p1), .val (.int p2), .val (.int p3), .val (.int p4), .val (.int p5), .val (.int (5 : Int32)), .val (.ref b73), .val (.ref b123), .unset, .unset, .unset, .unset] [])) st133 ?_
        rw [hnz_74, hnz_76, hnz_78, hnz_80, hnz_82] at V_b123
        exact J0 (b123) (kc123) (5) ([z_74, z_76, z_78, z_80, z_82]) (g_b123) (sz_b123) (ne_b73_b123) (by decide) (by decide) (rfl) (fun i hi => match i, hi with | 0, _ => rfl | 1, _ => rfl | 2, _ => rfl | 3, _ => rfl | 4, _ => rfl | i + 5, hi => absurd hi (by omega)) ((List.forall_mem_cons.mpr ⟨hbz_74, (List.forall_mem_cons.mpr ⟨hbz_76, (List.forall_mem_cons.mpr ⟨hbz_78, (List.forall_mem_cons.mpr ⟨hbz_80, (List.forall_mem_cons.mpr ⟨hbz_82, (fun _ h => nomatch h)⟩)⟩)⟩)⟩)⟩)) _ _ _ (X133.mono (by decide) (by decide)) e133 N0 K0 O0 C0 hk0 S_b73 V_b73 V_b123 S_b123
    clear N0 K0 O0 C0 hk0 S_b73 V_b73
    intro ba kba k cs g_ba sz_ba ne_b73_ba hk1 hk5 hcl hcg hcb T98 h98 locs98 X98 e98 N0 K0 O0 C0 hk0 S_b73 V_b73 V_ba S_ba
    obtain ⟨T134, h134, X134, e134, Ex134, A134, D134, -, st134⟩ := newO X98 hx hZ hown (hw _ (List.mem_of_getElem? (i := 6) rfl)) (hw _ (List.mem_of_getElem? (i := 7) rfl)) (hw _ (List.mem_of_getElem? (i := 8) rfl)) e98 (g := (mkF m 126 #[.val (.int p0), .val (.int p1), .val (.int p2), .val (.int p3), .val (.int p4), .val (.int p5), .val (.int (Int32.ofNat k)), .val (.ref b73), .val (.ref ba), .unset, .unset, .unset, .unset] [])) rfl (hb hby at_126) (by decide) (by decide)
    obtain ⟨b134, gg134⟩ : ∃ z, z = h98.size := ⟨_, rfl⟩
    rw [← gg134] at A134 D134 st134
    have g_b134 : n0 ≤ b134 := Nat.le_trans (own_n0 O0) (Nat.le_of_eq gg134.symm)
    have sz_b134 : h0.size ≤ b134 := Nat.le_trans K0.1 (Nat.le_of_eq gg134.symm)
    have ne_b73_b134 : b73 ≠ b134 := Nat.ne_of_lt (Nat.lt_of_lt_of_le V_b73.lt (Nat.le_of_eq gg134.symm))
    have ne_ba_b134 : ba ≠ b134 := Nat.ne_of_lt (Nat.lt_of_lt_of_le V_ba.lt (Nat.le_of_eq gg134.symm))
    have S_b134 := (Safe.new (Z := Z) (EL := EL) (vm := s.vm) (Nat.le_of_eq gg134.symm)).ext Ex134 C0.1
    replace S_b73 := S_b73.ext Ex134 C0.1
    replace S_ba := S_ba.ext Ex134 C0.1
    replace V_b73 := V_b73.ext Ex134
    replace V_ba := V_ba.ext Ex134
    replace O0 := O0.ext Ex134
    replace K0 := K0.ext Ex134
    replace C0 := C0.trans (CHr.ext Ex134 C0.1)
    replace hk0 := Nat.le_trans hk0 Ex134.1
    have E_b134 := A134
    have F_b134_type : Fld Z h134 b134 NAC "type" "Ljava/lang/String;" .null := D134 (Or.inr (hw _ (List.mem_of_getElem? (i := 59) rfl))) (ty := (.object "java/lang/String")) (by decide)
    have F_b134_values : Fld Z h134 b134 NAC "values" "Ljava/util/Map;" .null := D134 (Or.inr (hw _ (List.mem_of_getElem? (i := 85) rfl))) (ty := (.object "java/util/Map")) (by decide)
    refine Goes.step (T' := T134) (g' := (mkF m 129 #[.val (.int p0), .val (.int p1), .val (.int p2), .val (.int p3), .val (.int p4), .val (.int p5), .val (.int (Int32.ofNat k)), .val (.ref b73), .val (.ref ba), .unset, .unset, .unset, .unset] [(.ref b134)])) st134 ?_
    clear D134 A134
    refine Goes.step (T' := T134) (g' := (mkF m 130 #[.val (.int p0), .val (.int p1), .val (.int p2), .val (.int p3), .val (.int p4), .val (.int p5), .val (.int (Int32.ofNat k)), .val (.ref b73), .val (.ref ba), .unset, .unset, .unset, .unset] [(.ref b134), (.ref b134)])) (fun _ kz => XS.dup X134.here hx rfl (hb hby at_129) rfl rfl kz) ?_
    obtain ⟨T135, h135, X135, e135, Ex135, A135, D135, -, st135⟩ := newO X134 hx hZ hown (hw _ (List.mem_of_getElem? (i := 9) rfl)) (hw _ (List.mem_of_getElem? (i := 10) rfl)) (hw _ (List.mem_of_getElem? (i := 11) rfl)) e134 (g := (mkF m 130 #[.val (.int p0), .val (.int p1), .val (.int p2), .val (.int p3), .val (.int p4), .val (.int p5), .val (.int (Int32.ofNat k)), .val (.ref b73), .val (.ref ba), .unset, .unset, .unset, .unset] [(.ref b134), (.ref b134)])) rfl (hb hby at_130) (by decide) (by decide)
    obtain ⟨b135, gg135⟩ : ∃ z, z = h134.size := ⟨_, rfl⟩
    rw [← gg135] at A135 D135 st135
    have g_b135 : n0 ≤ b135 := Nat.le_trans (own_n0 O0) (Nat.le_of_eq gg135.symm)
    have sz_b135 : h0.size ≤ b135 := Nat.le_trans K0.1 (Nat.le_of_eq gg135.symm)
    have ne_b73_b135 : b73 ≠ b135 := Nat.ne_of_lt (Nat.lt_of_lt_of_le V_b73.lt (Nat.le_of_eq gg135.symm))
    have ne_ba_b135 : ba ≠ b135 := Nat.ne_of_lt (Nat.lt_of_lt_of_le V_ba.lt (Nat.le_of_eq gg135.symm))
    have ne_b134_b135 : b134 ≠ b135 := Nat.ne_of_lt (Nat.lt_of_lt_of_le E_b134.lt (Nat.le_of_eq gg135.symm))
    have S_b135 := (Safe.new (Z := Z) (EL := EL) (vm := s.vm) (Nat.le_of_eq gg135.symm)).ext Ex135 C0.1
    replace S_b73 := S_b73.ext Ex135 C0.1
    replace S_ba := S_ba.ext Ex135 C0.1
    replace S_b134 := S_b134.ext Ex135 C0.1
    replace V_b73 := V_b73.ext Ex135
    replace V_ba := V_ba.ext Ex135
    replace E_b134 := E_b134.ext Ex135
    replace F_b134_type := F_b134_type.ext Ex135
    replace F_b134_values := F_b134_values.ext Ex135
    replace O0 := O0.ext Ex135
    replace K0 := K0.ext Ex135
    replace C0 := C0.trans (CHr.ext Ex135 C0.1)
    replace hk0 := Nat.le_trans hk0 Ex135.1
    have E_b135 := A135
    have F_b135_coder : Fld Z h135 b135 "java/lang/String" "coder" "B" (.int (0 : Int32)) := D135 (Or.inr (hw _ (List.mem_of_getElem? (i := 35) rfl))) (ty := .byte) (by decide)
    have F_b135_value : Fld Z h135 b135 "java/lang/String" "value" "[B" .null := D135 (Or.inr (hw _ (List.mem_of_getElem? (i := 37) rfl))) (ty := (.array .byte)) (by decide)
    refine Goes.step (T' := T135) (g' := (mkF m 133 #[.val (.int p0), .val (.int p1), .val (.int p2), .val (.int p3), .val (.int p4), .val (.int p5), .val (.int (Int32.ofNat k)), .val (.ref b73), .val (.ref ba), .unset, .unset, .unset, .unset] [(.ref b135), (.ref b134), (.ref b134)])) st135 ?_
    clear D135 A135
    refine Goes.step (T' := T135) (g' := (mkF m 134 #[.val (.int p0), .val (.int p1), .val (.int p2), .val (.int p3), .val (.int p4), .val (.int p5), .val (.int (Int32.ofNat k)), .val (.ref b73), .val (.ref ba), .unset, .unset, .unset, .unset] [(.ref b135), (.ref b135), (.ref b134), (.ref b134)])) (fun _ kz => XS.dup X135.here hx rfl (hb hby at_133) rfl rfl kz) ?_
    refine Goes.step (T' := T135) (g' := (mkF m 136 #[.val (.int p0), .val (.int p1), .val (.int p2), .val (.int p3), .val (.int p4), .val (.int p5), .val (.int (Int32.ofNat k)), .val (.ref b73), .val (.ref ba), .unset, .unset, .unset, .unset] [(.ref ba), (.ref b135), (.ref b135), (.ref b134), (.ref b134)])) (fun _ kz => XS.aload X135.here hx rfl (hb hby at_134) rfl rfl kz) ?_
    obtain ⟨_, _, ⟨T136, L136, k136, n136⟩, -, X136, ⟨Lc136, hQ136, l136, y136, z136⟩, st136⟩ := X135.specialBack hx (y := (⟨"java/lang/String", "<init>", "([C)V"⟩ : MethodName)) rfl hown (mvT hZ (hw _ (List.mem_of_getElem? (i := 12) rfl))) (mvT hZ (hw _ (List.mem_of_getElem? (i := 13) rfl))) (mvT hZ (hw _ (List.mem_of_getElem? (i := 14) rfl))) (by decide) (StrChars.Road.backV (W := 3) hZ (own_wBV hw) (kI := 4) (hw _ (List.mem_of_getElem? (i := 10) rfl)) (cs := cs) (bs := (cs).map (fun c => c.toInt8.toInt32)) (n := k) g_b135 (own_n0 O0) E_b135 F_b135_value F_b135_coder V_ba (Scs.ext O0.2) hz_Scs hcl rfl hk1 (by omega) hcb rfl (by decide) (by decide)) (g := (mkF m 136 #[.val (.int p0), .val (.int p1), .val (.int p2), .val (.int p3), .val (.int p4), .val (.int p5), .val (.int (Int32.ofNat k)), .val (.ref b73), .val (.ref ba), .unset, .unset, .unset, .unset] [(.ref ba), (.ref b135), (.ref b135), (.ref b134), (.ref b134)])) rfl (by rw [hml]; rfl) (Steps.refl _) (a := b135) (argsL := [(.ref ba)]) (rest := [(.ref b135), (.ref b134), (.ref b134)]) (lenOf pd_19 rfl) rfl (by show 2 * 0 + _ ≤ _; exact Nat.le_of_eq rfl) (hb hby at_136) (fun _ _ => ⟨rfl, e135, (by decide : 4 + 1 ≤ _), (show 16 + k ≤ 2240 by omega)⟩)
    dsimp only [Pt.U, Pt.locs, Pt.cells, Pt.slots] at X136 l136 y136 z136 st136 hQ136
    subst l136 y136 z136
    obtain ⟨h136, e136⟩ : ∃ z, T136.heap = z := ⟨_, rfl⟩
    rw [e136] at hQ136
    obtain ⟨rfl, Nq136, Kq136, E_q136, Fc_q136, t136, kb136, gt136, fr136, net136, Fv_q136, V_q136⟩ := hQ136
    replace N0 := Fr.app N0 Nq136
    replace X136 := X136.mono (Nat.le_refl _) (show 16 + k ≤ 21 by omega)
    rw [List.map_map] at V_q136
    have G_q136 : SX Z h136 b135 (cs) := ⟨E_q136, Fc_q136, hcb, _, _, Fv_q136, (by rw [hcl]; exact V_q136)⟩
    have Ss := (sfS S_b135 sf0)
    replace S_b73 := S_b73.keep Kq136 Ss C0.1
    replace S_ba := S_ba.keep Kq136 Ss C0.1
    replace S_b134 := S_b134.keep Kq136 Ss C0.1
    replace S_b135 := S_b135.keep Kq136 Ss C0.1
    replace C0 := C0.trans (CHr.keep Kq136 Ss C0.1)
    replace hk0 := Nat.le_trans hk0 Kq136.1
    replace V_b73 := V_b73.keep Kq136 (ninS ne_b73_b135 nin0)
    replace V_ba := V_ba.keep Kq136 (ninS ne_ba_b135 nin0)
    replace E_b134 := E_b134.keep Kq136
    replace F_b134_type := F_b134_type.keep Kq136 (ninS ne_b134_b135 nin0)
    replace F_b134_values := F_b134_values.keep Kq136 (ninS ne_b134_b135 nin0)
    clear E_b135
    clear F_b135_coder
    clear F_b135_value
    replace O0 := O0.keep Kq136 (allS g_b135 all0)
    replace K0 := K0.trans Kq136 (allS (Or.inr sz_b135) all0)
    have E_b135 := E_q136
    have G_b135 := G_q136
    refine Goes.run (T' := T136) (g' := (mkF m 139 #[.val (.int p0), .val (.int p1), .val (.int p2), .val (.int p3), .val (.int p4), .val (.int p5), .val (.int (Int32.ofNat k)), .val (.ref b73), .val (.ref ba), .unset, .unset, .unset, .unset] [(.ref b135), (.ref b134), (.ref b134)])) st136 ?_
    obtain ⟨T137, h137, X137, e137, Ex137, A137, D137, -, st137⟩ := newO X136 hx hZ hown (hw _ (List.mem_of_getElem? (i := 38) rfl)) (hw _ (List.mem_of_getElem? (i := 39) rfl)) (hw _ (List.mem_of_getElem? (i := 40) rfl)) e136 (g := (mkF m 139 #[.val (.int p0), .val (.int p1), .val (.int p2), .val (.int p3), .val (.int p4), .val (.int p5), .val (.int (Int32.ofNat k)), .val (.ref b73), .val (.ref ba), .unset, .unset, .unset, .unset] [(.ref b135), (.ref b134), (.ref b134)])) rfl (hb hby at_139) (by decide) (by decide)
    obtain ⟨b137, gg137⟩ : ∃ z, z = h136.size := ⟨_, rfl⟩
    rw [← gg137] at A137 D137 st137
    have g_b137 : n0 ≤ b137 := Nat.le_trans (own_n0 O0) (Nat.le_of_eq gg137.symm)
    have sz_b137 : h0.size ≤ b137 := Nat.le_trans K0.1 (Nat.le_of_eq gg137.symm)
    have ne_b73_b137 : b73 ≠ b137 := Nat.ne_of_lt (Nat.lt_of_lt_of_le V_b73.lt (Nat.le_of_eq gg137.symm))
    have ne_ba_b137 : ba ≠ b137 := Nat.ne_of_lt (Nat.lt_of_lt_of_le V_ba.lt (Nat.le_of_eq gg137.symm))
    have ne_b134_b137 : b134 ≠ b137 := Nat.ne_of_lt (Nat.lt_of_lt_of_le E_b134.lt (Nat.le_of_eq gg137.symm))
    have ne_b135_b137 : b135 ≠ b137 := Nat.ne_of_lt (Nat.lt_of_lt_of_le E_b135.lt (Nat.le_of_eq gg137.symm))
    have S_b137 := (Safe.new (Z := Z) (EL := EL) (vm := s.vm) (Nat.le_of_eq gg137.symm)).ext Ex137 C0.1
    replace S_b73 := S_b73.ext Ex137 C0.1
    replace S_ba := S_ba.ext Ex137 C0.1
    replace S_b134 := S_b134.ext Ex137 C0.1
    replace S_b135 := S_b135.ext Ex137 C0.1
    replace V_b73 := V_b73.ext Ex137
    replace V_ba := V_ba.ext Ex137
    replace E_b134 := E_b134.ext Ex137
    replace F_b134_type := F_b134_type.ext Ex137
    replace F_b134_values := F_b134_values.ext Ex137
    replace E_b135 := E_b135.ext Ex137
    replace G_b135 := G_b135.ext Ex137
    replace O0 := O0.ext Ex137
    replace K0 := K0.ext Ex137
    replace C0 := C0.trans (CHr.ext Ex137 C0.1)
    replace hk0 := Nat.le_trans hk0 Ex137.1
    have E_b137 := A137
    have F_b137_loadFactor : Fld Z h137 b137 "java/util/HashMap" "loadFactor" "F" (.float (0 : UInt32)) := D137 (Or.inr (hw _ (List.mem_of_getElem? (i := 53) rfl))) (ty := .float) (by decide)
    refine Goes.step (T' := T137) (g' := (mkF m 142 #[.val (.int p0), .val (.int p1), .val (.int p2), .val (.int p3), .val (.int p4), .val (.int p5), .val (.int (Int32.ofNat k)), .val (.ref b73), .val (.ref ba), .unset, .unset, .unset, .unset] [(.ref b137), (.ref b135), (.ref b134), (.ref b134)])) st137 ?_
    clear D137 A137
    refine Goes.step (T' := T137) (g' := (mkF m 143 #[.val (.int p0), .val (.int p1), .val (.int p2), .val (.int p3), .val (.int p4), .val (.int p5), .val (.int (Int32.ofNat k)), .val (.ref b73), .val (.ref ba), .unset, .unset, .unset, .unset] [(.ref b137), (.ref b137), (.ref b135), (.ref b134), (.ref b134)])) (fun _ kz => XS.dup X137.here hx rfl (hb hby at_142) rfl rfl kz) ?_
    obtain ⟨_, _, ⟨T138, L138, k138, n138⟩, -, X138, ⟨Lc138, hQ138, l138, y138, z138⟩, st138⟩ := X137.specialBack hx (y := (⟨"java/util/HashMap", "<init>", "()V"⟩ : MethodName)) rfl hown (mvT hZ (hw _ (List.mem_of_getElem? (i := 41) rfl))) (mvT hZ (hw _ (List.mem_of_getElem? (i := 42) rfl))) (mvT hZ (hw _ (List.mem_of_getElem? (i := 43) rfl))) (by decide) (backOf (W := 4) (rm_hmInit l Z a0 hw [] b137 h137 n0 O0  E_b137 F_b137_loadFactor g_b137) hZ (hw _ (List.mem_of_getElem? (i := 43) rfl)) (hw _ (List.mem_of_getElem? (i := 40) rfl)) (by decide) (by decide)) (g := (mkF m 143 #[.val (.int p0), .val (.int p1), .val (.int p2), .val (.int p3), .val (.int p4), .val (.int p5), .val (.int (Int32.ofNat k)), .val (.ref b73), .val (.ref ba), .unset, .unset, .unset, .unset] [(.ref b137), (.ref b137), (.ref b135), (.ref b134), (.ref b134)])) rfl (by rw [hml]; rfl) (Steps.refl _) (a := b137) (argsL := []) (rest := [(.ref b137), (.ref b135), (.ref b134), (.ref b134)]) (lenOf pd_15 rfl) rfl (by show 2 * 0 + _ ≤ _; exact Nat.le_of_eq rfl) (hb hby at_143) (fun _ _ => ⟨rfl, e137, (by decide : 6 + 0 ≤ _), (by decide : 29 + 0 ≤ _)⟩)
    dsimp only [Pt.U, Pt.locs, Pt.cells, Pt.slots] at X138 l138 y138 z138 st138 hQ138
    subst l138 y138 z138
    obtain ⟨h138, e138⟩ : ∃ z, T138.heap = z := ⟨_, rfl⟩
    rw [e138] at hQ138
    obtain ⟨rfl, Nq138, Kq138, E_b137_q138⟩ := hQ138
    replace N0 := Fr.app N0 Nq138
    have Ss := (sfS S_b137 sf0)
    replace S_b73 := S_b73.keep Kq138 Ss C0.1
    replace S_ba := S_ba.keep Kq138 Ss C0.1
    replace S_b134 := S_b134.keep Kq138 Ss C0.1
    replace S_b135 := S_b135.keep Kq138 Ss C0.1
    replace S_b137 := S_b137.keep Kq138 Ss C0.1
    replace C0 := C0.trans (CHr.keep Kq138 Ss C0.1)
    replace hk0 := Nat.le_trans hk0 Kq138.1
    replace G_b135 := G_b135.keepE Kq138 E_b137 (by decide) (hw _ (List.mem_of_getElem? (i := 39) rfl))
    replace V_b73 := V_b73.keep Kq138 (ninS ne_b73_b137 nin0)
    replace V_ba := V_ba.keep Kq138 (ninS ne_ba_b137 nin0)
    replace E_b134 := E_b134.keep Kq138
    replace F_b134_type := F_b134_type.keep Kq138 (ninS ne_b134_b137 nin0)
    replace F_b134_values := F_b134_values.keep Kq138 (ninS ne_b134_b137 nin0)
    replace E_b135 := E_b135.keep Kq138
    clear E_b137
    clear F_b137_loadFactor
    replace O0 := O0.keep Kq138 (allS g_b137 all0)
    replace K0 := K0.trans Kq138 (allS (Or.inr sz_b137) all0)
    have E_b137 := E_b137_q138
    refine Goes.run (T' := T138) (g' := (mkF m 146 #[.val (.int p0), .val (.int p1), .val (.int p2), .val (.int p3), .val (.int p4), .val (.int p5), .val (.int (Int32.ofNat k)), .val (.ref b73), .val (.ref ba), .unset, .unset, .unset, .unset] [(.ref b137), (.ref b135), (.ref b134), (.ref b134)])) st138 ?_
    obtain ⟨_, _, ⟨T139, L139, k139, n139⟩, -, X139, ⟨Lc139, hQ139, l139, y139, z139⟩, st139⟩ := X138.specialBack hx (y := (⟨NAC, "<init>", "(Ljava/lang/String;Ljava/util/Map;)V"⟩ : MethodName)) rfl hown (mvT hZ (hw _ (List.mem_of_getElem? (i := 54) rfl))) (mvT hZ (hw _ (List.mem_of_getElem? (i := 55) rfl))) (mvT hZ (hw _ (List.mem_of_getElem? (i := 56) rfl))) (by decide) (backOf (W := 1) (rm_naInit l Z a0 hw [] b134 b135 b137 h138 n0 O0  E_b134 F_b134_type F_b134_values E_b137 g_b134 (by first | assumption | decide) (by first | assumption | decide)) hZ (hw _ (List.mem_of_getElem? (i := 56) rfl)) (hw _ (List.mem_of_getElem? (i := 8) rfl)) (by decide) (by decide)) (g := (mkF m 146 #[.val (.int p0), .val (.int p1), .val (.int p2), .val (.int p3), .val (.int p4), .val (.int p5), .val (.int (Int32.ofNat k)), .val (.ref b73), .val (.ref ba), .unset, .unset, .unset, .unset] [(.ref b137), (.ref b135), (.ref b134), (.ref b134)])) rfl (by rw [hml]; rfl) (Steps.refl _) (a := b134) (argsL := [(.ref b135), (.ref b137)]) (rest := [(.ref b134)]) (lenOf pd_20 rfl) rfl (by show 2 * 0 + _ ≤ _; exact Nat.le_of_eq rfl) (hb hby at_146) (fun _ _ => ⟨rfl, e138, (by decide : 6 + 1 ≤ _), (by decide : 29 + 4 ≤ _)⟩)
    dsimp only [Pt.U, Pt.locs, Pt.cells, Pt.slots] at X139 l139 y139 z139 st139 hQ139
    subst l139 y139 z139
    obtain ⟨h139, e139⟩ : ∃ z, T139.heap = z := ⟨_, rfl⟩
    rw [e139] at hQ139
    obtain ⟨rfl, Nq139, Kq139, E_b134_q139, F_b134_type_q139⟩ := hQ139
    replace N0 := Fr.app N0 Nq139
    have Ss := (sfS S_b134 sf0)
    replace S_b73 := S_b73.keep Kq139 Ss C0.1
    replace S_ba := S_ba.keep Kq139 Ss C0.1
    replace S_b134 := S_b134.keep Kq139 Ss C0.1
    replace S_b135 := S_b135.keep Kq139 Ss C0.1
    replace S_b137 := S_b137.keep Kq139 Ss C0.1
    replace C0 := C0.trans (CHr.keep Kq139 Ss C0.1)
    replace hk0 := Nat.le_trans hk0 Kq139.1
    replace G_b135 := G_b135.keepE Kq139 E_b134 (by decide) (hw _ (List.mem_of_getElem? (i := 7) rfl))
    replace V_b73 := V_b73.keep Kq139 (ninS ne_b73_b134 nin0)
    replace V_ba := V_ba.keep Kq139 (ninS ne_ba_b134 nin0)
    clear E_b134
    clear F_b134_type
    clear F_b134_values
    replace E_b135 := E_b135.keep Kq139
    replace E_b137 := E_b137.keep Kq139
    replace O0 := O0.keep Kq139 (allS g_b134 all0)
    replace K0 := K0.trans Kq139 (allS (Or.inr sz_b134) all0)
    have E_b134 := E_b134_q139
    have F_b134_type := F_b134_type_q139
    refine Goes.run (T' := T139) (g' := (mkF m 149 #[.val (.int p0), .val (.int p1), .val (.int p2), .val (.int p3), .val (.int p4), .val (.int p5), .val (.int (Int32.ofNat k)), .val (.ref b73), .val (.ref ba), .unset, .unset, .unset, .unset] [(.ref b134)])) st139 ?_
    refine Goes.step (T' := T139) (g' := (mkF m 151 #[.val (.int p0), .val (.int p1), .val (.int p2), .val (.int p3), .val (.int p4), .val (.int p5), .val (.int (Int32.ofNat k)), .val (.ref b73), .val (.ref ba), .val (.ref b134), .unset, .unset, .unset] [])) (fun _ kz => XS.astore X139.here hx rfl (hb hby at_149) rfl rfl (l' := #[.val (.int p0), .val (.int p1), .val (.int p2), .val (.int p3), .val (.int p4), .val (.int p5), .val (.int (Int32.ofNat k)), .val (.ref b73), .val (.ref ba), .val (.ref b134), .unset, .unset, .unset]) rfl kz) ?_
    refine Goes.step (T' := T139) (g' := (mkF m 153 #[.val (.int p0), .val (.int p1), .val (.int p2), .val (.int p3), .val (.int p4), .val (.int p5), .val (.int (Int32.ofNat k)), .val (.ref b73), .val (.ref ba), .val (.ref b134), .unset, .unset, .unset] [(.ref b134)])) (fun _ kz => XS.aload X139.here hx rfl (hb hby at_151) rfl rfl kz) ?_
    obtain ⟨cq140, kq140, qa140, qb140, qc140⟩ := isOf hZ e139 E_b134
    obtain ⟨_, _, ⟨T140, L140, k140, n140⟩, -, X140, hS140, hgr140, ⟨Lc140, hQ140, l140, y140, z140, Ch140⟩, st140⟩ := X139.virtualBackS hx (y := (⟨NAC, "simpleName", "()Ljava/lang/String;"⟩ : MethodName)) (z := (⟨NAC, "simpleName", "()Ljava/lang/String;"⟩ : MethodName)) hown (mvT hZ (hw _ (List.mem_of_getElem? (i := 86) rfl))) (mvT hZ (hw _ (List.mem_of_getElem? (i := 87) rfl))) (notFace_of_selects (args := #[]) (mvT hZ (hw _ (List.mem_of_getElem? (i := 89) rfl)))) (mvT hZ (hw _ (List.mem_of_getElem? (i := 89) rfl))) (mvT hZ (hw _ (List.mem_of_getElem? (i := 88) rfl))) (by decide) (backOfSH (W := 0) (rm_simple l Z a0 hw [] hEL b134 b135 (cs) h139 n0 O0 zcs Scs hz_Scs fmt Sfm hz_Sfm E_b134 F_b134_type E_b135 G_b135 (by omega)) hZ (hw _ (List.mem_of_getElem? (i := 90) rfl)) (hw _ (List.mem_of_getElem? (i := 8) rfl)) (by decide) (by decide) hEL C0.1) qa140 qc140 (g := (mkF m 153 #[.val (.int p0), .val (.int p1), .val (.int p2), .val (.int p3), .val (.int p4), .val (.int p5), .val (.int (Int32.ofNat k)), .val (.ref b73), .val (.ref ba), .val (.ref b134), .unset, .unset, .unset] [(.ref b134)])) rfl (by rw [hml]; rfl) (Steps.refl _) (argsL := []) (rest := []) (lenOf pd_21 rfl) rfl (by show 2 * 0 + _ ≤ _; exact Nat.le_of_eq rfl) (hb hby at_153) (fun _ _ => ⟨rfl, e139, (by decide : 7 + 4 ≤ _), (by decide : 33 + 18 ≤ _)⟩)
    dsimp only [Pt.U, Pt.locs, Pt.cells, Pt.slots] at X140 l140 y140 z140 st140 hQ140 hS140 hgr140 Ch140
    subst l140 y140 z140
    obtain ⟨h140, e140⟩ : ∃ z, T140.heap = z := ⟨_, rfl⟩
    rw [e140] at hQ140 Ch140
    obtain ⟨b_140, rfl, Nq140, Kq140, E_b_140_q140, G_b_140_q140⟩ := hQ140
    replace N0 := Fr.app N0 Nq140
    replace S_b73 := Ch140.safe V_b73.lt S_b73
    replace S_ba := Ch140.safe V_ba.lt S_ba
    replace S_b134 := Ch140.safe E_b134.lt S_b134
    replace S_b135 := Ch140.safe E_b135.lt S_b135
    replace S_b137 := Ch140.safe E_b137.lt S_b137
    replace C0 := C0.trans Ch140
    replace G_b135 := G_b135.ext (own_kext Kq140)
    replace V_b73 := V_b73.keep Kq140 nin0
    replace V_ba := V_ba.keep Kq140 nin0
    replace E_b135 := E_b135.keep Kq140
    replace E_b137 := E_b137.keep Kq140
    replace E_b134 := E_b134.keep Kq140
    replace F_b134_type := F_b134_type.keep Kq140 nin0
    replace O0 := O0.keep Kq140 all0
    replace K0 := K0.trans Kq140 all0
    have E_b_140 := E_b_140_q140
    have G_b_140 := G_b_140_q140
    obtain ⟨X140, hS140, hZ140, hown140⟩ := rebS hS0 (by rw [e139]; exact hk0) X140 hS140 hgr140 hZ hown
    rw [e140] at hS140
    clear hS0 hk0 hZ hown
    have hS0 := hS140
    have hk0 : h140.size ≤ h140.size := Nat.le_refl _
    have hZ := hZ140
    have hown := hown140
    refine Goes.run (T' := T140) (g' := (mkF m 156 #[.val (.int p0), .val (.int p1), .val (.int p2), .val (.int p3), .val (.int p4), .val (.int p5), .val (.int (Int32.ofNat k)), .val (.ref b73), .val (.ref ba), .val (.ref b134), .unset, .unset, .unset] [(.ref b_140)])) st140 ?_
    refine Goes.step (T' := T140) (g' := (mkF m 158 #[.val (.int p0), .val (.int p1), .val (.int p2), .val (.int p3), .val (.int p4), .val (.int p5), .val (.int (Int32.ofNat k)), .val (.ref b73), .val (.ref ba), .val (.ref b134), .val (.ref b_140), .unset, .unset] [])) (fun _ kz => XS.astore X140.here hx rfl (hb hby at_156) rfl rfl (l' := #[.val (.int p0), .val (.int p1), .val (.int p2), .val (.int p3), .val (.int p4), .val (.int p5), .val (.int (Int32.ofNat k)), .val (.ref b73), .val (.ref ba), .val (.ref b134), .val (.ref b_140), .unset, .unset]) rfl kz) ?_
    refine Goes.step (T' := T140) (g' := (mkF m 159 #[.val (.int p0), .val (.int p1), .val (.int p2), .val (.int p3), .val (.int p4), .val (.int p5), .val (.int (Int32.ofNat k)), .val (.ref b73), .val (.ref ba), .val (.ref b134), .val (.ref b_140), .unset, .unset] [(.int (-1 : Int32))])) (fun _ kz => XS.iconst X140.here hx rfl (hb hby at_158) kz) ?_
    refine Goes.step (T' := T140) (g' := (mkF m 161 #[.val (.int p0), .val (.int p1), .val (.int p2), .val (.int p3), .val (.int p4), .val (.int p5), .val (.int (Int32.ofNat k)), .val (.ref b73), .val (.ref ba), .val (.ref b134), .val (.ref b_140), .val (.int (-1 : Int32)), .unset] [])) (fun _ kz => XS.istore X140.here hx rfl (hb hby at_159) rfl (l' := #[.val (.int p0), .val (.int p1), .val (.int p2), .val (.int p3), .val (.int p4), .val (.int p5), .val (.int (Int32.ofNat k)), .val (.ref b73), .val (.ref ba), .val (.ref b134), .val (.ref b_140), .val (.int (-1 : Int32)), .unset]) rfl kz) ?_
    rw [show (-1 : Int32) = (Int32.ofNat 0 - (1 : Int32)) from by decide]
    have hj := IV0 cs
    suffices J1 : ∀ (j0 : Nat) (hj0 : IV cs 1 j0) (T141 : State) (locs141 : List Loc) (X141 : Stand p l e room_1 (s.setVm T140.vm) m #[(.int p0), (.int p1), (.int p2), (.int p3), (.int p4), (.int p5)] below meth c T141 locs141 11 51) (e141 : T141.heap = h140) (N0 : Fr n0 locs141), Goes p e below (fun o U' => ∃ v L, o = .returned v ∧ Q_law Z p0 p1 p2 p3 p4 p5 h0 n0 v U'.heap L ∧ CHr Z EL s.vm s.heap U'.vm U'.heap ∧ ReturnedEndW s o U' L 40 2240) T141 (mkF m 179 #[.val (.int p0), .val (.int p1), .val (.int p2), .val (.int p3), .val (.int p4), .val (.int p5), .val (.int (Int32.ofNat k)), .val (.ref b73), .val (.ref ba), .val (.ref b134), .val (.ref b_140), .val (.int ((Int32.ofNat j0) - (1 : Int32))), .unset] []) by
      refine Goes.step (T' := T140) (g' := (mkF m 163 #[.val (.int p0), .val (.int p1), .val (.int p2), .val (.int p3), .val (.int p4), .val (.int p5), .val (.int (Int32.ofNat k)), .val (.ref b73), .val (.ref ba), .val (.ref b134), .val (.ref b_140), .val (.int ((Int32.ofNat 0) - (1 : Int32))), .unset] [(.int (Int32.ofNat k))])) (fun _ kz => XS.iload X140.here hx rfl (hb hby at_161) rfl  kz) ?_
      by_cases hc163_142 : (0 : Int32) < (Int32.ofNat k)
      ·
        refine Goes.step (T' := T140) (g' := (mkF m 166 #[.val (.int p0), .val (.int p1), .val (.int p2), .val (.int p3), .val (.int p4), .val (.int p5), .val (.int (Int32.ofNat k)), .val (.ref b73), .val (.ref ba), .val (.ref b134), .val (.ref b_140), .val (.int ((Int32.ofNat 0) - (1 : Int32))), .unset] [])) (fun _ kz => XS.ifNo X140.here hx rfl (hb hby at_163) rfl ((if0 _ _).trans (tlt hc163_142).2.2.2) kz) ?_
        refine Goes.step (T' := T140) (g' := (mkF m 168 #[.val (.int p0), .val (.int p1), .val (.int p2), .val (.int p3), .val (.int p4), .val (.int p5), .val (.int (Int32.ofNat k)), .val (.ref b73), .val (.ref ba), .val (.ref b134), .val (.ref b_140), .val (.int ((Int32.ofNat 0) - (1 : Int32))), .unset] [(.ref b73)])) (fun _ kz => XS.aload X140.here hx rfl (hb hby at_166) rfl rfl kz) ?_
        refine Goes.step (T' := T140) (g' := (mkF m 169 #[.val (.int p0), .val (.int p1), .val (.int p2), .val (.int p3), .val (.int p4), .val (.int p5), .val (.int (Int32.ofNat k)), .val (.ref b73), .val (.ref ba), .val (.ref b134), .val (.ref b_140), .val (.int ((Int32.ofNat 0) - (1 : Int32))), .unset] [(.int (0 : Int32)), (.ref b73)])) (fun _ kz => XS.iconst X140.here hx rfl (hb hby at_168) kz) ?_
        obtain ⟨cl143, Ar143, q143, Sz143, Nn143, Hs143, Gs143⟩ := (id V_b73 : Arv Z h140 b73 kc73 .char (5 : Int32) [(.int z_74), (.int z_76), (.int z_78), (.int z_80), (.int z_82)] (.int (0 : Int32)))
        refine Goes.step (T' := T140) (g' := (mkF m 170 #[.val (.int p0), .val (.int p1), .val (.int p2), .val (.int p3), .val (.int p4), .val (.int p5), .val (.int (Int32.ofNat k)), .val (.ref b73), .val (.ref ba), .val (.ref b134), .val (.ref b_140), .val (.int ((Int32.ofNat 0) - (1 : Int32))), .unset] [(.int z_74)])) (X140.caload hx (j := (0 : Int32)) (v := (.int z_74)) (by rw [e140]; exact Ar143.1) (State.isArrayOf_alike hZ.alike Ar143.2.1) Ar143.2.2 (inb_of Sz143 ⟨by decide, by decide⟩) (Has.at Hs143 (inb_of Sz143 ⟨by decide, by decide⟩) rfl) (g := (mkF m 169 #[.val (.int p0), .val (.int p1), .val (.int p2), .val (.int p3), .val (.int p4), .val (.int p5), .val (.int (Int32.ofNat k)), .val (.ref b73), .val (.ref ba), .val (.ref b134), .val (.ref b_140), .val (.int ((Int32.ofNat 0) - (1 : Int32))), .unset] [(.int (0 : Int32)), (.ref b73)])) rfl rfl (hb hby at_169)) ?_
        obtain ⟨_, _, ⟨T144, L144, k144, n144⟩, -, X144, ⟨Lc144, hQ144, l144, y144, z144⟩, st144⟩ := Jvm.LawKit.callS X140 hx (y := (⟨"com/example/demarcation/demarcation/component/NamedAnnotationSimpleNamePinLaw", "sep", "(C)Z"⟩ : MethodName)) hown (mvT hZ (hw _ (List.mem_of_getElem? (i := 167) rfl))) (mvT hZ (hw _ (List.mem_of_getElem? (i := 168) rfl))) (mvT hZ (hw _ (List.mem_of_getElem? (i := 4) rfl))) (mvT hZ (hw _ (List.mem_of_getElem? (i := 169) rfl))) (by decide) (backOf (W := 0) (rm_sep l Z a0 hw [] z_74 h140 n0 O0  ) hZ (hw _ (List.mem_of_getElem? (i := 169) rfl)) (hw _ (List.mem_of_getElem? (i := 4) rfl)) (by decide) (by decide)) (g := (mkF m 170 #[.val (.int p0), .val (.int p1), .val (.int p2), .val (.int p3), .val (.int p4), .val (.int p5), .val (.int (Int32.ofNat k)), .val (.ref b73), .val (.ref ba), .val (.ref b134), .val (.ref b_140), .val (.int ((Int32.ofNat 0) - (1 : Int32))), .unset] [(.int z_74)])) rfl (by rw [hml]; rfl) (argsL := [(.int z_74)]) (rest := []) (lenOf pd_23 rfl) rfl (by show 2 * 0 + _ ≤ _; exact Nat.le_of_eq rfl) (hb hby at_170) (fun _ _ => ⟨rfl, e140, (by decide : 11 + 0 ≤ _), (by decide : 51 + 0 ≤ _)⟩)
        dsimp only [Pt.U, Pt.locs, Pt.cells, Pt.slots] at X144 l144 y144 z144 st144 hQ144
        subst l144 y144 z144
        obtain ⟨rfl, rfl, e144⟩ := hQ144
        replace N0 := Fr.app N0 (Fr.nil n0)
        refine Goes.step (T' := T144) (g' := (mkF m 173 #[.val (.int p0), .val (.int p1), .val (.int p2), .val (.int p3), .val (.int p4), .val (.int p5), .val (.int (Int32.ofNat k)), .val (.ref b73), .val (.ref ba), .val (.ref b134), .val (.ref b_140), .val (.int ((Int32.ofNat 0) - (1 : Int32))), .unset] [(.int (if z_74 = 46 ∨ z_74 = 36 then 1 else 0))])) st144 ?_
        by_cases hc173_145 : (if z_74 = 46 ∨ z_74 = 36 then 1 else 0) = (0 : Int32)
        ·
          refine Goes.step (T' := T144) (g' := (mkF m 179 #[.val (.int p0), .val (.int p1), .val (.int p2), .val (.int p3), .val (.int p4), .val (.int p5), .val (.int (Int32.ofNat k)), .val (.ref b73), .val (.ref ba), .val (.ref b134), .val (.ref b_140), .val (.int ((Int32.ofNat 0) - (1 : Int32))), .unset] [])) (fun _ kz => XS.ifYes X144.here hx rfl (pc0 := 173) (pc' := 179) rfl (hb hby at_173) rfl ((if0 _ _).trans (teq hc173_145).1) (by decide) (by decide) kz) ?_
          exact J1 (0) (IV_no (by rw [hcg 0 ((own_lt (a := 0) (by omega) (by omega)).mp hc163_142)]; exact own_if0 hc173_145) hj) _ _ X144 e144 N0
        ·
          refine Goes.step (T' := T144) (g' := (mkF m 176 #[.val (.int p0), .val (.int p1), .val (.int p2), .val (.int p3), .val (.int p4), .val (.int p5), .val (.int (Int32.ofNat k)), .val (.ref b73), .val (.ref ba), .val (.ref b134), .val (.ref b_140), .val (.int ((Int32.ofNat 0) - (1 : Int32))), .unset] [])) (fun _ kz => XS.ifNo X144.here hx rfl (hb hby at_173) rfl ((if0 _ _).trans (feq hc173_145).1) kz) ?_
          refine Goes.step (T' := T144) (g' := (mkF m 177 #[.val (.int p0), .val (.int p1), .val (.int p2), .val (.int p3), .val (.int p4), .val (.int p5), .val (.int (Int32.ofNat k)), .val (.ref b73), .val (.ref ba), .val (.ref b134), .val (.ref b_140), .val (.int ((Int32.ofNat 0) - (1 : Int32))), .unset] [(.int (0 : Int32))])) (fun _ kz => XS.iconst X144.here hx rfl (hb hby at_176) kz) ?_
          refine Goes.step (T' := T144) (g' := (mkF m 179 #[.val (.int p0), .val (.int p1), .val (.int p2), .val (.int p3), .val (.int p4), .val (.int p5), .val (.int (Int32.ofNat k)), .val (.ref b73), .val (.ref ba), .val (.ref b134), .val (.ref b_140), .val (.int (0 : Int32)), .unset] [])) (fun _ kz => XS.istore X144.here hx rfl (hb hby at_177) rfl (l' := #[.val (.int p0), .val (.int p1), .val (.int p2), .val (.int p3), .val (.int p4), .val (.int p5), .val (.int (Int32.ofNat k)), .val (.ref b73), .val (.ref ba), .val (.ref b134), .val (.ref b_140), .val (.int (0 : Int32)), .unset]) rfl kz) ?_
          have hJ := J1 (1) (IV_yes (by rw [hcl]; exact ((own_lt (a := 0) (by omega) (by omega)).mp hc163_142)) (by rw [hcg 0 ((own_lt (a := 0) (by omega) (by omega)).mp hc163_142)]; exact own_if1 hc173_145)) _ _ X144 e144 N0
          rw [show (Int32.ofNat 1 - (1 : Int32)) = (0 : Int32) from by decide] at hJ
          exact hJ
      ·
        refine Goes.step (T' := T140) (g' := (mkF m 179 #[.val (.int p0), .val (.int p1), .val (.int p2), .val (.int p3), .val (.int p4), .val (.int p5), .val (.int (Int32.ofNat k)), .val (.ref b73), .val (.ref ba), .val (.ref b134), .val (.ref b_140), .val (.int ((Int32.ofNat 0) - (1 : Int32))), .unset] [])) (fun _ kz => XS.ifYes X140.here hx rfl (pc0 := 163) (pc' := 179) rfl (hb hby at_163) rfl ((if0 _ _).trans (flt hc163_142).2.2.2) (by decide) (by decide) kz) ?_
        exact J1 (0) (IV_skip (by have := mt (own_lt (a := 0) (by omega) (by omega)).mpr hc163_142; omega) hj) _ _ X140 e140 N0
    clear N0
    intro j0 hj0 T141 locs141 X141 e141 N0
    clear hj
    have hj := hj0
    clear hj0
    suffices J2 : ∀ (j1 : Nat) (hj1 : IV cs 2 j1) (T146 : State) (locs146 : List Loc) (X146 : Stand p l e room_1 (s.setVm T140.vm) m #[(.int p0), (.int p1), (.int p2), (.int p3), (.int p4), (.int p5)] below meth c T146 locs146 11 51) (e146 : T146.heap = h140) (N0 : Fr n0 locs146), Goes p e below (fun o U' => ∃ v L, o = .returned v ∧ Q_law Z p0 p1 p2 p3 p4 p5 h0 n0 v U'.heap L ∧ CHr Z EL s.vm s.heap U'.vm U'.heap ∧ ReturnedEndW s o U' L 40 2240) T146 (mkF m 198 #[.val (.int p0), .val (.int p1), .val (.int p2), .val (.int p3), .val (.int p4), .val (.int p5), .val (.int (Int32.ofNat k)), .val (.ref b73), .val (.ref ba), .val (.ref b134), .val (.ref b_140), .val (.int ((Int32.ofNat j1) - (1 : Int32))), .unset] []) by
      refine Goes.step (T' := T141) (g' := (mkF m 181 #[.val (.int p0), .val (.int p1), .val (.int p2), .val (.int p3), .val (.int p4), .val (.int p5), .val (.int (Int32.ofNat k)), .val (.ref b73), .val (.ref ba), .val (.ref b134), .val (.ref b_140), .val (.int ((Int32.ofNat j0) - (1 : Int32))), .unset] [(.int (Int32.ofNat k))])) (fun _ kz => XS.iload X141.here hx rfl (hb hby at_179) rfl  kz) ?_
      refine Goes.step (T' := T141) (g' := (mkF m 182 #[.val (.int p0), .val (.int p1), .val (.int p2), .val (.int p3), .val (.int p4), .val (.int p5), .val (.int (Int32.ofNat k)), .val (.ref b73), .val (.ref ba), .val (.ref b134), .val (.ref b_140), .val (.int ((Int32.ofNat j0) - (1 : Int32))), .unset] [(.int (1 : Int32)), (.int (Int32.ofNat k))])) (fun _ kz => XS.iconst X141.here hx rfl (hb hby at_181) kz) ?_
      by_cases hc182_147 : (1 : Int32) < (Int32.ofNat k)
      ·
        refine Goes.step (T' := T141) (g' := (mkF m 185 #[.val (.int p0), .val (.int p1), .val (.int p2), .val (.int p3), .val (.int p4), .val (.int p5), .val (.int (Int32.ofNat k)), .val (.ref b73), .val (.ref ba), .val (.ref b134), .val (.ref b_140), .val (.int ((Int32.ofNat j0) - (1 : Int32))), .unset] [])) (fun _ kz => XS.icmpNo X141.here hx rfl (hb hby at_182) rfl (tlt hc182_147).2.2.2 kz) ?_
        refine Goes.step (T' := T141) (g' := (mkF m 187 #[.val (.int p0), .val (.int p1), .val (.int p2), .val (.int p3), .val (.int p4), .val (.int p5), .val (.int (Int32.ofNat k)), .val (.ref b73), .val (.ref ba), .val (.ref b134), .val (.ref b_140), .val (.int ((Int32.ofNat j0) - (1 : Int32))), .unset] [(.ref b73)])) (fun _ kz => XS.aload X141.here hx rfl (hb hby at_185) rfl rfl kz) ?_
        refine Goes.step (T' := T141) (g' := (mkF m 188 #[.val (.int p0), .val (.int p1), .val (.int p2), .val (.int p3), .val (.int p4), .val (.int p5), .val (.int (Int32.ofNat k)), .val (.ref b73), .val (.ref ba), .val (.ref b134), .val (.ref b_140), .val (.int ((Int32.ofNat j0) - (1 : Int32))), .unset] [(.int (1 : Int32)), (.ref b73)])) (fun _ kz => XS.iconst X141.here hx rfl (hb hby at_187) kz) ?_
        obtain ⟨cl148, Ar148, q148, Sz148, Nn148, Hs148, Gs148⟩ := (id V_b73 : Arv Z h140 b73 kc73 .char (5 : Int32) [(.int z_74), (.int z_76), (.int z_78), (.int z_80), (.int z_82)] (.int (0 : Int32)))
        refine Goes.step (T' := T141) (g' := (mkF m 189 #[.val (.int p0), .val (.int p1), .val (.int p2), .val (.int p3), .val (.int p4), .val (.int p5), .val (.int (Int32.ofNat k)), .val (.ref b73), .val (.ref ba), .val (.ref b134), .val (.ref b_140), .val (.int ((Int32.ofNat j0) - (1 : Int32))), .unset] [(.int z_76)])) (X141.caload hx (j := (1 : Int32)) (v := (.int z_76)) (by rw [e141]; exact Ar148.1) (State.isArrayOf_alike hZ.alike Ar148.2.1) Ar148.2.2 (inb_of Sz148 ⟨by decide, by decide⟩) (Has.at Hs148 (inb_of Sz148 ⟨by decide, by decide⟩) rfl) (g := (mkF m 188 #[.val (.int p0), .val (.int p1), .val (.int p2), .val (.int p3), .val (.int p4), .val (.int p5), .val (.int (Int32.ofNat k)), .val (.ref b73), .val (.ref ba), .val (.ref b134), .val (.ref b_140), .val (.int ((Int32.ofNat j0) - (1 : Int32))), .unset] [(.int (1 : Int32)), (.ref b73)])) rfl rfl (hb hby at_188)) ?_
        obtain ⟨_, _, ⟨T149, L149, k149, n149⟩, -, X149, ⟨Lc149, hQ149, l149, y149, z149⟩, st149⟩ := Jvm.LawKit.callS X141 hx (y := (⟨"com/example/demarcation/demarcation/component/NamedAnnotationSimpleNamePinLaw", "sep", "(C)Z"⟩ : MethodName)) hown (mvT hZ (hw _ (List.mem_of_getElem? (i := 167) rfl))) (mvT hZ (hw _ (List.mem_of_getElem? (i := 168) rfl))) (mvT hZ (hw _ (List.mem_of_getElem? (i := 4) rfl))) (mvT hZ (hw _ (List.mem_of_getElem? (i := 169) rfl))) (by decide) (backOf (W := 0) (rm_sep l Z a0 hw [] z_76 h140 n0 O0  ) hZ (hw _ (List.mem_of_getElem? (i := 169) rfl)) (hw _ (List.mem_of_getElem? (i := 4) rfl)) (by decide) (by decide)) (g := (mkF m 189 #[.val (.int p0), .val (.int p1), .val (.int p2), .val (.int p3), .val (.int p4), .val (.int p5), .val (.int (Int32.ofNat k)), .val (.ref b73), .val (.ref ba), .val (.ref b134), .val (.ref b_140), .val (.int ((Int32.ofNat j0) - (1 : Int32))), .unset] [(.int z_76)])) rfl (by rw [hml]; rfl) (argsL := [(.int z_76)]) (rest := []) (lenOf pd_23 rfl) rfl (by show 2 * 0 + _ ≤ _; exact Nat.le_of_eq rfl) (hb hby at_189) (fun _ _ => ⟨rfl, e141, (by decide : 11 + 0 ≤ _), (by decide : 51 + 0 ≤ _)⟩)
        dsimp only [Pt.U, Pt.locs, Pt.cells, Pt.slots] at X149 l149 y149 z149 st149 hQ149
        subst l149 y149 z149
        obtain ⟨rfl, rfl, e149⟩ := hQ149
        replace N0 := Fr.app N0 (Fr.nil n0)
        refine Goes.step (T' := T149) (g' := (mkF m 192 #[.val (.int p0), .val (.int p1), .val (.int p2), .val (.int p3), .val (.int p4), .val (.int p5), .val (.int (Int32.ofNat k)), .val (.ref b73), .val (.ref ba), .val (.ref b134), .val (.ref b_140), .val (.int ((Int32.ofNat j0) - (1 : Int32))), .unset] [(.int (if z_76 = 46 ∨ z_76 = 36 then 1 else 0))])) st149 ?_
        by_cases hc192_150 : (if z_76 = 46 ∨ z_76 = 36 then 1 else 0) = (0 : Int32)
        ·
          refine Goes.step (T' := T149) (g' := (mkF m 198 #[.val (.int p0), .val (.int p1), .val (.int p2), .val (.int p3), .val (.int p4), .val (.int p5), .val (.int (Int32.ofNat k)), .val (.ref b73), .val (.ref ba), .val (.ref b134), .val (.ref b_140), .val (.int ((Int32.ofNat j0) - (1 : Int32))), .unset] [])) (fun _ kz => XS.ifYes X149.here hx rfl (pc0 := 192) (pc' := 198) rfl (hb hby at_192) rfl ((if0 _ _).trans (teq hc192_150).1) (by decide) (by decide) kz) ?_
          exact J2 (j0) (IV_no (by rw [hcg 1 ((own_lt (a := 1) (by omega) (by omega)).mp hc182_147)]; exact own_if0 hc192_150) hj) _ _ X149 e149 N0
        ·
          refine Goes.step (T' := T149) (g' := (mkF m 195 #[.val (.int p0), .val (.int p1), .val (.int p2), .val (.int p3), .val (.int p4), .val (.int p5), .val (.int (Int32.ofNat k)), .val (.ref b73), .val (.ref ba), .val (.ref b134), .val (.ref b_140), .val (.int ((Int32.ofNat j0) - (1 : Int32))), .unset] [])) (fun _ kz => XS.ifNo X149.here hx rfl (hb hby at_192) rfl ((if0 _ _).trans (feq hc192_150).1) kz) ?_
          refine Goes.step (T' := T149) (g' := (mkF m 196 #[.val (.int p0), .val (.int p1), .val (.int p2), .val (.int p3), .val (.int p4), .val (.int p5), .val (.int (Int32.ofNat k)), .val (.ref b73), .val (.ref ba), .val (.ref b134), .val (.ref b_140), .val (.int ((Int32.ofNat j0) - (1 : Int32))), .unset] [(.int (1 : Int32))])) (fun _ kz => XS.iconst X149.here hx rfl (hb hby at_195) kz) ?_
          refine Goes.step (T' := T149) (g' := (mkF m 198 #[.val (.int p0), .val (.int p1), .val (.int p2), .val (.int p3), .val (.int p4), .val (.int p5), .val (.int (Int32.ofNat k)), .val (.ref b73), .val (.ref ba), .val (.ref b134), .val (.ref b_140), .val (.int (1 : Int32)), .unset] [])) (fun _ kz => XS.istore X149.here hx rfl (hb hby at_196) rfl (l' := #[.val (.int p0), .val (.int p1), .val (.int p2), .val (.int p3), .val (.int p4), .val (.int p5), .val (.int (Int32.ofNat k)), .val (.ref b73), .val (.ref ba), .val (.ref b134), .val (.ref b_140), .val (.int (1 : Int32)), .unset]) rfl kz) ?_
          have hJ := J2 (2) (IV_yes (by rw [hcl]; exact ((own_lt (a := 1) (by omega) (by omega)).mp hc182_147)) (by rw [hcg 1 ((own_lt (a := 1) (by omega) (by omega)).mp hc182_147)]; exact own_if1 hc192_150)) _ _ X149 e149 N0
          rw [show (Int32.ofNat 2 - (1 : Int32)) = (1 : Int32) from by decide] at hJ
          exact hJ
      ·
        refine Goes.step (T' := T141) (g' := (mkF m 198 #[.val (.int p0), .val (.int p1), .val (.int p2), .val (.int p3), .val (.int p4), .val (.int p5), .val (.int (Int32.ofNat k)), .val (.ref b73), .val (.ref ba), .val (.ref b134), .val (.ref b_140), .val (.int ((Int32.ofNat j0) - (1 : Int32))), .unset] [])) (fun _ kz => XS.icmpYes X141.here hx rfl (pc0 := 182) (pc' := 198) rfl (hb hby at_182) rfl (flt hc182_147).2.2.2 (by decide) (by decide) kz) ?_
        exact J2 (j0) (IV_skip (by have := mt (own_lt (a := 1) (by omega) (by omega)).mpr hc182_147; omega) hj) _ _ X141 e141 N0
    clear N0
    intro j1 hj1 T146 locs146 X146 e146 N0
    clear hj
    have hj := hj1
    clear hj1
    suffices J3 : ∀ (j2 : Nat) (hj2 : IV cs 3 j2) (T151 : State) (locs151 : List Loc) (X151 : Stand p l e room_1 (s.setVm T140.vm) m #[(.int p0), (.int p1), (.int p2), (.int p3), (.int p4), (.int p5)] below meth c T151 locs151 11 51) (e151 : T151.heap = h140) (N0 : Fr n0 locs151), Goes p e below (fun o U' => ∃ v L, o = .returned v ∧ Q_law Z p0 p1 p2 p3 p4 p5 h0 n0 v U'.heap L ∧ CHr Z EL s.vm s.heap U'.vm U'.heap ∧ ReturnedEndW s o U' L 40 2240) T151 (mkF m 217 #[.val (.int p0), .val (.int p1), .val (.int p2), .val (.int p3), .val (.int p4), .val (.int p5), .val (.int (Int32.ofNat k)), .val (.ref b73), .val (.ref ba), .val (.ref b134), .val (.ref b_140), .val (.int ((Int32.ofNat j2) - (1 : Int32))), .unset] []) by
      refine Goes.step (T' := T146) (g' := (mkF m 200 #[.val (.int p0), .val (.int p1), .val (.int p2), .val (.int p3), .val (.int p4), .val (.int p5), .val (.int (Int32.ofNat k)), .val (.ref b73), .val (.ref ba), .val (.ref b134), .val (.ref b_140), .val (.int ((Int32.ofNat j1) - (1 : Int32))), .unset] [(.int (Int32.ofNat k))])) (fun _ kz => XS.iload X146.here hx rfl (hb hby at_198) rfl  kz) ?_
      refine Goes.step (T' := T146) (g' := (mkF m 201 #[.val (.int p0), .val (.int p1), .val (.int p2), .val (.int p3), .val (.int p4), .val (.int p5), .val (.int (Int32.ofNat k)), .val (.ref b73), .val (.ref ba), .val (.ref b134), .val (.ref b_140), .val (.int ((Int32.ofNat j1) - (1 : Int32))), .unset] [(.int (2 : Int32)), (.int (Int32.ofNat k))])) (fun _ kz => XS.iconst X146.here hx rfl (hb hby at_200) kz) ?_
      by_cases hc201_152 : (2 : Int32) < (Int32.ofNat k)
      ·
        refine Goes.step (T' := T146) (g' := (mkF m 204 #[.val (.int p0), .val (.int p1), .val (.int p2), .val (.int p3), .val (.int p4), .val (.int p5), .val (.int (Int32.ofNat k)), .val (.ref b73), .val (.ref ba), .val (.ref b134), .val (.ref b_140), .val (.int ((Int32.ofNat j1) - (1 : Int32))), .unset] [])) (fun _ kz => XS.icmpNo X146.here hx rfl (hb hby at_201) rfl (tlt hc201_152).2.2.2 kz) ?_
        refine Goes.step (T' := T146) (g' := (mkF m 206 #[.val (.int p0), .val (.int p1), .val (.int p2), .val (.int p3), .val (.int p4), .val (.int p5), .val (.int (Int32.ofNat k)), .val (.ref b73), .val (.ref ba), .val (.ref b134), .val (.ref b_140), .val (.int ((Int32.ofNat j1) - (1 : Int32))), .unset] [(.ref b73)])) (fun _ kz => XS.aload X146.here hx rfl (hb hby at_204) rfl rfl kz) ?_
        refine Goes.step (T' := T146) (g' := (mkF m 207 #[.val (.int p0), .val (.int p1), .val (.int p2), .val (.int p3), .val (.int p4), .val (.int p5), .val (.int (Int32.ofNat k)), .val (.ref b73), .val (.ref ba), .val (.ref b134), .val (.ref b_140), .val (.int ((Int32.ofNat j1) - (1 : Int32))), .unset] [(.int (2 : Int32)), (.ref b73)])) (fun _ kz => XS.iconst X146.here hx rfl (hb hby at_206) kz) ?_
        obtain ⟨cl153, Ar153, q153, Sz153, Nn153, Hs153, Gs153⟩ := (id V_b73 : Arv Z h140 b73 kc73 .char (5 : Int32) [(.int z_74), (.int z_76), (.int z_78), (.int z_80), (.int z_82)] (.int (0 : Int32)))
        refine Goes.step (T' := T146) (g' := (mkF m 208 #[.val (.int p0), .val (.int p1), .val (.int p2), .val (.int p3), .val (.int p4), .val (.int p5), .val (.int (Int32.ofNat k)), .val (.ref b73), .val (.ref ba), .val (.ref b134), .val (.ref b_140), .val (.int ((Int32.ofNat j1) - (1 : Int32))), .unset] [(.int z_78)])) (X146.caload hx (j := (2 : Int32)) (v := (.int z_78)) (by rw [e146]; exact Ar153.1) (State.isArrayOf_alike hZ.alike Ar153.2.1) Ar153.2.2 (inb_of Sz153 ⟨by decide, by decide⟩) (Has.at Hs153 (inb_of Sz153 ⟨by decide, by decide⟩) rfl) (g := (mkF m 207 #[.val (.int p0), .val (.int p1), .val (.int p2), .val (.int p3), .val (.int p4), .val (.int p5), .val (.int (Int32.ofNat k)), .val (.ref b73), .val (.ref ba), .val (.ref b134), .val (.ref b_140), .val (.int ((Int32.ofNat j1) - (1 : Int32))), .unset] [(.int (2 : Int32)), (.ref b73)])) rfl rfl (hb hby at_207)) ?_
        obtain ⟨_, _, ⟨T154, L154, k154, n154⟩, -, X154, ⟨Lc154, hQ154, l154, y154, z154⟩, st154⟩ := Jvm.LawKit.callS X146 hx (y := (⟨"com/example/demarcation/demarcation/component/NamedAnnotationSimpleNamePinLaw", "sep", "(C)Z"⟩ : MethodName)) hown (mvT hZ (hw _ (List.mem_of_getElem? (i := 167) rfl))) (mvT hZ (hw _ (List.mem_of_getElem? (i := 168) rfl))) (mvT hZ (hw _ (List.mem_of_getElem? (i := 4) rfl))) (mvT hZ (hw _ (List.mem_of_getElem? (i := 169) rfl))) (by decide) (backOf (W := 0) (rm_sep l Z a0 hw [] z_78 h140 n0 O0  ) hZ (hw _ (List.mem_of_getElem? (i := 169) rfl)) (hw _ (List.mem_of_getElem? (i := 4) rfl)) (by decide) (by decide)) (g := (mkF m 208 #[.val (.int p0), .val (.int p1), .val (.int p2), .val (.int p3), .val (.int p4), .val (.int p5), .val (.int (Int32.ofNat k)), .val (.ref b73), .val (.ref ba), .val (.ref b134), .val (.ref b_140), .val (.int ((Int32.ofNat j1) - (1 : Int32))), .unset] [(.int z_78)])) rfl (by rw [hml]; rfl) (argsL := [(.int z_78)]) (rest := []) (lenOf pd_23 rfl) rfl (by show 2 * 0 + _ ≤ _; exact Nat.le_of_eq rfl) (hb hby at_208) (fun _ _ => ⟨rfl, e146, (by decide : 11 + 0 ≤ _), (by decide : 51 + 0 ≤ _)⟩)
        dsimp only [Pt.U, Pt.locs, Pt.cells, Pt.slots] at X154 l154 y154 z154 st154 hQ154
        subst l154 y154 z154
        obtain ⟨rfl, rfl, e154⟩ := hQ154
        replace N0 := Fr.app N0 (Fr.nil n0)
        refine Goes.step (T' := T154) (g' := (mkF m 211 #[.val (.int p0), .val (.int p1), .val (.int p2), .val (.int p3), .val (.int p4), .val (.int p5), .val (.int (Int32.ofNat k)), .val (.ref b73), .val (.ref ba), .val (.ref b134), .val (.ref b_140), .val (.int ((Int32.ofNat j1) - (1 : Int32))), .unset] [(.int (if z_78 = 46 ∨ z_78 = 36 then 1 else 0))])) st154 ?_
        by_cases hc211_155 : (if z_78 = 46 ∨ z_78 = 36 then 1 else 0) = (0 : Int32)
        ·
          refine Goes.step (T' := T154) (g' := (mkF m 217 #[.val (.int p0), .val (.int p1), .val (.int p2), .val (.int p3), .val (.int p4), .val (.int p5), .val (.int (Int32.ofNat k)), .val (.ref b73), .val (.ref ba), .val (.ref b134), .val (.ref b_140), .val (.int ((Int32.ofNat j1) - (1 : Int32))), .unset] [])) (fun _ kz => XS.ifYes X154.here hx rfl (pc0 := 211) (pc' := 217) rfl (hb hby at_211) rfl ((if0 _ _).trans (teq hc211_155).1) (by decide) (by decide) kz) ?_
          exact J3 (j1) (IV_no (by rw [hcg 2 ((own_lt (a := 2) (by omega) (by omega)).mp hc201_152)]; exact own_if0 hc211_155) hj) _ _ X154 e154 N0
        ·
          refine Goes.step (T' := T154) (g' := (mkF m 214 #[.val (.int p0), .val (.int p1), .val (.int p2), .val (.int p3), .val (.int p4), .val (.int p5), .val (.int (Int32.ofNat k)), .val (.ref b73), .val (.ref ba), .val (.ref b134), .val (.ref b_140), .val (.int ((Int32.ofNat j1) - (1 : Int32))), .unset] [])) (fun _ kz => XS.ifNo X154.here hx rfl (hb hby at_211) rfl ((if0 _ _).trans (feq hc211_155).1) kz) ?_
          refine Goes.step (T' := T154) (g' := (mkF m 215 #[.val (.int p0), .val (.int p1), .val (.int p2), .val (.int p3), .val (.int p4), .val (.int p5), .val (.int (Int32.ofNat k)), .val (.ref b73), .val (.ref ba), .val (.ref b134), .val (.ref b_140), .val (.int ((Int32.ofNat j1) - (1 : Int32))), .unset] [(.int (2 : Int32))])) (fun _ kz => XS.iconst X154.here hx rfl (hb hby at_214) kz) ?_
          refine Goes.step (T' := T154) (g' := (mkF m 217 #[.val (.int p0), .val (.int p1), .val (.int p2), .val (.int p3), .val (.int p4), .val (.int p5), .val (.int (Int32.ofNat k)), .val (.ref b73), .val (.ref ba), .val (.ref b134), .val (.ref b_140), .val (.int (2 : Int32)), .unset] [])) (fun _ kz => XS.istore X154.here hx rfl (hb hby at_215) rfl (l' := #[.val (.int p0), .val (.int p1), .val (.int p2), .val (.int p3), .val (.int p4), .val (.int p5), .val (.int (Int32.ofNat k)), .val (.ref b73), .val (.ref ba), .val (.ref b134), .val (.ref b_140), .val (.int (2 : Int32)), .unset]) rfl kz) ?_
          have hJ := J3 (3) (IV_yes (by rw [hcl]; exact ((own_lt (a := 2) (by omega) (by omega)).mp hc201_152)) (by rw [hcg 2 ((own_lt (a := 2) (by omega) (by omega)).mp hc201_152)]; exact own_if1 hc211_155)) _ _ X154 e154 N0
          rw [show (Int32.ofNat 3 - (1 : Int32)) = (2 : Int32) from by decide] at hJ
          exact hJ
      ·
        refine Goes.step (T' := T146) (g' := (mkF m 217 #[.val (.int p0), .val (.int p1), .val (.int p2), .val (.int p3), .val (.int p4), .val (.int p5), .val (.int (Int32.ofNat k)), .val (.ref b73), .val (.ref ba), .val (.ref b134), .val (.ref b_140), .val (.int ((Int32.ofNat j1) - (1 : Int32))), .unset] [])) (fun _ kz => XS.icmpYes X146.here hx rfl (pc0 := 201) (pc' := 217) rfl (hb hby at_201) rfl (flt hc201_152).2.2.2 (by decide) (by decide) kz) ?_
        exact J3 (j1) (IV_skip (by have := mt (own_lt (a := 2) (by omega) (by omega)).mpr hc201_152; omega) hj) _ _ X146 e146 N0
    clear N0
    intro j2 hj2 T151 locs151 X151 e151 N0
    clear hj
    have hj := hj2
    clear hj2
    suffices J4 : ∀ (j3 : Nat) (hj3 : IV cs 4 j3) (T156 : State) (locs156 : List Loc) (X156 : Stand p l e room_1 (s.setVm T140.vm) m #[(.int p0), (.int p1), (.int p2), (.int p3), (.int p4), (.int p5)] below meth c T156 locs156 11 51) (e156 : T156.heap = h140) (N0 : Fr n0 locs156), Goes p e below (fun o U' => ∃ v L, o = .returned v ∧ Q_law Z p0 p1 p2 p3 p4 p5 h0 n0 v U'.heap L ∧ CHr Z EL s.vm s.heap U'.vm U'.heap ∧ ReturnedEndW s o U' L 40 2240) T156 (mkF m 236 #[.val (.int p0), .val (.int p1), .val (.int p2), .val (.int p3), .val (.int p4), .val (.int p5), .val (.int (Int32.ofNat k)), .val (.ref b73), .val (.ref ba), .val (.ref b134), .val (.ref b_140), .val (.int ((Int32.ofNat j3) - (1 : Int32))), .unset] []) by
      refine Goes.step (T' := T151) (g' := (mkF m 219 #[.val (.int p0), .val (.int p1), .val (.int p2), .val (.int p3), .val (.int p4), .val (.int p5), .val (.int (Int32.ofNat k)), .val (.ref b73), .val (.ref ba), .val (.ref b134), .val (.ref b_140), .val (.int ((Int32.ofNat j2) - (1 : Int32))), .unset] [(.int (Int32.ofNat k))])) (fun _ kz => XS.iload X151.here hx rfl (hb hby at_217) rfl  kz) ?_
      refine Goes.step (T' := T151) (g' := (mkF m 220 #[.val (.int p0), .val (.int p1), .val (.int p2), .val (.int p3), .val (.int p4), .val (.int p5), .val (.int (Int32.ofNat k)), .val (.ref b73), .val (.ref ba), .val (.ref b134), .val (.ref b_140), .val (.int ((Int32.ofNat j2) - (1 : Int32))), .unset] [(.int (3 : Int32)), (.int (Int32.ofNat k))])) (fun _ kz => XS.iconst X151.here hx rfl (hb hby at_219) kz) ?_
      by_cases hc220_157 : (3 : Int32) < (Int32.ofNat k)
      ·
        refine Goes.step (T' := T151) (g' := (mkF m 223 #[.val (.int p0), .val (.int p1), .val (.int p2), .val (.int p3), .val (.int p4), .val (.int p5), .val (.int (Int32.ofNat k)), .val (.ref b73), .val (.ref ba), .val (.ref b134), .val (.ref b_140), .val (.int ((Int32.ofNat j2) - (1 : Int32))), .unset] [])) (fun _ kz => XS.icmpNo X151.here hx rfl (hb hby at_220) rfl (tlt hc220_157).2.2.2 kz) ?_
        refine Goes.step (T' := T151) (g' := (mkF m 225 #[.val (.int p0), .val (.int p1), .val (.int p2), .val (.int p3), .val (.int p4), .val (.int p5), .val (.int (Int32.ofNat k)), .val (.ref b73), .val (.ref ba), .val (.ref b134), .val (.ref b_140), .val (.int ((Int32.ofNat j2) - (1 : Int32))), .unset] [(.ref b73)])) (fun _ kz => XS.aload X151.here hx rfl (hb hby at_223) rfl rfl kz) ?_
        refine Goes.step (T' := T151) (g' := (mkF m 226 #[.val (.int p0), .val (.int p1), .val (.int p2), .val (.int p3), .val (.int p4), .val (.int p5), .val (.int (Int32.ofNat k)), .val (.ref b73), .val (.ref ba), .val (.ref b134), .val (.ref b_140), .val (.int ((Int32.ofNat j2) - (1 : Int32))), .unset] [(.int (3 : Int32)), (.ref b73)])) (fun _ kz => XS.iconst X151.here hx rfl (hb hby at_225) kz) ?_
        obtain ⟨cl158, Ar158, q158, Sz158, Nn158, Hs158, Gs158⟩ := (id V_b73 : Arv Z h140 b73 kc73 .char (5 : Int32) [(.int z_74), (.int z_76), (.int z_78), (.int z_80), (.int z_82)] (.int (0 : Int32)))
        refine Goes.step (T' := T151) (g' := (mkF m 227 #[.val (.int p0), .val (.int p1), .val (.int p2), .val (.int p3), .val (.int p4), .val (.int p5), .val (.int (Int32.ofNat k)), .val (.ref b73), .val (.ref ba), .val (.ref b134), .val (.ref b_140), .val (.int ((Int32.ofNat j2) - (1 : Int32))), .unset] [(.int z_80)])) (X151.caload hx (j := (3 : Int32)) (v := (.int z_80)) (by rw [e151]; exact Ar158.1) (State.isArrayOf_alike hZ.alike Ar158.2.1) Ar158.2.2 (inb_of Sz158 ⟨by decide, by decide⟩) (Has.at Hs158 (inb_of Sz158 ⟨by decide, by decide⟩) rfl) (g := (mkF m 226 #[.val (.int p0), .val (.int p1), .val (.int p2), .val (.int p3), .val (.int p4), .val (.int p5), .val (.int (Int32.ofNat k)), .val (.ref b73), .val (.ref ba), .val (.ref b134), .val (.ref b_140), .val (.int ((Int32.ofNat j2) - (1 : Int32))), .unset] [(.int (3 : Int32)), (.ref b73)])) rfl rfl (hb hby at_226)) ?_
        obtain ⟨_, _, ⟨T159, L159, k159, n159⟩, -, X159, ⟨Lc159, hQ159, l159, y159, z159⟩, st159⟩ := Jvm.LawKit.callS X151 hx (y := (⟨"com/example/demarcation/demarcation/component/NamedAnnotationSimpleNamePinLaw", "sep", "(C)Z"⟩ : MethodName)) hown (mvT hZ (hw _ (List.mem_of_getElem? (i := 167) rfl))) (mvT hZ (hw _ (List.mem_of_getElem? (i := 168) rfl))) (mvT hZ (hw _ (List.mem_of_getElem? (i := 4) rfl))) (mvT hZ (hw _ (List.mem_of_getElem? (i := 169) rfl))) (by decide) (backOf (W := 0) (rm_sep l Z a0 hw [] z_80 h140 n0 O0  ) hZ (hw _ (List.mem_of_getElem? (i := 169) rfl)) (hw _ (List.mem_of_getElem? (i := 4) rfl)) (by decide) (by decide)) (g := (mkF m 227 #[.val (.int p0), .val (.int p1), .val (.int p2), .val (.int p3), .val (.int p4), .val (.int p5), .val (.int (Int32.ofNat k)), .val (.ref b73), .val (.ref ba), .val (.ref b134), .val (.ref b_140), .val (.int ((Int32.ofNat j2) - (1 : Int32))), .unset] [(.int z_80)])) rfl (by rw [hml]; rfl) (argsL := [(.int z_80)]) (rest := []) (lenOf pd_23 rfl) rfl (by show 2 * 0 + _ ≤ _; exact Nat.le_of_eq rfl) (hb hby at_227) (fun _ _ => ⟨rfl, e151, (by decide : 11 + 0 ≤ _), (by decide : 51 + 0 ≤ _)⟩)
        dsimp only [Pt.U, Pt.locs, Pt.cells, Pt.slots] at X159 l159 y159 z159 st159 hQ159
        subst l159 y159 z159
        obtain ⟨rfl, rfl, e159⟩ := hQ159
        replace N0 := Fr.app N0 (Fr.nil n0)
        refine Goes.step (T' := T159) (g' := (mkF m 230 #[.val (.int p0), .val (.int p1), .val (.int p2), .val (.int p3), .val (.int p4), .val (.int p5), .val (.int (Int32.ofNat k)), .val (.ref b73), .val (.ref ba), .val (.ref b134), .val (.ref b_140), .val (.int ((Int32.ofNat j2) - (1 : Int32))), .unset] [(.int (if z_80 = 46 ∨ z_80 = 36 then 1 else 0))])) st159 ?_
        by_cases hc230_160 : (if z_80 = 46 ∨ z_80 = 36 then 1 else 0) = (0 : Int32)
        ·
          refine Goes.step (T' := T159) (g' := (mkF m 236 #[.val (.int p0), .val (.int p1), .val (.int p2), .val (.int p3), .val (.int p4), .val (.int p5), .val (.int (Int32.ofNat k)), .val (.ref b73), .val (.ref ba), .val (.ref b134), .val (.ref b_140), .val (.int ((Int32.ofNat j2) - (1 : Int32))), .unset] [])) (fun _ kz => XS.ifYes X159.here hx rfl (pc0 := 230) (pc' := 236) rfl (hb hby at_230) rfl ((if0 _ _).trans (teq hc230_160).1) (by decide) (by decide) kz) ?_
          exact J4 (j2) (IV_no (by rw [hcg 3 ((own_lt (a := 3) (by omega) (by omega)).mp hc220_157)]; exact own_if0 hc230_160) hj) _ _ X159 e159 N0
        ·
          refine Goes.step (T' := T159) (g' := (mkF m 233 #[.val (.int p0), .val (.int p1), .val (.int p2), .val (.int p3), .val (.int p4), .val (.int p5), .val (.int (Int32.ofNat k)), .val (.ref b73), .val (.ref ba), .val (.ref b134), .val (.ref b_140), .val (.int ((Int32.ofNat j2) - (1 : Int32))), .unset] [])) (fun _ kz => XS.ifNo X159.here hx rfl (hb hby at_230) rfl ((if0 _ _).trans (feq hc230_160).1) kz) ?_
          refine Goes.step (T' := T159) (g' := (mkF m 234 #[.val (.int p0), .val (.int p1), .val (.int p2), .val (.int p3), .val (.int p4), .val (.int p5), .val (.int (Int32.ofNat k)), .val (.ref b73), .val (.ref ba), .val (.ref b134), .val (.ref b_140), .val (.int ((Int32.ofNat j2) - (1 : Int32))), .unset] [(.int (3 : Int32))])) (fun _ kz => XS.iconst X159.here hx rfl (hb hby at_233) kz) ?_
          refine Goes.step (T' := T159) (g' := (mkF m 236 #[.val (.int p0), .val (.int p1), .val (.int p2), .val (.int p3), .val (.int p4), .val (.int p5), .val (.int (Int32.ofNat k)), .val (.ref b73), .val (.ref ba), .val (.ref b134), .val (.ref b_140), .val (.int (3 : Int32)), .unset] [])) (fun _ kz => XS.istore X159.here hx rfl (hb hby at_234) rfl (l' := #[.val (.int p0), .val (.int p1), .val (.int p2), .val (.int p3), .val (.int p4), .val (.int p5), .val (.int (Int32.ofNat k)), .val (.ref b73), .val (.ref ba), .val (.ref b134), .val (.ref b_140), .val (.int (3 : Int32)), .unset]) rfl kz) ?_
          have hJ := J4 (4) (IV_yes (by rw [hcl]; exact ((own_lt (a := 3) (by omega) (by omega)).mp hc220_157)) (by rw [hcg 3 ((own_lt (a := 3) (by omega) (by omega)).mp hc220_157)]; exact own_if1 hc230_160)) _ _ X159 e159 N0
          rw [show (Int32.ofNat 4 - (1 : Int32)) = (3 : Int32) from by decide] at hJ
          exact hJ
      ·
        refine Goes.step (T' := T151) (g' := (mkF m 236 #[.val (.int p0), .val (.int p1), .val (.int p2), .val (.int p3), .val (.int p4), .val (.int p5), .val (.int (Int32.ofNat k)), .val (.ref b73), .val (.ref ba), .val (.ref b134), .val (.ref b_140), .val (.int ((Int32.ofNat j2) - (1 : Int32))), .unset] [])) (fun _ kz => XS.icmpYes X151.here hx rfl (pc0 := 220) (pc' := 236) rfl (hb hby at_220) rfl (flt hc220_157).2.2.2 (by decide) (by decide) kz) ?_
        exact J4 (j2) (IV_skip (by have := mt (own_lt (a := 3) (by omega) (by omega)).mpr hc220_157; omega) hj) _ _ X151 e151 N0
    clear N0
    intro j3 hj3 T156 locs156 X156 e156 N0
    clear hj
    have hj := hj3
    clear hj3
    suffices J5 : ∀ (j4 : Nat) (hj4 : IV cs 5 j4) (T161 : State) (locs161 : List Loc) (X161 : Stand p l e room_1 (s.setVm T140.vm) m #[(.int p0), (.int p1), (.int p2), (.int p3), (.int p4), (.int p5)] below meth c T161 locs161 11 51) (e161 : T161.heap = h140) (N0 : Fr n0 locs161), Goes p e below (fun o U' => ∃ v L, o = .returned v ∧ Q_law Z p0 p1 p2 p3 p4 p5 h0 n0 v U'.heap L ∧ CHr Z EL s.vm s.heap U'.vm U'.heap ∧ ReturnedEndW s o U' L 40 2240) T161 (mkF m 255 #[.val (.int p0), .val (.int p1), .val (.int p2), .val (.int p3), .val (.int p4), .val (.int p5), .val (.int (Int32.ofNat k)), .val (.ref b73), .val (.ref ba), .val (.ref b134), .val (.ref b_140), .val (.int ((Int32.ofNat j4) - (1 : Int32))), .unset] []) by
      refine Goes.step (T' := T156) (g' := (mkF m 238 #[.val (.int p0), .val (.int p1), .val (.int p2), .val (.int p3), .val (.int p4), .val (.int p5), .val (.int (Int32.ofNat k)), .val (.ref b73), .val (.ref ba), .val (.ref b134), .val (.ref b_140), .val (.int ((Int32.ofNat j3) - (1 : Int32))), .unset] [(.int (Int32.ofNat k))])) (fun _ kz => XS.iload X156.here hx rfl (hb hby at_236) rfl  kz) ?_
      refine Goes.step (T' := T156) (g' := (mkF m 239 #[.val (.int p0), .val (.int p1), .val (.int p2), .val (.int p3), .val (.int p4), .val (.int p5), .val (.int (Int32.ofNat k)), .val (.ref b73), .val (.ref ba), .val (.ref b134), .val (.ref b_140), .val (.int ((Int32.ofNat j3) - (1 : Int32))), .unset] [(.int (4 : Int32)), (.int (Int32.ofNat k))])) (fun _ kz => XS.iconst X156.here hx rfl (hb hby at_238) kz) ?_
      by_cases hc239_162 : (4 : Int32) < (Int32.ofNat k)
      ·
        refine Goes.step (T' := T156) (g' := (mkF m 242 #[.val (.int p0), .val (.int p1), .val (.int p2), .val (.int p3), .val (.int p4), .val (.int p5), .val (.int (Int32.ofNat k)), .val (.ref b73), .val (.ref ba), .val (.ref b134), .val (.ref b_140), .val (.int ((Int32.ofNat j3) - (1 : Int32))), .unset] [])) (fun _ kz => XS.icmpNo X156.here hx rfl (hb hby at_239) rfl (tlt hc239_162).2.2.2 kz) ?_
        refine Goes.step (T' := T156) (g' := (mkF m 244 #[.val (.int p0), .val (.int p1), .val (.int p2), .val (.int p3), .val (.int p4), .val (.int p5), .val (.int (Int32.ofNat k)), .val (.ref b73), .val (.ref ba), .val (.ref b134), .val (.ref b_140), .val (.int ((Int32.ofNat j3) - (1 : Int32))), .unset] [(.ref b73)])) (fun _ kz => XS.aload X156.here hx rfl (hb hby at_242) rfl rfl kz) ?_
        refine Goes.step (T' := T156) (g' := (mkF m 245 #[.val (.int p0), .val (.int p1), .val (.int p2), .val (.int p3), .val (.int p4), .val (.int p5), .val (.int (Int32.ofNat k)), .val (.ref b73), .val (.ref ba), .val (.ref b134), .val (.ref b_140), .val (.int ((Int32.ofNat j3) - (1 : Int32))), .unset] [(.int (4 : Int32)), (.ref b73)])) (fun _ kz => XS.iconst X156.here hx rfl (hb hby at_244) kz) ?_
        obtain ⟨cl163, Ar163, q163, Sz163, Nn163, Hs163, Gs163⟩ := (id V_b73 : Arv Z h140 b73 kc73 .char (5 : Int32) [(.int z_74), (.int z_76), (.int z_78), (.int z_80), (.int z_82)] (.int (0 : Int32)))
        refine Goes.step (T' := T156) (g' := (mkF m 246 #[.val (.int p0), .val (.int p1), .val (.int p2), .val (.int p3), .val (.int p4), .val (.int p5), .val (.int (Int32.ofNat k)), .val (.ref b73), .val (.ref ba), .val (.ref b134), .val (.ref b_140), .val (.int ((Int32.ofNat j3) - (1 : Int32))), .unset] [(.int z_82)])) (X156.caload hx (j := (4 : Int32)) (v := (.int z_82)) (by rw [e156]; exact Ar163.1) (State.isArrayOf_alike hZ.alike Ar163.2.1) Ar163.2.2 (inb_of Sz163 ⟨by decide, by decide⟩) (Has.at Hs163 (inb_of Sz163 ⟨by decide, by decide⟩) rfl) (g := (mkF m 245 #[.val (.int p0), .val (.int p1), .val (.int p2), .val (.int p3), .val (.int p4), .val (.int p5), .val (.int (Int32.ofNat k)), .val (.ref b73), .val (.ref ba), .val (.ref b134), .val (.ref b_140), .val (.int ((Int32.ofNat j3) - (1 : Int32))), .unset] [(.int (4 : Int32)), (.ref b73)])) rfl rfl (hb hby at_245)) ?_
        obtain ⟨_, _, ⟨T164, L164, k164, n164⟩, -, X164, ⟨Lc164, hQ164, l164, y164, z164⟩, st164⟩ := Jvm.LawKit.callS X156 hx (y := (⟨"com/example/demarcation/demarcation/component/NamedAnnotationSimpleNamePinLaw", "sep", "(C)Z"⟩ : MethodName)) hown (mvT hZ (hw _ (List.mem_of_getElem? (i := 167) rfl))) (mvT hZ (hw _ (List.mem_of_getElem? (i := 168) rfl))) (mvT hZ (hw _ (List.mem_of_getElem? (i := 4) rfl))) (mvT hZ (hw _ (List.mem_of_getElem? (i := 169) rfl))) (by decide) (backOf (W := 0) (rm_sep l Z a0 hw [] z_82 h140 n0 O0  ) hZ (hw _ (List.mem_of_getElem? (i := 169) rfl)) (hw _ (List.mem_of_getElem? (i := 4) rfl)) (by decide) (by decide)) (g := (mkF m 246 #[.val (.int p0), .val (.int p1), .val (.int p2), .val (.int p3), .val (.int p4), .val (.int p5), .val (.int (Int32.ofNat k)), .val (.ref b73), .val (.ref ba), .val (.ref b134), .val (.ref b_140), .val (.int ((Int32.ofNat j3) - (1 : Int32))), .unset] [(.int z_82)])) rfl (by rw [hml]; rfl) (argsL := [(.int z_82)]) (rest := []) (lenOf pd_23 rfl) rfl (by show 2 * 0 + _ ≤ _; exact Nat.le_of_eq rfl) (hb hby at_246) (fun _ _ => ⟨rfl, e156, (by decide : 11 + 0 ≤ _), (by decide : 51 + 0 ≤ _)⟩)
        dsimp only [Pt.U, Pt.locs, Pt.cells, Pt.slots] at X164 l164 y164 z164 st164 hQ164
        subst l164 y164 z164
        obtain ⟨rfl, rfl, e164⟩ := hQ164
        replace N0 := Fr.app N0 (Fr.nil n0)
        refine Goes.step (T' := T164) (g' := (mkF m 249 #[.val (.int p0), .val (.int p1), .val (.int p2), .val (.int p3), .val (.int p4), .val (.int p5), .val (.int (Int32.ofNat k)), .val (.ref b73), .val (.ref ba), .val (.ref b134), .val (.ref b_140), .val (.int ((Int32.ofNat j3) - (1 : Int32))), .unset] [(.int (if z_82 = 46 ∨ z_82 = 36 then 1 else 0))])) st164 ?_
        by_cases hc249_165 : (if z_82 = 46 ∨ z_82 = 36 then 1 else 0) = (0 : Int32)
        ·
          refine Goes.step (T' := T164) (g' := (mkF m 255 #[.val (.int p0), .val (.int p1), .val (.int p2), .val (.int p3), .val (.int p4), .val (.int p5), .val (.int (Int32.ofNat k)), .val (.ref b73), .val (.ref ba), .val (.ref b134), .val (.ref b_140), .val (.int ((Int32.ofNat j3) - (1 : Int32))), .unset] [])) (fun _ kz => XS.ifYes X164.here hx rfl (pc0 := 249) (pc' := 255) rfl (hb hby at_249) rfl ((if0 _ _).trans (teq hc249_165).1) (by decide) (by decide) kz) ?_
          exact J5 (j3) (IV_no (by rw [hcg 4 ((own_lt (a := 4) (by omega) (by omega)).mp hc239_162)]; exact own_if0 hc249_165) hj) _ _ X164 e164 N0
        ·
          refine Goes.step (T' := T164) (g' := (mkF m 252 #[.val (.int p0), .val (.int p1), .val (.int p2), .val (.int p3), .val (.int p4), .val (.int p5), .val (.int (Int32.ofNat k)), .val (.ref b73), .val (.ref ba), .val (.ref b134), .val (.ref b_140), .val (.int ((Int32.ofNat j3) - (1 : Int32))), .unset] [])) (fun _ kz => XS.ifNo X164.here hx rfl (hb hby at_249) rfl ((if0 _ _).trans (feq hc249_165).1) kz) ?_
          refine Goes.step (T' := T164) (g' := (mkF m 253 #[.val (.int p0), .val (.int p1), .val (.int p2), .val (.int p3), .val (.int p4), .val (.int p5), .val (.int (Int32.ofNat k)), .val (.ref b73), .val (.ref ba), .val (.ref b134), .val (.ref b_140), .val (.int ((Int32.ofNat j3) - (1 : Int32))), .unset] [(.int (4 : Int32))])) (fun _ kz => XS.iconst X164.here hx rfl (hb hby at_252) kz) ?_
          refine Goes.step (T' := T164) (g' := (mkF m 255 #[.val (.int p0), .val (.int p1), .val (.int p2), .val (.int p3), .val (.int p4), .val (.int p5), .val (.int (Int32.ofNat k)), .val (.ref b73), .val (.ref ba), .val (.ref b134), .val (.ref b_140), .val (.int (4 : Int32)), .unset] [])) (fun _ kz => XS.istore X164.here hx rfl (hb hby at_253) rfl (l' := #[.val (.int p0), .val (.int p1), .val (.int p2), .val (.int p3), .val (.int p4), .val (.int p5), .val (.int (Int32.ofNat k)), .val (.ref b73), .val (.ref ba), .val (.ref b134), .val (.ref b_140), .val (.int (4 : Int32)), .unset]) rfl kz) ?_
          have hJ := J5 (5) (IV_yes (by rw [hcl]; exact ((own_lt (a := 4) (by omega) (by omega)).mp hc239_162)) (by rw [hcg 4 ((own_lt (a := 4) (by omega) (by omega)).mp hc239_162)]; exact own_if1 hc249_165)) _ _ X164 e164 N0
          rw [show (Int32.ofNat 5 - (1 : Int32)) = (4 : Int32) from by decide] at hJ
          exact hJ
      ·
        refine Goes.step (T' := T156) (g' := (mkF m 255 #[.val (.int p0), .val (.int p1), .val (.int p2), .val (.int p3), .val (.int p4), .val (.int p5), .val (.int (Int32.ofNat k)), .val (.ref b73), .val (.ref ba), .val (.ref b134), .val (.ref b_140), .val (.int ((Int32.ofNat j3) - (1 : Int32))), .unset] [])) (fun _ kz => XS.icmpYes X156.here hx rfl (pc0 := 239) (pc' := 255) rfl (hb hby at_239) rfl (flt hc239_162).2.2.2 (by decide) (by decide) kz) ?_
        exact J5 (j3) (IV_skip (by have := mt (own_lt (a := 4) (by omega) (by omega)).mpr hc239_162; omega) hj) _ _ X156 e156 N0
    clear N0
    intro j4 hj4 T161 locs161 X161 e161 N0
    clear hj
    have hj := hj4
    clear hj4
    have hsn := IV_snm (by omega) hj
    have hjl := hj.2.1
    refine Goes.step (T' := T161) (g' := (mkF m 257 #[.val (.int p0), .val (.int p1), .val (.int p2), .val (.int p3), .val (.int p4), .val (.int p5), .val (.int (Int32.ofNat k)), .val (.ref b73), .val (.ref ba), .val (.ref b134), .val (.ref b_140), .val (.int ((Int32.ofNat j4) - (1 : Int32))), .unset] [(.int (Int32.ofNat k))])) (fun _ kz => XS.iload X161.here hx rfl (hb hby at_255) rfl  kz) ?_
    refine Goes.step (T' := T161) (g' := (mkF m 258 #[.val (.int p0), .val (.int p1), .val (.int p2), .val (.int p3), .val (.int p4), .val (.int p5), .val (.int (Int32.ofNat k)), .val (.ref b73), .val (.ref ba), .val (.ref b134), .val (.ref b_140), .val (.int ((Int32.ofNat j4) - (1 : Int32))), .unset] [(.int (1 : Int32)), (.int (Int32.ofNat k))])) (fun _ kz => XS.iconst X161.here hx rfl (hb hby at_257) kz) ?_
    refine Goes.step (T' := T161) (g' := (mkF m 259 #[.val (.int p0), .val (.int p1), .val (.int p2), .val (.int p3), .val (.int p4), .val (.int p5), .val (.int (Int32.ofNat k)), .val (.ref b73), .val (.ref ba), .val (.ref b134), .val (.ref b_140), .val (.int ((Int32.ofNat j4) - (1 : Int32))), .unset] [(.int ((Int32.ofNat k) - (1 : Int32)))])) (fun _ kz => XS.isub X161.here hx rfl (hb hby at_258) rfl kz) ?_
    refine Goes.step (T' := T161) (g' := (mkF m 261 #[.val (.int p0), .val (.int p1), .val (.int p2), .val (.int p3), .val (.int p4), .val (.int p5), .val (.int (Int32.ofNat k)), .val (.ref b73), .val (.ref ba), .val (.ref b134), .val (.ref b_140), .val (.int ((Int32.ofNat j4) - (1 : Int32))), .unset] [(.int ((Int32.ofNat j4) - (1 : Int32))), (.int ((Int32.ofNat k) - (1 : Int32)))])) (fun _ kz => XS.iload X161.here hx rfl (hb hby at_259) rfl  kz) ?_
    refine Goes.step (T' := T161) (g' := (mkF m 262 #[.val (.int p0), .val (.int p1), .val (.int p2), .val (.int p3), .val (.int p4), .val (.int p5), .val (.int (Int32.ofNat k)), .val (.ref b73), .val (.ref ba), .val (.ref b134), .val (.ref b_140), .val (.int ((Int32.ofNat j4) - (1 : Int32))), .unset] [(.int (((Int32.ofNat k) - (1 : Int32)) - ((Int32.ofNat j4) - (1 : Int32))))])) (fun _ kz => XS.isub X161.here hx rfl (hb hby at_261) rfl kz) ?_
    rw [show (((Int32.ofNat k) - (1 : Int32)) - ((Int32.ofNat j4) - (1 : Int32))) = (Int32.ofNat (SNM cs).length) from by rw [hsn, List.length_drop, hcl]; exact own_mm hk5 (by omega)]
    refine Goes.step (T' := T161) (g' := (mkF m 264 #[.val (.int p0), .val (.int p1), .val (.int p2), .val (.int p3), .val (.int p4), .val (.int p5), .val (.int (Int32.ofNat k)), .val (.ref b73), .val (.ref ba), .val (.ref b134), .val (.ref b_140), .val (.int ((Int32.ofNat j4) - (1 : Int32))), .val (.int (Int32.ofNat (SNM cs).length))] [])) (fun _ kz => XS.istore X161.here hx rfl (hb hby at_262) rfl (l' := #[.val (.int p0), .val (.int p1), .val (.int p2), .val (.int p3), .val (.int p4), .val (.int p5), .val (.int (Int32.ofNat k)), .val (.ref b73), .val (.ref ba), .val (.ref b134), .val (.ref b_140), .val (.int ((Int32.ofNat j4) - (1 : Int32))), .val (.int (Int32.ofNat (SNM cs).length))]) rfl kz) ?_
    refine Goes.step (T' := T161) (g' := (mkF m 266 #[.val (.int p0), .val (.int p1), .val (.int p2), .val (.int p3), .val (.int p4), .val (.int p5), .val (.int (Int32.ofNat k)), .val (.ref b73), .val (.ref ba), .val (.ref b134), .val (.ref b_140), .val (.int ((Int32.ofNat j4) - (1 : Int32))), .val (.int (Int32.ofNat (SNM cs).length))] [(.ref b_140)])) (fun _ kz => XS.aload X161.here hx rfl (hb hby at_264) rfl rfl kz) ?_
    refine Goes.step (T' := T161) (g' := (mkF m 269 #[.val (.int p0), .val (.int p1), .val (.int p2), .val (.int p3), .val (.int p4), .val (.int p5), .val (.int (Int32.ofNat k)), .val (.ref b73), .val (.ref ba), .val (.ref b134), .val (.ref b_140), .val (.int ((Int32.ofNat j4) - (1 : Int32))), .val (.int (Int32.ofNat (SNM cs).length))] [])) (fun _ kz => XS.ifnullNo X161.here hx rfl (hb hby at_266) rfl kz) ?_
    refine Goes.step (T' := T161) (g' := (mkF m 271 #[.val (.int p0), .val (.int p1), .val (.int p2), .val (.int p3), .val (.int p4), .val (.int p5), .val (.int (Int32.ofNat k)), .val (.ref b73), .val (.ref ba), .val (.ref b134), .val (.ref b_140), .val (.int ((Int32.ofNat j4) - (1 : Int32))), .val (.int (Int32.ofNat (SNM cs).length))] [(.ref b_140)])) (fun _ kz => XS.aload X161.here hx rfl (hb hby at_269) rfl rfl kz) ?_
    obtain ⟨cq166, kq166, qa166, qb166, qc166⟩ := isOf hZ e161 E_b_140
    obtain ⟨_, _, ⟨T166, L166, k166, n166⟩, -, X166, ⟨Lc166, hQ166, l166, y166, z166⟩, st166⟩ := X161.virtualBack hx (y := (⟨"java/lang/String", "length", "()I"⟩ : MethodName)) (z := (⟨"java/lang/String", "length", "()I"⟩ : MethodName)) hown (mvT hZ (hw _ (List.mem_of_getElem? (i := 170) rfl))) (mvT hZ (hw _ (List.mem_of_getElem? (i := 97) rfl))) (notFace_of_selects (args := #[]) (mvT hZ (hw _ (List.mem_of_getElem? (i := 99) rfl)))) (mvT hZ (hw _ (List.mem_of_getElem? (i := 99) rfl))) (mvT hZ (hw _ (List.mem_of_getElem? (i := 98) rfl))) (by decide) (own_lenW (W := 0) hZ hw (hw _ (List.mem_of_getElem? (i := 10) rfl)) G_b_140 ((by rw [hsn, List.length_drop]; omega)) (Scs.ext O0.2) hz_Scs (by decide) (by decide)) qa166 qc166 (g := (mkF m 271 #[.val (.int p0), .val (.int p1), .val (.int p2), .val (.int p3), .val (.int p4), .val (.int p5), .val (.int (Int32.ofNat k)), .val (.ref b73), .val (.ref ba), .val (.ref b134), .val (.ref b_140), .val (.int ((Int32.ofNat j4) - (1 : Int32))), .val (.int (Int32.ofNat (SNM cs).length))] [(.ref b_140)])) rfl (by rw [hml]; rfl) (Steps.refl _) (argsL := []) (rest := []) (lenOf pd_5 rfl) rfl (by show 2 * 0 + _ ≤ _; exact Nat.le_of_eq rfl) (hb hby at_271) (fun _ _ => ⟨rfl, e161, (by decide : 11 + 0 ≤ _), (by decide : 51 + 0 ≤ _)⟩)
    dsimp only [Pt.U, Pt.locs, Pt.cells, Pt.slots] at X166 l166 y166 z166 st166 hQ166
    subst l166 y166 z166
    obtain ⟨rfl, rfl, e166⟩ := hQ166
    replace N0 := Fr.app N0 (Fr.nil n0)
    refine Goes.run (T' := T166) (g' := (mkF m 274 #[.val (.int p0), .val (.int p1), .val (.int p2), .val (.int p3), .val (.int p4), .val (.int p5), .val (.int (Int32.ofNat k)), .val (.ref b73), .val (.ref ba), .val (.ref b134), .val (.ref b_140), .val (.int ((Int32.ofNat j4) - (1 : Int32))), .val (.int (Int32.ofNat (SNM cs).length))] [(.int (Int32.ofNat (SNM cs).length))])) st166 ?_
    refine Goes.step (T' := T166) (g' := (mkF m 276 #[.val (.int p0), .val (.int p1), .val (.int p2), .val (.int p3), .val (.int p4), .val (.int p5), .val (.int (Int32.ofNat k)), .val (.ref b73), .val (.ref ba), .val (.ref b134), .val (.ref b_140), .val (.int ((Int32.ofNat j4) - (1 : Int32))), .val (.int (Int32.ofNat (SNM cs).length))] [(.int (Int32.ofNat (SNM cs).length)), (.int (Int32.ofNat (SNM cs).length))])) (fun _ kz => XS.iload X166.here hx rfl (hb hby at_274) rfl  kz) ?_
    refine Goes.step (T' := T166) (g' := (mkF m 281 #[.val (.int p0), .val (.int p1), .val (.int p2), .val (.int p3), .val (.int p4), .val (.int p5), .val (.int (Int32.ofNat k)), .val (.ref b73), .val (.ref ba), .val (.ref b134), .val (.ref b_140), .val (.int ((Int32.ofNat j4) - (1 : Int32))), .val (.int (Int32.ofNat (SNM cs).length))] [])) (fun _ kz => XS.icmpYes X166.here hx rfl (pc0 := 276) (pc' := 281) rfl (hb hby at_276) rfl (teq (rfl : (Int32.ofNat (SNM cs).length) = (Int32.ofNat (SNM cs).length))).1 (by decide) (by decide) kz) ?_
    refine Goes.step (T' := T166) (g' := (mkF m 283 #[.val (.int p0), .val (.int p1), .val (.int p2), .val (.int p3), .val (.int p4), .val (.int p5), .val (.int (Int32.ofNat k)), .val (.ref b73), .val (.ref ba), .val (.ref b134), .val (.ref b_140), .val (.int ((Int32.ofNat j4) - (1 : Int32))), .val (.int (Int32.ofNat (SNM cs).length))] [(.ref b_140)])) (fun _ kz => XS.aload X166.here hx rfl (hb hby at_281) rfl rfl kz) ?_
    refine Goes.step (T' := T166) (g' := (mkF m 284 #[.val (.int p0), .val (.int p1), .val (.int p2), .val (.int p3), .val (.int p4), .val (.int p5), .val (.int (Int32.ofNat k)), .val (.ref b73), .val (.ref ba), .val (.ref b134), .val (.ref b_140), .val (.int ((Int32.ofNat j4) - (1 : Int32))), .val (.int (Int32.ofNat (SNM cs).length))] [(.int (0 : Int32)), (.ref b_140)])) (fun _ kz => XS.iconst X166.here hx rfl (hb hby at_283) kz) ?_
    refine Goes.step (T' := T166) (g' := (mkF m 286 #[.val (.int p0), .val (.int p1), .val (.int p2), .val (.int p3), .val (.int p4), .val (.int p5), .val (.int (Int32.ofNat k)), .val (.ref b73), .val (.ref ba), .val (.ref b134), .val (.ref b_140), .val (.int ((Int32.ofNat j4) - (1 : Int32))), .val (.int (Int32.ofNat (SNM cs).length))] [(.int (Int32.ofNat (SNM cs).length)), (.int (0 : Int32)), (.ref b_140)])) (fun _ kz => XS.iload X166.here hx rfl (hb hby at_284) rfl  kz) ?_
    refine Goes.step (T' := T166) (g' := (mkF m 288 #[.val (.int p0), .val (.int p1), .val (.int p2), .val (.int p3), .val (.int p4), .val (.int p5), .val (.int (Int32.ofNat k)), .val (.ref b73), .val (.ref ba), .val (.ref b134), .val (.ref b_140), .val (.int ((Int32.ofNat j4) - (1 : Int32))), .val (.int (Int32.ofNat (SNM cs).length))] [(.ref b73), (.int (Int32.ofNat (SNM cs).length)), (.int (0 : Int32)), (.ref b_140)])) (fun _ kz => XS.aload X166.here hx rfl (hb hby at_286) rfl rfl kz) ?_
    refine Goes.step (T' := T166) (g' := (mkF m 290 #[.val (.int p0), .val (.int p1), .val (.int p2), .val (.int p3), .val (.int p4), .val (.int p5), .val (.int (Int32.ofNat k)), .val (.ref b73), .val (.ref ba), .val (.ref b134), .val (.ref b_140), .val (.int ((Int32.ofNat j4) - (1 : Int32))), .val (.int (Int32.ofNat (SNM cs).length))] [(.int ((Int32.ofNat j4) - (1 : Int32))), (.ref b73), (.int (Int32.ofNat (SNM cs).length)), (.int (0 : Int32)), (.ref b_140)])) (fun _ kz => XS.iload X166.here hx rfl (hb hby at_288) rfl  kz) ?_
    obtain ⟨_, _, ⟨T167, L167, k167, n167⟩, -, X167, ⟨Lc167, hQ167, l167, y167, z167⟩, st167⟩ := Jvm.LawKit.callS X166 hx (y := (⟨"com/example/demarcation/demarcation/component/NamedAnnotationSimpleNamePinLaw", "at", "(Ljava/lang/String;II[CI)Z"⟩ : MethodName)) hown (mvT hZ (hw _ (List.mem_of_getElem? (i := 171) rfl))) (mvT hZ (hw _ (List.mem_of_getElem? (i := 172) rfl))) (mvT hZ (hw _ (List.mem_of_getElem? (i := 4) rfl))) (mvT hZ (hw _ (List.mem_of_getElem? (i := 173) rfl))) (by decide) (backOf (W := 0) (rm_at l Z a0 hw [] b_140 b73 ((SNM cs)) (([z_74, z_76, z_78, z_80, z_82] : List Int32)) (j4) (0) (kc73) h140 n0 O0 zcs Scs hz_Scs fmt Sfm hz_Sfm E_b_140 G_b_140 V_b73 (by decide) (by rw [hsn, List.length_drop]; omega) rfl (fun i hi => by rw [hsn] at hi ⊢; rw [List.length_drop] at hi; rw [own_dropD, hcg _ (by omega)])) hZ (hw _ (List.mem_of_getElem? (i := 173) rfl)) (hw _ (List.mem_of_getElem? (i := 4) rfl)) (by decide) (by decide)) (g := (mkF m 290 #[.val (.int p0), .val (.int p1), .val (.int p2), .val (.int p3), .val (.int p4), .val (.int p5), .val (.int (Int32.ofNat k)), .val (.ref b73), .val (.ref ba), .val (.ref b134), .val (.ref b_140), .val (.int ((Int32.ofNat j4) - (1 : Int32))), .val (.int (Int32.ofNat (SNM cs).length))] [(.int ((Int32.ofNat j4) - (1 : Int32))), (.ref b73), (.int (Int32.ofNat (SNM cs).length)), (.int (0 : Int32)), (.ref b_140)])) rfl (by rw [hml]; rfl) (argsL := [(.ref b_140), (.int (0 : Int32)), (.int (Int32.ofNat (SNM cs).length)), (.ref b73), (.int ((Int32.ofNat j4) - (1 : Int32)))]) (rest := []) (lenOf pd_22 rfl) rfl (by show 2 * 0 + _ ≤ _; exact Nat.le_of_eq rfl) (hb hby at_290) (fun _ _ => ⟨rfl, e166, (by decide : 11 + 0 ≤ _), (by decide : 51 + 0 ≤ _)⟩)
    dsimp only [Pt.U, Pt.locs, Pt.cells, Pt.slots] at X167 l167 y167 z167 st167 hQ167
    subst l167 y167 z167
    obtain ⟨rfl, rfl, e167⟩ := hQ167
    replace N0 := Fr.app N0 (Fr.nil n0)
    refine Goes.step (T' := T167) (g' := (mkF m 293 #[.val (.int p0), .val (.int p1), .val (.int p2), .val (.int p3), .val (.int p4), .val (.int p5), .val (.int (Int32.ofNat k)), .val (.ref b73), .val (.ref ba), .val (.ref b134), .val (.ref b_140), .val (.int ((Int32.ofNat j4) - (1 : Int32))), .val (.int (Int32.ofNat (SNM cs).length))] [(.int (1 : Int32))])) st167 ?_
    refine Goes.step (T' := T167) (g' := (mkF m 296 #[.val (.int p0), .val (.int p1), .val (.int p2), .val (.int p3), .val (.int p4), .val (.int p5), .val (.int (Int32.ofNat k)), .val (.ref b73), .val (.ref ba), .val (.ref b134), .val (.ref b_140), .val (.int ((Int32.ofNat j4) - (1 : Int32))), .val (.int (Int32.ofNat (SNM cs).length))] [])) (fun _ kz => XS.ifNo X167.here hx rfl (hb hby at_293) rfl ((if0 _ _).trans (feq (by decide : ¬ ((1 : Int32) = (0 : Int32)))).1) kz) ?_
    refine Goes.step (T' := T167) (g' := (mkF m 298 #[.val (.int p0), .val (.int p1), .val (.int p2), .val (.int p3), .val (.int p4), .val (.int p5), .val (.int (Int32.ofNat k)), .val (.ref b73), .val (.ref ba), .val (.ref b134), .val (.ref b_140), .val (.int ((Int32.ofNat j4) - (1 : Int32))), .val (.int (Int32.ofNat (SNM cs).length))] [(.ref b_140)])) (fun _ kz => XS.aload X167.here hx rfl (hb hby at_296) rfl rfl kz) ?_
    refine Goes.step (T' := T167) (g' := (mkF m 299 #[.val (.int p0), .val (.int p1), .val (.int p2), .val (.int p3), .val (.int p4), .val (.int p5), .val (.int (Int32.ofNat k)), .val (.ref b73), .val (.ref ba), .val (.ref b134), .val (.ref b_140), .val (.int ((Int32.ofNat j4) - (1 : Int32))), .val (.int (Int32.ofNat (SNM cs).length))] [(.int (1 : Int32)), (.ref b_140)])) (fun _ kz => XS.iconst X167.here hx rfl (hb hby at_298) kz) ?_
    refine Goes.step (T' := T167) (g' := (mkF m 301 #[.val (.int p0), .val (.int p1), .val (.int p2), .val (.int p3), .val (.int p4), .val (.int p5), .val (.int (Int32.ofNat k)), .val (.ref b73), .val (.ref ba), .val (.ref b134), .val (.ref b_140), .val (.int ((Int32.ofNat j4) - (1 : Int32))), .val (.int (Int32.ofNat (SNM cs).length))] [(.int (Int32.ofNat (SNM cs).length)), (.int (1 : Int32)), (.ref b_140)])) (fun _ kz => XS.iload X167.here hx rfl (hb hby at_299) rfl  kz) ?_
    refine Goes.step (T' := T167) (g' := (mkF m 303 #[.val (.int p0), .val (.int p1), .val (.int p2), .val (.int p3), .val (.int p4), .val (.int p5), .val (.int (Int32.ofNat k)), .val (.ref b73), .val (.ref ba), .val (.ref b134), .val (.ref b_140), .val (.int ((Int32.ofNat j4) - (1 : Int32))), .val (.int (Int32.ofNat (SNM cs).length))] [(.ref b73), (.int (Int32.ofNat (SNM cs).length)), (.int (1 : Int32)), (.ref b_140)])) (fun _ kz => XS.aload X167.here hx rfl (hb hby at_301) rfl rfl kz) ?_
    refine Goes.step (T' := T167) (g' := (mkF m 305 #[.val (.int p0), .val (.int p1), .val (.int p2), .val (.int p3), .val (.int p4), .val (.int p5), .val (.int (Int32.ofNat k)), .val (.ref b73), .val (.ref ba), .val (.ref b134), .val (.ref b_140), .val (.int ((Int32.ofNat j4) - (1 : Int32))), .val (.int (Int32.ofNat (SNM cs).length))] [(.int ((Int32.ofNat j4) - (1 : Int32))), (.ref b73), (.int (Int32.ofNat (SNM cs).length)), (.int (1 : Int32)), (.ref b_140)])) (fun _ kz => XS.iload X167.here hx rfl (hb hby at_303) rfl  kz) ?_
    obtain ⟨_, _, ⟨T168, L168, k168, n168⟩, -, X168, ⟨Lc168, hQ168, l168, y168, z168⟩, st168⟩ := Jvm.LawKit.callS X167 hx (y := (⟨"com/example/demarcation/demarcation/component/NamedAnnotationSimpleNamePinLaw", "at", "(Ljava/lang/String;II[CI)Z"⟩ : MethodName)) hown (mvT hZ (hw _ (List.mem_of_getElem? (i := 171) rfl))) (mvT hZ (hw _ (List.mem_of_getElem? (i := 172) rfl))) (mvT hZ (hw _ (List.mem_of_getElem? (i := 4) rfl))) (mvT hZ (hw _ (List.mem_of_getElem? (i := 173) rfl))) (by decide) (backOf (W := 0) (rm_at l Z a0 hw [] b_140 b73 ((SNM cs)) (([z_74, z_76, z_78, z_80, z_82] : List Int32)) (j4) (1) (kc73) h140 n0 O0 zcs Scs hz_Scs fmt Sfm hz_Sfm E_b_140 G_b_140 V_b73 (by decide) (by rw [hsn, List.length_drop]; omega) rfl (fun i hi => by rw [hsn] at hi ⊢; rw [List.length_drop] at hi; rw [own_dropD, hcg _ (by omega)])) hZ (hw _ (List.mem_of_getElem? (i := 173) rfl)) (hw _ (List.mem_of_getElem? (i := 4) rfl)) (by decide) (by decide)) (g := (mkF m 305 #[.val (.int p0), .val (.int p1), .val (.int p2), .val (.int p3), .val (.int p4), .val (.int p5), .val (.int (Int32.ofNat k)), .val (.ref b73), .val (.ref ba), .val (.ref b134), .val (.ref b_140), .val (.int ((Int32.ofNat j4) - (1 : Int32))), .val (.int (Int32.ofNat (SNM cs).length))] [(.int ((Int32.ofNat j4) - (1 : Int32))), (.ref b73), (.int (Int32.ofNat (SNM cs).length)), (.int (1 : Int32)), (.ref b_140)])) rfl (by rw [hml]; rfl) (argsL := [(.ref b_140), (.int (1 : Int32)), (.int (Int32.ofNat (SNM cs).length)), (.ref b73), (.int ((Int32.ofNat j4) - (1 : Int32)))]) (rest := []) (lenOf pd_22 rfl) rfl (by show 2 * 0 + _ ≤ _; exact Nat.le_of_eq rfl) (hb hby at_305) (fun _ _ => ⟨rfl, e167, (by decide : 11 + 0 ≤ _), (by decide : 51 + 0 ≤ _)⟩)
    dsimp only [Pt.U, Pt.locs, Pt.cells, Pt.slots] at X168 l168 y168 z168 st168 hQ168
    subst l168 y168 z168
    obtain ⟨rfl, rfl, e168⟩ := hQ168
    replace N0 := Fr.app N0 (Fr.nil n0)
    refine Goes.step (T' := T168) (g' := (mkF m 308 #[.val (.int p0), .val (.int p1), .val (.int p2), .val (.int p3), .val (.int p4), .val (.int p5), .val (.int (Int32.ofNat k)), .val (.ref b73), .val (.ref ba), .val (.ref b134), .val (.ref b_140), .val (.int ((Int32.ofNat j4) - (1 : Int32))), .val (.int (Int32.ofNat (SNM cs).length))] [(.int (1 : Int32))])) st168 ?_
    refine Goes.step (T' := T168) (g' := (mkF m 311 #[.val (.int p0), .val (.int p1), .val (.int p2), .val (.int p3), .val (.int p4), .val (.int p5), .val (.int (Int32.ofNat k)), .val (.ref b73), .val (.ref ba), .val (.ref b134), .val (.ref b_140), .val (.int ((Int32.ofNat j4) - (1 : Int32))), .val (.int (Int32.ofNat (SNM cs).length))] [])) (fun _ kz => XS.ifNo X168.here hx rfl (hb hby at_308) rfl ((if0 _ _).trans (feq (by decide : ¬ ((1 : Int32) = (0 : Int32)))).1) kz) ?_
    refine Goes.step (T' := T168) (g' := (mkF m 313 #[.val (.int p0), .val (.int p1), .val (.int p2), .val (.int p3), .val (.int p4), .val (.int p5), .val (.int (Int32.ofNat k)), .val (.ref b73), .val (.ref ba), .val (.ref b134), .val (.ref b_140), .val (.int ((Int32.ofNat j4) - (1 : Int32))), .val (.int (Int32.ofNat (SNM cs).length))] [(.ref b_140)])) (fun _ kz => XS.aload X168.here hx rfl (hb hby at_311) rfl rfl kz) ?_
    refine Goes.step (T' := T168) (g' := (mkF m 314 #[.val (.int p0), .val (.int p1), .val (.int p2), .val (.int p3), .val (.int p4), .val (.int p5), .val (.int (Int32.ofNat k)), .val (.ref b73), .val (.ref ba), .val (.ref b134), .val (.ref b_140), .val (.int ((Int32.ofNat j4) - (1 : Int32))), .val (.int (Int32.ofNat (SNM cs).length))] [(.int (2 : Int32)), (.ref b_140)])) (fun _ kz => XS.iconst X168.here hx rfl (hb hby at_313) kz) ?_
    refine Goes.step (T' := T168) (g' := (mkF m 316 #[.val (.int p0), .val (.int p1), .val (.int p2), .val (.int p3), .val (.int p4), .val (.int p5), .val (.int (Int32.ofNat k)), .val (.ref b73), .val (.ref ba), .val (.ref b134), .val (.ref b_140), .val (.int ((Int32.ofNat j4) - (1 : Int32))), .val (.int (Int32.ofNat (SNM cs).length))] [(.int (Int32.ofNat (SNM cs).length)), (.int (2 : Int32)), (.ref b_140)])) (fun _ kz => XS.iload X168.here hx rfl (hb hby at_314) rfl  kz) ?_
    refine Goes.step (T' := T168) (g' := (mkF m 318 #[.val (.int p0), .val (.int p1), .val (.int p2), .val (.int p3), .val (.int p4), .val (.int p5), .val (.int (Int32.ofNat k)), .val (.ref b73), .val (.ref ba), .val (.ref b134), .val (.ref b_140), .val (.int ((Int32.ofNat j4) - (1 : Int32))), .val (.int (Int32.ofNat (SNM cs).length))] [(.ref b73), (.int (Int32.ofNat (SNM cs).length)), (.int (2 : Int32)), (.ref b_140)])) (fun _ kz => XS.aload X168.here hx rfl (hb hby at_316) rfl rfl kz) ?_
    refine Goes.step (T' := T168) (g' := (mkF m 320 #[.val (.int p0), .val (.int p1), .val (.int p2), .val (.int p3), .val (.int p4), .val (.int p5), .val (.int (Int32.ofNat k)), .val (.ref b73), .val (.ref ba), .val (.ref b134), .val (.ref b_140), .val (.int ((Int32.ofNat j4) - (1 : Int32))), .val (.int (Int32.ofNat (SNM cs).length))] [(.int ((Int32.ofNat j4) - (1 : Int32))), (.ref b73), (.int (Int32.ofNat (SNM cs).length)), (.int (2 : Int32)), (.ref b_140)])) (fun _ kz => XS.iload X168.here hx rfl (hb hby at_318) rfl  kz) ?_
    obtain ⟨_, _, ⟨T169, L169, k169, n169⟩, -, X169, ⟨Lc169, hQ169, l169, y169, z169⟩, st169⟩ := Jvm.LawKit.callS X168 hx (y := (⟨"com/example/demarcation/demarcation/component/NamedAnnotationSimpleNamePinLaw", "at", "(Ljava/lang/String;II[CI)Z"⟩ : MethodName)) hown (mvT hZ (hw _ (List.mem_of_getElem? (i := 171) rfl))) (mvT hZ (hw _ (List.mem_of_getElem? (i := 172) rfl))) (mvT hZ (hw _ (List.mem_of_getElem? (i := 4) rfl))) (mvT hZ (hw _ (List.mem_of_getElem? (i := 173) rfl))) (by decide) (backOf (W := 0) (rm_at l Z a0 hw [] b_140 b73 ((SNM cs)) (([z_74, z_76, z_78, z_80, z_82] : List Int32)) (j4) (2) (kc73) h140 n0 O0 zcs Scs hz_Scs fmt Sfm hz_Sfm E_b_140 G_b_140 V_b73 (by decide) (by rw [hsn, List.length_drop]; omega) rfl (fun i hi => by rw [hsn] at hi ⊢; rw [List.length_drop] at hi; rw [own_dropD, hcg _ (by omega)])) hZ (hw _ (List.mem_of_getElem? (i := 173) rfl)) (hw _ (List.mem_of_getElem? (i := 4) rfl)) (by decide) (by decide)) (g := (mkF m 320 #[.val (.int p0), .val (.int p1), .val (.int p2), .val (.int p3), .val (.int p4), .val (.int p5), .val (.int (Int32.ofNat k)), .val (.ref b73), .val (.ref ba), .val (.ref b134), .val (.ref b_140), .val (.int ((Int32.ofNat j4) - (1 : Int32))), .val (.int (Int32.ofNat (SNM cs).length))] [(.int ((Int32.ofNat j4) - (1 : Int32))), (.ref b73), (.int (Int32.ofNat (SNM cs).length)), (.int (2 : Int32)), (.ref b_140)])) rfl (by rw [hml]; rfl) (argsL := [(.ref b_140), (.int (2 : Int32)), (.int (Int32.ofNat (SNM cs).length)), (.ref b73), (.int ((Int32.ofNat j4) - (1 : Int32)))]) (rest := []) (lenOf pd_22 rfl) rfl (by show 2 * 0 + _ ≤ _; exact Nat.le_of_eq rfl) (hb hby at_320) (fun _ _ => ⟨rfl, e168, (by decide : 11 + 0 ≤ _), (by decide : 51 + 0 ≤ _)⟩)
    dsimp only [Pt.U, Pt.locs, Pt.cells, Pt.slots] at X169 l169 y169 z169 st169 hQ169
    subst l169 y169 z169
    obtain ⟨rfl, rfl, e169⟩ := hQ169
    replace N0 := Fr.app N0 (Fr.nil n0)
    refine Goes.step (T' := T169) (g' := (mkF m 323 #[.val (.int p0), .val (.int p1), .val (.int p2), .val (.int p3), .val (.int p4), .val (.int p5), .val (.int (Int32.ofNat k)), .val (.ref b73), .val (.ref ba), .val (.ref b134), .val (.ref b_140), .val (.int ((Int32.ofNat j4) - (1 : Int32))), .val (.int (Int32.ofNat (SNM cs).length))] [(.int (1 : Int32))])) st169 ?_
    refine Goes.step (T' := T169) (g' := (mkF m 326 #[.val (.int p0), .val (.int p1), .val (.int p2), .val (.int p3), .val (.int p4), .val (.int p5), .val (.int (Int32.ofNat k)), .val (.ref b73), .val (.ref ba), .val (.ref b134), .val (.ref b_140), .val (.int ((Int32.ofNat j4) - (1 : Int32))), .val (.int (Int32.ofNat (SNM cs).length))] [])) (fun _ kz => XS.ifNo X169.here hx rfl (hb hby at_323) rfl ((if0 _ _).trans (feq (by decide : ¬ ((1 : Int32) = (0 : Int32)))).1) kz) ?_
    refine Goes.step (T' := T169) (g' := (mkF m 328 #[.val (.int p0), .val (.int p1), .val (.int p2), .val (.int p3), .val (.int p4), .val (.int p5), .val (.int (Int32.ofNat k)), .val (.ref b73), .val (.ref ba), .val (.ref b134), .val (.ref b_140), .val (.int ((Int32.ofNat j4) - (1 : Int32))), .val (.int (Int32.ofNat (SNM cs).length))] [(.ref b_140)])) (fun _ kz => XS.aload X169.here hx rfl (hb hby at_326) rfl rfl kz) ?_
    refine Goes.step (T' := T169) (g' := (mkF m 329 #[.val (.int p0), .val (.int p1), .val (.int p2), .val (.int p3), .val (.int p4), .val (.int p5), .val (.int (Int32.ofNat k)), .val (.ref b73), .val (.ref ba), .val (.ref b134), .val (.ref b_140), .val (.int ((Int32.ofNat j4) - (1 : Int32))), .val (.int (Int32.ofNat (SNM cs).length))] [(.int (3 : Int32)), (.ref b_140)])) (fun _ kz => XS.iconst X169.here hx rfl (hb hby at_328) kz) ?_
    refine Goes.step (T' := T169) (g' := (mkF m 331 #[.val (.int p0), .val (.int p1), .val (.int p2), .val (.int p3), .val (.int p4), .val (.int p5), .val (.int (Int32.ofNat k)), .val (.ref b73), .val (.ref ba), .val (.ref b134), .val (.ref b_140), .val (.int ((Int32.ofNat j4) - (1 : Int32))), .val (.int (Int32.ofNat (SNM cs).length))] [(.int (Int32.ofNat (SNM cs).length)), (.int (3 : Int32)), (.ref b_140)])) (fun _ kz => XS.iload X169.here hx rfl (hb hby at_329) rfl  kz) ?_
    refine Goes.step (T' := T169) (g' := (mkF m 333 #[.val (.int p0), .val (.int p1), .val (.int p2), .val (.int p3), .val (.int p4), .val (.int p5), .val (.int (Int32.ofNat k)), .val (.ref b73), .val (.ref ba), .val (.ref b134), .val (.ref b_140), .val (.int ((Int32.ofNat j4) - (1 : Int32))), .val (.int (Int32.ofNat (SNM cs).length))] [(.ref b73), (.int (Int32.ofNat (SNM cs).length)), (.int (3 : Int32)), (.ref b_140)])) (fun _ kz => XS.aload X169.here hx rfl (hb hby at_331) rfl rfl kz) ?_
    refine Goes.step (T' := T169) (g' := (mkF m 335 #[.val (.int p0), .val (.int p1), .val (.int p2), .val (.int p3), .val (.int p4), .val (.int p5), .val (.int (Int32.ofNat k)), .val (.ref b73), .val (.ref ba), .val (.ref b134), .val (.ref b_140), .val (.int ((Int32.ofNat j4) - (1 : Int32))), .val (.int (Int32.ofNat (SNM cs).length))] [(.int ((Int32.ofNat j4) - (1 : Int32))), (.ref b73), (.int (Int32.ofNat (SNM cs).length)), (.int (3 : Int32)), (.ref b_140)])) (fun _ kz => XS.iload X169.here hx rfl (hb hby at_333) rfl  kz) ?_
    obtain ⟨_, _, ⟨T170, L170, k170, n170⟩, -, X170, ⟨Lc170, hQ170, l170, y170, z170⟩, st170⟩ := Jvm.LawKit.callS X169 hx (y := (⟨"com/example/demarcation/demarcation/component/NamedAnnotationSimpleNamePinLaw", "at", "(Ljava/lang/String;II[CI)Z"⟩ : MethodName)) hown (mvT hZ (hw _ (List.mem_of_getElem? (i := 171) rfl))) (mvT hZ (hw _ (List.mem_of_getElem? (i := 172) rfl))) (mvT hZ (hw _ (List.mem_of_getElem? (i := 4) rfl))) (mvT hZ (hw _ (List.mem_of_getElem? (i := 173) rfl))) (by decide) (backOf (W := 0) (rm_at l Z a0 hw [] b_140 b73 ((SNM cs)) (([z_74, z_76, z_78, z_80, z_82] : List Int32)) (j4) (3) (kc73) h140 n0 O0 zcs Scs hz_Scs fmt Sfm hz_Sfm E_b_140 G_b_140 V_b73 (by decide) (by rw [hsn, List.length_drop]; omega) rfl (fun i hi => by rw [hsn] at hi ⊢; rw [List.length_drop] at hi; rw [own_dropD, hcg _ (by omega)])) hZ (hw _ (List.mem_of_getElem? (i := 173) rfl)) (hw _ (List.mem_of_getElem? (i := 4) rfl)) (by decide) (by decide)) (g := (mkF m 335 #[.val (.int p0), .val (.int p1), .val (.int p2), .val (.int p3), .val (.int p4), .val (.int p5), .val (.int (Int32.ofNat k)), .val (.ref b73), .val (.ref ba), .val (.ref b134), .val (.ref b_140), .val (.int ((Int32.ofNat j4) - (1 : Int32))), .val (.int (Int32.ofNat (SNM cs).length))] [(.int ((Int32.ofNat j4) - (1 : Int32))), (.ref b73), (.int (Int32.ofNat (SNM cs).length)), (.int (3 : Int32)), (.ref b_140)])) rfl (by rw [hml]; rfl) (argsL := [(.ref b_140), (.int (3 : Int32)), (.int (Int32.ofNat (SNM cs).length)), (.ref b73), (.int ((Int32.ofNat j4) - (1 : Int32)))]) (rest := []) (lenOf pd_22 rfl) rfl (by show 2 * 0 + _ ≤ _; exact Nat.le_of_eq rfl) (hb hby at_335) (fun _ _ => ⟨rfl, e169, (by decide : 11 + 0 ≤ _), (by decide : 51 + 0 ≤ _)⟩)
    dsimp only [Pt.U, Pt.locs, Pt.cells, Pt.slots] at X170 l170 y170 z170 st170 hQ170
    subst l170 y170 z170
    obtain ⟨rfl, rfl, e170⟩ := hQ170
    replace N0 := Fr.app N0 (Fr.nil n0)
    refine Goes.step (T' := T170) (g' := (mkF m 338 #[.val (.int p0), .val (.int p1), .val (.int p2), .val (.int p3), .val (.int p4), .val (.int p5), .val (.int (Int32.ofNat k)), .val (.ref b73), .val (.ref ba), .val (.ref b134), .val (.ref b_140), .val (.int ((Int32.ofNat j4) - (1 : Int32))), .val (.int (Int32.ofNat (SNM cs).length))] [(.int (1 : Int32))])) st170 ?_
    refine Goes.step (T' := T170) (g' := (mkF m 341 #[.val (.int p0), .val (.int p1), .val (.int p2), .val (.int p3), .val (.int p4), .val (.int p5), .val (.int (Int32.ofNat k)), .val (.ref b73), .val (.ref ba), .val (.ref b134), .val (.ref b_140), .val (.int ((Int32.ofNat j4) - (1 : Int32))), .val (.int (Int32.ofNat (SNM cs).length))] [])) (fun _ kz => XS.ifNo X170.here hx rfl (hb hby at_338) rfl ((if0 _ _).trans (feq (by decide : ¬ ((1 : Int32) = (0 : Int32)))).1) kz) ?_
    refine Goes.step (T' := T170) (g' := (mkF m 343 #[.val (.int p0), .val (.int p1), .val (.int p2), .val (.int p3), .val (.int p4), .val (.int p5), .val (.int (Int32.ofNat k)), .val (.ref b73), .val (.ref ba), .val (.ref b134), .val (.ref b_140), .val (.int ((Int32.ofNat j4) - (1 : Int32))), .val (.int (Int32.ofNat (SNM cs).length))] [(.ref b_140)])) (fun _ kz => XS.aload X170.here hx rfl (hb hby at_341) rfl rfl kz) ?_
    refine Goes.step (T' := T170) (g' := (mkF m 344 #[.val (.int p0), .val (.int p1), .val (.int p2), .val (.int p3), .val (.int p4), .val (.int p5), .val (.int (Int32.ofNat k)), .val (.ref b73), .val (.ref ba), .val (.ref b134), .val (.ref b_140), .val (.int ((Int32.ofNat j4) - (1 : Int32))), .val (.int (Int32.ofNat (SNM cs).length))] [(.int (4 : Int32)), (.ref b_140)])) (fun _ kz => XS.iconst X170.here hx rfl (hb hby at_343) kz) ?_
    refine Goes.step (T' := T170) (g' := (mkF m 346 #[.val (.int p0), .val (.int p1), .val (.int p2), .val (.int p3), .val (.int p4), .val (.int p5), .val (.int (Int32.ofNat k)), .val (.ref b73), .val (.ref ba), .val (.ref b134), .val (.ref b_140), .val (.int ((Int32.ofNat j4) - (1 : Int32))), .val (.int (Int32.ofNat (SNM cs).length))] [(.int (Int32.ofNat (SNM cs).length)), (.int (4 : Int32)), (.ref b_140)])) (fun _ kz => XS.iload X170.here hx rfl (hb hby at_344) rfl  kz) ?_
    refine Goes.step (T' := T170) (g' := (mkF m 348 #[.val (.int p0), .val (.int p1), .val (.int p2), .val (.int p3), .val (.int p4), .val (.int p5), .val (.int (Int32.ofNat k)), .val (.ref b73), .val (.ref ba), .val (.ref b134), .val (.ref b_140), .val (.int ((Int32.ofNat j4) - (1 : Int32))), .val (.int (Int32.ofNat (SNM cs).length))] [(.ref b73), (.int (Int32.ofNat (SNM cs).length)), (.int (4 : Int32)), (.ref b_140)])) (fun _ kz => XS.aload X170.here hx rfl (hb hby at_346) rfl rfl kz) ?_
    refine Goes.step (T' := T170) (g' := (mkF m 350 #[.val (.int p0), .val (.int p1), .val (.int p2), .val (.int p3), .val (.int p4), .val (.int p5), .val (.int (Int32.ofNat k)), .val (.ref b73), .val (.ref ba), .val (.ref b134), .val (.ref b_140), .val (.int ((Int32.ofNat j4) - (1 : Int32))), .val (.int (Int32.ofNat (SNM cs).length))] [(.int ((Int32.ofNat j4) - (1 : Int32))), (.ref b73), (.int (Int32.ofNat (SNM cs).length)), (.int (4 : Int32)), (.ref b_140)])) (fun _ kz => XS.iload X170.here hx rfl (hb hby at_348) rfl  kz) ?_
    obtain ⟨_, _, ⟨T171, L171, k171, n171⟩, -, X171, ⟨Lc171, hQ171, l171, y171, z171⟩, st171⟩ := Jvm.LawKit.callS X170 hx (y := (⟨"com/example/demarcation/demarcation/component/NamedAnnotationSimpleNamePinLaw", "at", "(Ljava/lang/String;II[CI)Z"⟩ : MethodName)) hown (mvT hZ (hw _ (List.mem_of_getElem? (i := 171) rfl))) (mvT hZ (hw _ (List.mem_of_getElem? (i := 172) rfl))) (mvT hZ (hw _ (List.mem_of_getElem? (i := 4) rfl))) (mvT hZ (hw _ (List.mem_of_getElem? (i := 173) rfl))) (by decide) (backOf (W := 0) (rm_at l Z a0 hw [] b_140 b73 ((SNM cs)) (([z_74, z_76, z_78, z_80, z_82] : List Int32)) (j4) (4) (kc73) h140 n0 O0 zcs Scs hz_Scs fmt Sfm hz_Sfm E_b_140 G_b_140 V_b73 (by decide) (by rw [hsn, List.length_drop]; omega) rfl (fun i hi => by rw [hsn] at hi ⊢; rw [List.length_drop] at hi; rw [own_dropD, hcg _ (by omega)])) hZ (hw _ (List.mem_of_getElem? (i := 173) rfl)) (hw _ (List.mem_of_getElem? (i := 4) rfl)) (by decide) (by decide)) (g := (mkF m 350 #[.val (.int p0), .val (.int p1), .val (.int p2), .val (.int p3), .val (.int p4), .val (.int p5), .val (.int (Int32.ofNat k)), .val (.ref b73), .val (.ref ba), .val (.ref b134), .val (.ref b_140), .val (.int ((Int32.ofNat j4) - (1 : Int32))), .val (.int (Int32.ofNat (SNM cs).length))] [(.int ((Int32.ofNat j4) - (1 : Int32))), (.ref b73), (.int (Int32.ofNat (SNM cs).length)), (.int (4 : Int32)), (.ref b_140)])) rfl (by rw [hml]; rfl) (argsL := [(.ref b_140), (.int (4 : Int32)), (.int (Int32.ofNat (SNM cs).length)), (.ref b73), (.int ((Int32.ofNat j4) - (1 : Int32)))]) (rest := []) (lenOf pd_22 rfl) rfl (by show 2 * 0 + _ ≤ _; exact Nat.le_of_eq rfl) (hb hby at_350) (fun _ _ => ⟨rfl, e170, (by decide : 11 + 0 ≤ _), (by decide : 51 + 0 ≤ _)⟩)
    dsimp only [Pt.U, Pt.locs, Pt.cells, Pt.slots] at X171 l171 y171 z171 st171 hQ171
    subst l171 y171 z171
    obtain ⟨rfl, rfl, e171⟩ := hQ171
    replace N0 := Fr.app N0 (Fr.nil n0)
    refine Goes.step (T' := T171) (g' := (mkF m 353 #[.val (.int p0), .val (.int p1), .val (.int p2), .val (.int p3), .val (.int p4), .val (.int p5), .val (.int (Int32.ofNat k)), .val (.ref b73), .val (.ref ba), .val (.ref b134), .val (.ref b_140), .val (.int ((Int32.ofNat j4) - (1 : Int32))), .val (.int (Int32.ofNat (SNM cs).length))] [(.int (1 : Int32))])) st171 ?_
    refine Goes.step (T' := T171) (g' := (mkF m 356 #[.val (.int p0), .val (.int p1), .val (.int p2), .val (.int p3), .val (.int p4), .val (.int p5), .val (.int (Int32.ofNat k)), .val (.ref b73), .val (.ref ba), .val (.ref b134), .val (.ref b_140), .val (.int ((Int32.ofNat j4) - (1 : Int32))), .val (.int (Int32.ofNat (SNM cs).length))] [])) (fun _ kz => XS.ifNo X171.here hx rfl (hb hby at_353) rfl ((if0 _ _).trans (feq (by decide : ¬ ((1 : Int32) = (0 : Int32)))).1) kz) ?_
    refine Goes.step (T' := T171) (g' := (mkF m 357 #[.val (.int p0), .val (.int p1), .val (.int p2), .val (.int p3), .val (.int p4), .val (.int p5), .val (.int (Int32.ofNat k)), .val (.ref b73), .val (.ref ba), .val (.ref b134), .val (.ref b_140), .val (.int ((Int32.ofNat j4) - (1 : Int32))), .val (.int (Int32.ofNat (SNM cs).length))] [(.int (1 : Int32))])) (fun _ kz => XS.iconst X171.here hx rfl (hb hby at_356) kz) ?_
    refine Goes.step (T' := T171) (g' := (mkF m 361 #[.val (.int p0), .val (.int p1), .val (.int p2), .val (.int p3), .val (.int p4), .val (.int p5), .val (.int (Int32.ofNat k)), .val (.ref b73), .val (.ref ba), .val (.ref b134), .val (.ref b_140), .val (.int ((Int32.ofNat j4) - (1 : Int32))), .val (.int (Int32.ofNat (SNM cs).length))] [(.int (1 : Int32))])) (fun _ kz => XS.goto X171.here hx rfl (pc0 := 357) (pc' := 361) rfl (hb hby at_357) (by decide) (by decide) kz) ?_
    obtain ⟨fs, hr, hrun, hended, hend⟩ := X171.leaveW hS0 (by rw [e171]; exact hk0) (v := some (.int (nar .boolean (1 : Int32)))) (fun h => by rw [Bd.returns] at h; cases h)
    exact ⟨_, _, retN X171 hx (t := .boolean) Bd.returns (by simp) (hb hby at_361) hr, hrun, hended, _, _, rfl, (by show Q_law Z p0 p1 p2 p3 p4 p5 h0 n0 _ T171.heap _; rw [e171]; exact ⟨rfl, N0, K0⟩), (by show CHr Z EL s.vm s.heap T171.vm T171.heap; rw [e171, hh]; exact C0.trans (CHv.at X171 hZ hEL C0.1)), own_mono hend (by decide) (by decide)⟩
theorem own_MM {s : State} {C : String} (h : MirrorMade s C) : MM s C := by obtain ⟨c, k, a, h1, h2, h3, -⟩ := h; exact ⟨c, k, a, h1, h2, h3⟩
set_option maxRecDepth 65536 in
set_option maxHeartbeats 40000000 in
theorem comes_1 {Post : Tables → Env → Array Value → State → Outcome → State → Prop} (hpost : ∀ tb e args s v u, (limb_1_1.after args s (.returned v) u = true ∧ limb_1_2.after args s (.returned v) u = true ∧ True) → FramedW s (.returned v) u (Jvm.fieldLocs frame_1_writes args s ++ Jvm.arrayLocs frame_1_arrays args s ++ Jvm.staticLocs frame_1_statics s) 40 2240 → Post tb e args s (.returned v) u) :
    ArmFor flags0 classFile x code maxLocals ret World_1 tables_1 room_1 Calls_1 rest_1 Pre_1 Post := by
  intro l hfl _ _ p e ha hc hk s m args below hf hA hF happ hP
  obtain ⟨hcalls, hrest, hpre⟩ := hP
  obtain ⟨-, -, -, hnamed, -, -, -, hat⟩ := (Spec.applies_iff hf).mp happ
  obtain ⟨hg, hn⟩ := and_e (Cond.before_iff.mp (show (Jvm.Cond.and given_1 narrow_1).before args s = true from hpre))
  obtain ⟨hg0, hr0⟩ := and_e hg
  obtain ⟨ha0, hr1⟩ := and_e hr0
  obtain ⟨ha1, hr2⟩ := and_e hr1
  obtain ⟨ha2, hr3⟩ := and_e hr2
  obtain ⟨ha3, hr4⟩ := and_e hr3
  obtain ⟨ha4, hr5⟩ := and_e hr4
  have ha5 := hr5
  obtain ⟨w0, w1, w2, w3, w4, w5, rfl⟩ : ∃ w0 w1 w2 w3 w4 w5 : Value, args = #[w0, w1, w2, w3, w4, w5] := by
    have hs : args.size = 6 := by simpa [Cond.value, given_1] using hg0
    obtain ⟨L⟩ := args
    match L, hs with
    | [w0, w1, w2, w3, w4, w5], _ => exact ⟨w0, w1, w2, w3, w4, w5, rfl⟩
  have hw := fun d (hd : d ∈ tables_1) => atoms_spec (ws := Jvm.Cond.code x code maxLocals ret :: tables_1) hat d (List.mem_cons_of_mem _ hd)
  obtain ⟨hsets, hown0⟩ := atoms_of _ (rest_1_c_eq ▸ (show rest_1_c.before _ s = true from hrest))
  obtain ⟨i0, ei0⟩ := is_v ha0
  obtain rfl : w0 = (.int i0) := Option.some.inj ei0
  obtain ⟨i1, ei1⟩ := is_v ha1
  obtain rfl : w1 = (.int i1) := Option.some.inj ei1
  obtain ⟨i2, ei2⟩ := is_v ha2
  obtain rfl : w2 = (.int i2) := Option.some.inj ei2
  obtain ⟨i3, ei3⟩ := is_v ha3
  obtain rfl : w3 = (.int i3) := Option.some.inj ei3
  obtain ⟨i4, ei4⟩ := is_v ha4
  obtain rfl : w4 = (.int i4) := Option.some.inj ei4
  obtain ⟨i5, ei5⟩ := is_v ha5
  obtain rfl : w5 = (.int i5) := Option.some.inj ei5
  have nn_Scs := not_v (Cond.before_iff.mp (hsets _ (List.mem_of_getElem? (i := 2) rfl)))
  obtain ⟨zcs, es_Scs⟩ := is_v (Cond.before_iff.mp (hsets _ (List.mem_of_getElem? (i := 1) rfl)))
  have Scs : Sta s s.heap "java/lang/String" "COMPACT_STRINGS" "Z" (.int zcs) := Sta.start es_Scs (Or.inl (hsets _ (List.mem_of_getElem? (i := 0) rfl)))
  have hz_Scs : ¬ (zcs = (0 : Int32)) := gotF (Cond.eq_ints es_Scs (Term.int_eval (0))) nn_Scs
  obtain ⟨fmt, es_Sfm, hz_Sfm⟩ := isR_v (Cond.before_iff.mp (hsets _ (List.mem_of_getElem? (i := 8) rfl)))
  have Sfm : Sta s s.heap "jdk/internal/util/Preconditions" "SIOOBE_FORMATTER" "Ljava/util/function/BiFunction;" fmt := Sta.start es_Sfm (Or.inl (hsets _ (List.mem_of_getElem? (i := 7) rfl)))
  have hCH : CHv s EL s.vm s.heap := CHv.start (own_EW hw) (fun p hp => hcalls.2.2.1 p hp) (hsets _ (List.mem_of_getElem? (i := 2) rfl)) (hw _ (List.mem_of_getElem? (i := 27) rfl)) (hw _ (List.mem_of_getElem? (i := 10) rfl))
  obtain ⟨n, o, h1, h2, h3, _, L, rfl, ⟨rfl, N, -⟩, hq⟩ := rm_law l s _ hw tables_1 (own_EW hw) i0 i1 i2 i3 i4 i5 s.heap s.heap.size (Old.start s) zcs Scs hz_Scs fmt Sfm hz_Sfm (own_MM hcalls.1) (own_MM hcalls.2.1) p e ha hc hk s m _ below hf ((Spec.applies_iff_loose hf).mp happ).1 ⟨rfl, State.Warmed39.refl s, rfl, hCH⟩ trivial
  refine ⟨n, _, h1, h2, h3, hpost _ _ _ _ _ _ ⟨Cond.after_iff.mpr rfl, Cond.after_iff.mpr (eq_i res_at (Term.int_eval (1)) rfl), trivial⟩ ⟨hq.2.1, hq.2.2.1, hq.2.2.2.1, (hq.2.2.2.2.sift fun y hy => Or.inr (N y hy)).mono (by decide) (by decide)⟩⟩
theorem main_1_1 : Claimed_1_1 := comes_1 fun _ _ _ _ _ _ h hF => ⟨h.1, hF⟩
theorem main_1_2 : Claimed_1_2 := comes_1 fun _ _ _ _ _ _ h hF => ⟨h.2.1, hF⟩
end Jvm.Pilot.@@N@@
namespace Jvm.Pilot.@@N@@
open Jvm Jvm.ClassFile Sem Op Lib Jvm.Free Jvm.Stand Jvm.Pilot.@@N@@.Jvm.D
/-! MADE BY PROGRAM (witnessworld.py) out of the Statement's table words and the real class files: 29 classes; the members and pool entries that the words name. The judged class is class 1, her method 1. -/
namespace start1
open Jvm.ClassFile
def u (s : String) : CpInfo := .utf8 (stringToUtf16 s)
/-- a pool by its gaps: so many unusable entries, then the entry; so many at the end -/
def gap : Nat → List CpInfo → List CpInfo
  | 0, r => r
  | n + 1, r => .unusable :: gap n r
def poolList (es : List (Nat × CpInfo)) (last : Nat) : List CpInfo := es.foldr (fun e r => gap e.1 (e.2 :: r)) (gap last [])
def pool (es : List (Nat × CpInfo)) (last : Nat) : Array CpInfo := ⟨poolList es last⟩
def fileOf (pool : Array CpInfo) (this : Nat) (attrs : Array Attribute := #[]) (ms : Array MethodInfo := #[]) (fl : Nat := 33) (sup : Nat := 0) (ifs : Array Nat := #[]) (fds : Array FieldInfo := #[]) : ClassFile where
  minorVersion := 0
  majorVersion := 65
  constantPool := pool
  accessFlags := fl
  thisClass := this
  superClass := sup
  interfaces := ifs
  fields := fds
  methods := ms
  attributes := attrs
def plain (name : String) (sup : Option ClassId) : Class where
  name := name
  kind := .ordinary
  loader := none
  accessFlags := 33
  super := sup
  interfaces := #[]
  cf := none
  fields := #[]
  methods := #[]
  instanceTypes := #[]
  staticTypes := #[]
  resolved := #[]
  callSites := []
  init := .initialized
  statics := none
  mirror := none

def pool0 : Array CpInfo := pool [(5, u "<init>"), (0, u "()V"), (1, .class_ 10), (1, u "java/lang/Object"), (0, u "getClass"), (0, u "()Ljava/lang/Class;")] 111

def k0c0 : Code := { maxStack := 0, maxLocals := 1, code := object_method_1_code, exceptionTable := #[], attributes := #[] }
def k0m0 : Method := { name := "<init>", desc := "()V", sig := { parameters := [], returnType := none }, accessFlags := 1, code := some k0c0 }
def k0m1 : Method := { name := "getClass", desc := "()Ljava/lang/Class;", sig := { parameters := [], returnType := some (.object "java/lang/Class") }, accessFlags := 273, code := none }
/-- java/lang/Object -/
def k0 : Class := { plain "java/lang/Object" none with
  accessFlags := 33
  interfaces := #[]
  cf := some (fileOf pool0 8 #[] #[{ accessFlags := 1, nameIndex := 5, descriptorIndex := 6, attributes := #[] }, { accessFlags := 273, nameIndex := 11, descriptorIndex := 12, attributes := #[] }] 33 0 #[] #[])
  fields := #[]
  methods := #[k0m0, k0m1]
  instanceTypes := #[]
  staticTypes := #[]
  resolved := Array.replicate 124 none
  statics := none }

def pool1 : Array CpInfo := pool [(2, .class_ 4), (0, .nameAndType 5 6), (0, u "java/lang/Object"), (0, u "<init>"), (0, u "()V"), (0, .integer 2147483647), (0, .methodref 9 10), (0, .class_ 11), (0, .nameAndType 12 13), (0, u "com/example/demarcation/demarcation/component/NamedAnnotationSimpleNamePinLaw"), (0, u "ch"), (0, u "(I)C"), (0, .class_ 15), (0, u NAC), (0, .class_ 17), (0, u "java/lang/String"), (0, .methodref 16 19), (0, .nameAndType 5 20), (0, u "([C)V"), (0, .class_ 22), (0, u "java/util/HashMap"), (0, .methodref 21 3), (0, .methodref 14 25), (0, .nameAndType 5 26), (0, u "(Ljava/lang/String;Ljava/util/Map;)V"), (0, .methodref 14 28), (0, .nameAndType 29 30), (0, u "simpleName"), (0, u "()Ljava/lang/String;"), (0, .methodref 9 32), (0, .nameAndType 33 34), (0, u "sep"), (0, u "(C)Z"), (0, .methodref 16 36), (0, .nameAndType 37 38), (0, u "length"), (0, u "()I"), (0, .methodref 9 40), (0, .nameAndType 41 42), (0, u "at"), (0, u "(Ljava/lang/String;II[CI)Z"), (0, .methodref 16 44), (0, .nameAndType 45 13), (0, u "charAt"), (2, u "law"), (0, u "(IIIIII)Z")] 5

def k1m0 : Method := { name := "<init>", desc := "()V", sig := { parameters := [], returnType := none }, accessFlags := 1, code := none }
def k1c1 : Code := { maxStack := 5, maxLocals := 13, code := code, exceptionTable := #[], attributes := #[] }
def k1m1 : Method := { name := "law", desc := "(IIIIII)Z", sig := { parameters := [.int, .int, .int, .int, .int, .int], returnType := some .boolean }, accessFlags := 9, code := some k1c1 }
def k1c2 : Code := { maxStack := 2, maxLocals := 2, code := method_3_code, exceptionTable := #[], attributes := #[] }
def k1m2 : Method := { name := "ch", desc := "(I)C", sig := { parameters := [.int], returnType := some .char }, accessFlags := 10, code := some k1c2 }
def k1c3 : Code := { maxStack := 2, maxLocals := 1, code := method_4_code, exceptionTable := #[], attributes := #[] }
def k1m3 : Method := { name := "sep", desc := "(C)Z", sig := { parameters := [.char], returnType := some .boolean }, accessFlags := 10, code := some k1c3 }
def k1c4 : Code := { maxStack := 4, maxLocals := 5, code := method_5_code, exceptionTable := #[], attributes := #[] }
def k1m4 : Method := { name := "at", desc := "(Ljava/lang/String;II[CI)Z", sig := { parameters := [(.object "java/lang/String"), .int, .int, (.array .char), .int], returnType := some .boolean }, accessFlags := 10, code := some k1c4 }
/-- com/example/demarcation/demarcation/component/NamedAnnotationSimpleNamePinLaw -/
def k1 : Class := { plain "com/example/demarcation/demarcation/component/NamedAnnotationSimpleNamePinLaw" (some 0) with
  accessFlags := 49
  interfaces := #[]
  cf := some (fileOf pool1 9 #[] #[{ accessFlags := 1, nameIndex := 5, descriptorIndex := 6, attributes := #[] }, { accessFlags := 9, nameIndex := 48, descriptorIndex := 49, attributes := #[] }, { accessFlags := 10, nameIndex := 12, descriptorIndex := 13, attributes := #[] }, { accessFlags := 10, nameIndex := 33, descriptorIndex := 34, attributes := #[] }, { accessFlags := 10, nameIndex := 41, descriptorIndex := 42, attributes := #[] }] 49 2 #[] #[])
  fields := #[]
  methods := #[k1m0, k1m1, k1m2, k1m3, k1m4]
  instanceTypes := #[]
  staticTypes := #[]
  resolved := Array.replicate 55 none
  statics := none }

def pool2 : Array CpInfo := pool [(1, .methodref 2 3), (0, .class_ 4), (0, .nameAndType 5 6), (0, u "java/lang/Object"), (0, u "<init>"), (0, u "()V"), (0, .fieldref 8 9), (0, .class_ 10), (0, .nameAndType 11 12), (0, u NAC), (0, u "type"), (0, u "Ljava/lang/String;"), (0, .methodref 14 15), (0, .class_ 16), (0, .nameAndType 17 18), (0, u "java/util/Collections"), (0, u "unmodifiableMap"), (0, u "(Ljava/util/Map;)Ljava/util/Map;"), (0, .fieldref 8 20), (0, .nameAndType 21 22), (0, u "values"), (0, u "Ljava/util/Map;"), (37, u "()Ljava/lang/String;"), (13, u "(Ljava/lang/String;Ljava/util/Map;)V"), (18, .class_ 94), (0, u (NAC ++ "$Unreadable")), (1, .class_ 98), (1, u "java/lang/String"), (11, .class_ 111), (0, u (NAC ++ "$EnumConstant")), (33, .methodref 96 146), (0, .nameAndType 147 148), (0, u "lastIndexOf"), (0, u "(I)I"), (0, .methodref 96 150), (0, .nameAndType 151 152), (0, u "substring"), (0, u "(I)Ljava/lang/String;"), (70, u "simpleName")] 43

def k2c0 : Code := { maxStack := 2, maxLocals := 3, code := prog_19_method_1_code, exceptionTable := #[], attributes := #[] }
def k2m0 : Method := { name := "<init>", desc := "(Ljava/lang/String;Ljava/util/Map;)V", sig := { parameters := [(.object "java/lang/String"), (.object "java/util/Map")], returnType := none }, accessFlags := 0, code := some k2c0 }
def k2c1 : Code := { maxStack := 3, maxLocals := 2, code := prog_19_method_6_code, exceptionTable := #[], attributes := #[] }
def k2m1 : Method := { name := "simpleName", desc := "()Ljava/lang/String;", sig := { parameters := [], returnType := some (.object "java/lang/String") }, accessFlags := 0, code := some k2c1 }
/-- the class of site_146 -/
def k2 : Class := { plain NAC (some 0) with
  accessFlags := 48
  interfaces := #[]
  cf := some (fileOf pool2 8 #[.nestMembers #[93, 110]] #[{ accessFlags := 0, nameIndex := 5, descriptorIndex := 74, attributes := #[] }, { accessFlags := 0, nameIndex := 223, descriptorIndex := 60, attributes := #[] }] 48 2 #[] #[{ accessFlags := 18, nameIndex := 11, descriptorIndex := 12, attributes := #[] }, { accessFlags := 18, nameIndex := 21, descriptorIndex := 22, attributes := #[] }])
  fields := #[{ name := "type", type := (.object "java/lang/String"), accessFlags := 18, slot := 0, constantValue := 0 }, { name := "values", type := (.object "java/util/Map"), accessFlags := 18, slot := 1, constantValue := 0 }]
  methods := #[k2m0, k2m1]
  instanceTypes := #[(.object "java/lang/String"), (.object "java/util/Map")]
  staticTypes := #[]
  resolved := Array.replicate 267 none
  statics := none }

def pool3 : Array CpInfo := pool [(1, .class_ 2), (0, u "java/io/Serializable"), (0, .class_ 4), (0, u "java/lang/Object")] 2

/-- java/io/Serializable -/
def k3 : Class := { plain "java/io/Serializable" (some 0) with
  accessFlags := 1537
  interfaces := #[]
  cf := some (fileOf pool3 1 #[] #[] 1537 3 #[] #[])
  fields := #[]
  methods := #[]
  instanceTypes := #[]
  staticTypes := #[]
  resolved := Array.replicate 7 none
  statics := none }

def pool4 : Array CpInfo := pool [(1, .class_ 2), (0, u "java/lang/Comparable"), (0, .class_ 4), (0, u "java/lang/Object")] 7

/-- java/lang/Comparable -/
def k4 : Class := { plain "java/lang/Comparable" (some 0) with
  accessFlags := 1537
  interfaces := #[]
  cf := some (fileOf pool4 1 #[] #[] 1537 3 #[] #[])
  fields := #[]
  methods := #[]
  instanceTypes := #[]
  staticTypes := #[]
  resolved := Array.replicate 12 none
  statics := none }

def pool5 : Array CpInfo := pool [(2, .class_ 4), (1, u "java/lang/CharSequence"), (42, .class_ 48), (0, u "java/lang/CharSequence$1CodePointIterator"), (10, .class_ 60), (0, u "java/lang/CharSequence$1CharIterator"), (5, .class_ 67), (0, u "java/lang/Object")] 63

/-- java/lang/CharSequence -/
def k5 : Class := { plain "java/lang/CharSequence" (some 0) with
  accessFlags := 1537
  interfaces := #[]
  cf := some (fileOf pool5 2 #[.nestMembers #[47, 59]] #[] 1537 66 #[] #[])
  fields := #[]
  methods := #[]
  instanceTypes := #[]
  staticTypes := #[]
  resolved := Array.replicate 131 none
  statics := none }

def pool6 : Array CpInfo := pool [(1, .class_ 2), (0, u "java/lang/constant/Constable"), (0, .class_ 4), (0, u "java/lang/Object")] 6

/-- java/lang/constant/Constable -/
def k6 : Class := { plain "java/lang/constant/Constable" (some 0) with
  accessFlags := 1537
  interfaces := #[]
  cf := some (fileOf pool6 1 #[] #[] 1537 3 #[] #[])
  fields := #[]
  methods := #[]
  instanceTypes := #[]
  staticTypes := #[]
  resolved := Array.replicate 11 none
  statics := none }

def pool7 : Array CpInfo := pool [(1, .class_ 2), (0, u "java/lang/constant/ConstantDesc"), (0, .class_ 4), (0, u "java/lang/Object")] 32

/-- java/lang/constant/ConstantDesc -/
def k7 : Class := { plain "java/lang/constant/ConstantDesc" (some 0) with
  accessFlags := 1537
  interfaces := #[]
  cf := some (fileOf pool7 1 #[] #[] 1537 3 #[] #[])
  fields := #[]
  methods := #[]
  instanceTypes := #[]
  staticTypes := #[]
  resolved := Array.replicate 37 none
  statics := none }

def pool8 : Array CpInfo := pool [(1, .methodref 2 3), (0, .class_ 4), (0, .nameAndType 5 6), (0, u "java/lang/Object"), (0, u "<init>"), (0, u "()V"), (0, .string 8), (0, u ""), (0, .fieldref 10 11), (0, .class_ 12), (0, .nameAndType 13 14), (0, u "java/lang/String"), (0, u "value"), (0, u "[B"), (0, .fieldref 10 16), (0, .nameAndType 17 18), (0, u "coder"), (0, u "B"), (2, u "hash"), (0, u "I"), (2, u "hashIsZero"), (0, u "Z"), (0, .methodref 10 28), (0, .nameAndType 5 29), (0, u "([CIILjava/lang/Void;)V"), (8, .fieldref 10 39), (0, .nameAndType 40 26), (0, u "COMPACT_STRINGS"), (1, .class_ 44), (1, u "java/lang/StringUTF16"), (0, u "compress"), (1, .methodref 42 48), (0, .nameAndType 49 50), (0, u "coderFromArrayLen"), (0, u "([BI)B"), (46, u "([BII)I"), (9, .class_ 109), (1, u "java/lang/StringLatin1"), (32, u "()Z"), (34, .methodref 42 178), (0, .nameAndType 45 179), (0, u "([CII)[B"), (31, u "([BB)V"), (122, u "()I"), (0, .methodref 10 336), (0, .nameAndType 17 337), (0, u "()B"), (25, u "([BI)C"), (27, u "(II)V"), (35, u "(I)C"), (64, .methodref 10 493), (0, .nameAndType 494 142), (0, u "isLatin1"), (0, .methodref 107 496), (0, .nameAndType 497 363), (0, u "charAt"), (3, u "checkIndex"), (3, .methodref 10 506), (0, .nameAndType 507 334), (0, u "length"), (5, u "checkFromToIndex"), (7, .methodref 10 522), (0, .nameAndType 523 524), (0, u "checkBoundsBeginEnd"), (0, u "(III)V"), (50, .class_ 576), (0, u "java/lang/CharSequence"), (22, u "CASE_INSENSITIVE_ORDER"), (0, u "Ljava/util/Comparator;"), (35, u "(II)I"), (4, .methodref 10 642), (0, .nameAndType 643 636), (0, u "lastIndexOf"), (0, .methodref 107 645), (0, .nameAndType 643 97), (35, .methodref 10 682), (0, .nameAndType 683 684), (0, u "substring"), (0, u "(II)Ljava/lang/String;"), (0, .methodref 107 686), (0, .nameAndType 687 688), (0, u "newString"), (0, u "([BII)Ljava/lang/String;"), (76, u "(I)I"), (126, u "(I)Ljava/lang/String;"), (117, u "([C)V"), (42, .fieldref 1054 1055), (0, .class_ 1056), (0, .nameAndType 1057 1058), (0, u "jdk/internal/util/Preconditions"), (0, u "SIOOBE_FORMATTER"), (0, u "Ljava/util/function/BiFunction;"), (0, .methodref 1054 1060), (0, .nameAndType 501 1061), (0, u "(IILjava/util/function/BiFunction;)I"), (0, .methodref 1054 1063), (0, .nameAndType 513 1064), (0, u "(IIILjava/util/function/BiFunction;)I"), (36, u "serialPersistentFields"), (0, u "[Ljava/io/ObjectStreamField;"), (0, .class_ 1104), (0, u "java/lang/String$CaseInsensitiveComparator"), (1, .class_ 1107), (0, u "java/io/Serializable"), (0, .class_ 1109), (0, u "java/lang/Comparable"), (0, .class_ 1111), (0, u "java/lang/constant/Constable"), (0, .class_ 1113), (0, u "java/lang/constant/ConstantDesc"), (2, u "serialVersionUID"), (0, u "J"), (3, u "REPL"), (0, u "C"), (2, u "LATIN1"), (1, u "UTF16")] 323

def k8m0 : Method := { name := "<init>", desc := "()V", sig := { parameters := [], returnType := none }, accessFlags := 1, code := none }
def k8c1 : Code := { maxStack := 5, maxLocals := 2, code := jdk_42_method_3_code, exceptionTable := #[], attributes := #[] }
def k8m1 : Method := { name := "<init>", desc := "([C)V", sig := { parameters := [(.array .char)], returnType := none }, accessFlags := 1, code := some k8c1 }
def k8c2 : Code := { maxStack := 2, maxLocals := 1, code := jdk_42_method_54_code, exceptionTable := #[], attributes := #[] }
def k8m2 : Method := { name := "length", desc := "()I", sig := { parameters := [], returnType := some .int }, accessFlags := 1, code := some k8c2 }
def k8c3 : Code := { maxStack := 2, maxLocals := 2, code := jdk_42_method_56_code, exceptionTable := #[], attributes := #[] }
def k8m3 : Method := { name := "charAt", desc := "(I)C", sig := { parameters := [.int], returnType := some .char }, accessFlags := 1, code := some k8c3 }
def k8c4 : Code := { maxStack := 4, maxLocals := 2, code := jdk_42_method_82_code, exceptionTable := #[], attributes := #[] }
def k8m4 : Method := { name := "lastIndexOf", desc := "(I)I", sig := { parameters := [.int], returnType := some .int }, accessFlags := 1, code := some k8c4 }
def k8c5 : Code := { maxStack := 3, maxLocals := 3, code := jdk_42_method_83_code, exceptionTable := #[], attributes := #[] }
def k8m5 : Method := { name := "lastIndexOf", desc := "(II)I", sig := { parameters := [.int, .int], returnType := some .int }, accessFlags := 1, code := some k8c5 }
def k8c6 : Code := { maxStack := 3, maxLocals := 2, code := jdk_42_method_91_code, exceptionTable := #[], attributes := #[] }
def k8m6 : Method := { name := "substring", desc := "(I)Ljava/lang/String;", sig := { parameters := [.int], returnType := some (.object "java/lang/String") }, accessFlags := 1, code := some k8c6 }
def k8c7 : Code := { maxStack := 3, maxLocals := 5, code := jdk_42_method_92_code, exceptionTable := #[], attributes := #[] }
def k8m7 : Method := { name := "substring", desc := "(II)Ljava/lang/String;", sig := { parameters := [.int, .int], returnType := some (.object "java/lang/String") }, accessFlags := 1, code := some k8c7 }
def k8c8 : Code := { maxStack := 4, maxLocals := 6, code := jdk_42_method_149_code, exceptionTable := #[], attributes := #[] }
def k8m8 : Method := { name := "<init>", desc := "([CIILjava/lang/Void;)V", sig := { parameters := [(.array .char), .int, .int, (.object "java/lang/Void")], returnType := none }, accessFlags := 2, code := some k8c8 }
def k8c9 : Code := { maxStack := 2, maxLocals := 3, code := jdk_42_method_151_code, exceptionTable := #[], attributes := #[] }
def k8m9 : Method := { name := "<init>", desc := "([BB)V", sig := { parameters := [(.array .byte), .byte], returnType := none }, accessFlags := 0, code := some k8c9 }
def k8c10 : Code := { maxStack := 1, maxLocals := 1, code := jdk_42_method_152_code, exceptionTable := #[], attributes := #[] }
def k8m10 : Method := { name := "coder", desc := "()B", sig := { parameters := [], returnType := some .byte }, accessFlags := 0, code := some k8c10 }
def k8c11 : Code := { maxStack := 1, maxLocals := 1, code := jdk_42_method_154_code, exceptionTable := #[], attributes := #[] }
def k8m11 : Method := { name := "isLatin1", desc := "()Z", sig := { parameters := [], returnType := some .boolean }, accessFlags := 0, code := some k8c11 }
def k8c12 : Code := { maxStack := 3, maxLocals := 2, code := jdk_42_method_155_code, exceptionTable := #[], attributes := #[] }
def k8m12 : Method := { name := "checkIndex", desc := "(II)V", sig := { parameters := [.int, .int], returnType := none }, accessFlags := 8, code := some k8c12 }
def k8c13 : Code := { maxStack := 4, maxLocals := 3, code := jdk_42_method_158_code, exceptionTable := #[], attributes := #[] }
def k8m13 : Method := { name := "checkBoundsBeginEnd", desc := "(III)V", sig := { parameters := [.int, .int, .int], returnType := none }, accessFlags := 8, code := some k8c13 }
/-- java/lang/String -/
def k8 : Class := { plain "java/lang/String" (some 0) with
  accessFlags := 49
  interfaces := #[3, 4, 5, 6, 7]
  cf := some (fileOf pool8 10 #[.nestMembers #[1103]] #[{ accessFlags := 1, nameIndex := 5, descriptorIndex := 6, attributes := #[] }, { accessFlags := 1, nameIndex := 5, descriptorIndex := 1010, attributes := #[] }, { accessFlags := 1, nameIndex := 507, descriptorIndex := 334, attributes := #[] }, { accessFlags := 1, nameIndex := 497, descriptorIndex := 427, attributes := #[] }, { accessFlags := 1, nameIndex := 643, descriptorIndex := 765, attributes := #[] }, { accessFlags := 1, nameIndex := 643, descriptorIndex := 636, attributes := #[] }, { accessFlags := 1, nameIndex := 683, descriptorIndex := 892, attributes := #[] }, { accessFlags := 1, nameIndex := 683, descriptorIndex := 684, attributes := #[] }, { accessFlags := 2, nameIndex := 5, descriptorIndex := 29, attributes := #[] }, { accessFlags := 0, nameIndex := 5, descriptorIndex := 211, attributes := #[] }, { accessFlags := 0, nameIndex := 17, descriptorIndex := 337, attributes := #[] }, { accessFlags := 0, nameIndex := 494, descriptorIndex := 142, attributes := #[] }, { accessFlags := 8, nameIndex := 501, descriptorIndex := 391, attributes := #[] }, { accessFlags := 8, nameIndex := 523, descriptorIndex := 524, attributes := #[] }] 49 2 #[1106, 1108, 575, 1110, 1112] #[{ accessFlags := 18, nameIndex := 13, descriptorIndex := 14, attributes := #[] }, { accessFlags := 18, nameIndex := 17, descriptorIndex := 18, attributes := #[] }, { accessFlags := 2, nameIndex := 21, descriptorIndex := 22, attributes := #[] }, { accessFlags := 2, nameIndex := 25, descriptorIndex := 26, attributes := #[] }, { accessFlags := 26, nameIndex := 1116, descriptorIndex := 1117, attributes := #[] }, { accessFlags := 24, nameIndex := 40, descriptorIndex := 26, attributes := #[] }, { accessFlags := 26, nameIndex := 1101, descriptorIndex := 1102, attributes := #[] }, { accessFlags := 26, nameIndex := 1121, descriptorIndex := 1122, attributes := #[] }, { accessFlags := 25, nameIndex := 599, descriptorIndex := 600, attributes := #[] }, { accessFlags := 24, nameIndex := 1125, descriptorIndex := 18, attributes := #[] }, { accessFlags := 24, nameIndex := 1127, descriptorIndex := 18, attributes := #[] }])
  fields := #[{ name := "value", type := (.array .byte), accessFlags := 18, slot := 0, constantValue := 0 }, { name := "coder", type := .byte, accessFlags := 18, slot := 1, constantValue := 0 }, { name := "hash", type := .int, accessFlags := 2, slot := 2, constantValue := 0 }, { name := "hashIsZero", type := .boolean, accessFlags := 2, slot := 3, constantValue := 0 }, { name := "serialVersionUID", type := .long, accessFlags := 26, slot := 0, constantValue := 0 }, { name := "COMPACT_STRINGS", type := .boolean, accessFlags := 24, slot := 1, constantValue := 0 }, { name := "serialPersistentFields", type := (.array (.object "java/io/ObjectStreamField")), accessFlags := 26, slot := 2, constantValue := 0 }, { name := "REPL", type := .char, accessFlags := 26, slot := 3, constantValue := 0 }, { name := "CASE_INSENSITIVE_ORDER", type := (.object "java/util/Comparator"), accessFlags := 25, slot := 4, constantValue := 0 }, { name := "LATIN1", type := .byte, accessFlags := 24, slot := 5, constantValue := 0 }, { name := "UTF16", type := .byte, accessFlags := 24, slot := 6, constantValue := 0 }]
  methods := #[k8m0, k8m1, k8m2, k8m3, k8m4, k8m5, k8m6, k8m7, k8m8, k8m9, k8m10, k8m11, k8m12, k8m13]
  instanceTypes := #[(.array .byte), .byte, .int, .boolean]
  staticTypes := #[.long, .boolean, (.array (.object "java/io/ObjectStreamField")), .char, (.object "java/util/Comparator"), .byte, .byte]
  resolved := Array.replicate 1451 none
  statics := some 0 }

def pool9 : Array CpInfo := pool [(6, .class_ 8), (1, u "java/lang/Object"), (0, u "<init>"), (0, u "()V"), (1, .class_ 14), (1, u "java/lang/StringUTF16"), (31, u "$assertionsDisabled"), (0, u "Z"), (13, u "HI_BYTE_SHIFT"), (0, u "I"), (2, u "LO_BYTE_SHIFT"), (49, .methodref 12 116), (0, .nameAndType 117 118), (0, u "compress"), (0, u "([CI[BII)I"), (3, u "([CII)[B"), (138, u "coderFromArrayLen"), (0, u "([BI)B"), (106, .class_ 371), (1, u "java/lang/StringUTF16$LinesSpliterator"), (58, u "MAX_LENGTH"), (196, .class_ 628), (0, u "java/lang/StringUTF16$CodePointsSpliterator"), (0, .class_ 630), (0, u "java/lang/StringUTF16$CharsSpliterator")] 4

def k9m0 : Method := { name := "<init>", desc := "()V", sig := { parameters := [], returnType := none }, accessFlags := 0, code := none }
def k9c1 : Code := { maxStack := 2, maxLocals := 2, code := jdk_52_method_15_code, exceptionTable := #[], attributes := #[] }
def k9m1 : Method := { name := "coderFromArrayLen", desc := "([BI)B", sig := { parameters := [(.array .byte), .int], returnType := some .byte }, accessFlags := 8, code := some k9c1 }
def k9c2 : Code := { maxStack := 5, maxLocals := 6, code := jdk_52_method_16_code, exceptionTable := #[], attributes := #[] }
def k9m2 : Method := { name := "compress", desc := "([CII)[B", sig := { parameters := [(.array .char), .int, .int], returnType := some (.array .byte) }, accessFlags := 9, code := some k9c2 }
def k9c3 : Code := { maxStack := 3, maxLocals := 7, code := jdk_52_method_21_code, exceptionTable := #[], attributes := #[] }
def k9m3 : Method := { name := "compress", desc := "([CI[BII)I", sig := { parameters := [(.array .char), .int, (.array .byte), .int, .int], returnType := some .int }, accessFlags := 9, code := some k9c3 }
/-- java/lang/StringUTF16 -/
def k9 : Class := { plain "java/lang/StringUTF16" (some 0) with
  accessFlags := 48
  interfaces := #[]
  cf := some (fileOf pool9 12 #[.nestMembers #[627, 629, 369]] #[{ accessFlags := 0, nameIndex := 9, descriptorIndex := 10, attributes := #[] }, { accessFlags := 8, nameIndex := 261, descriptorIndex := 262, attributes := #[] }, { accessFlags := 9, nameIndex := 117, descriptorIndex := 122, attributes := #[] }, { accessFlags := 9, nameIndex := 117, descriptorIndex := 118, attributes := #[] }] 48 6 #[] #[{ accessFlags := 26, nameIndex := 61, descriptorIndex := 62, attributes := #[] }, { accessFlags := 26, nameIndex := 65, descriptorIndex := 62, attributes := #[] }, { accessFlags := 24, nameIndex := 430, descriptorIndex := 62, attributes := #[] }, { accessFlags := 4120, nameIndex := 46, descriptorIndex := 47, attributes := #[] }])
  fields := #[{ name := "HI_BYTE_SHIFT", type := .int, accessFlags := 26, slot := 0, constantValue := 0 }, { name := "LO_BYTE_SHIFT", type := .int, accessFlags := 26, slot := 1, constantValue := 0 }, { name := "MAX_LENGTH", type := .int, accessFlags := 24, slot := 2, constantValue := 0 }, { name := "$assertionsDisabled", type := .boolean, accessFlags := 4120, slot := 3, constantValue := 0 }]
  methods := #[k9m0, k9m1, k9m2, k9m3]
  instanceTypes := #[]
  staticTypes := #[.int, .int, .int, .boolean]
  resolved := Array.replicate 635 none
  statics := none }

def pool10 : Array CpInfo := pool [(2, .class_ 4), (1, u "java/util/Map"), (31, .class_ 37), (0, u "java/util/Map$Entry"), (55, .class_ 94), (0, u "java/lang/Object")] 168

/-- java/util/Map -/
def k10 : Class := { plain "java/util/Map" (some 0) with
  accessFlags := 1537
  interfaces := #[]
  cf := some (fileOf pool10 2 #[.nestMembers #[36]] #[] 1537 93 #[] #[])
  fields := #[]
  methods := #[]
  instanceTypes := #[]
  staticTypes := #[]
  resolved := Array.replicate 263 none
  statics := none }

def pool11 : Array CpInfo := pool [(1, .methodref 2 3), (0, .class_ 4), (0, .nameAndType 5 6), (0, u "java/lang/Object"), (0, u "<init>"), (0, u "()V"), (1, .class_ 10), (1, u "java/util/AbstractMap"), (42, .class_ 54), (0, u "java/util/Map"), (9, u "keySet"), (0, u "Ljava/util/Set;"), (0, .class_ 67), (0, u "java/util/AbstractMap$1"), (5, u "values"), (0, u "Ljava/util/Collection;"), (0, .class_ 76), (0, u "java/util/AbstractMap$2"), (104, .class_ 182), (0, u "java/util/AbstractMap$ViewCollection"), (0, .class_ 184), (0, u "java/util/AbstractMap$SimpleImmutableEntry"), (0, .class_ 186), (0, u "java/util/AbstractMap$SimpleEntry"), (0, .class_ 188), (0, u "java/util/AbstractMap$2$1"), (0, .class_ 190), (0, u "java/util/AbstractMap$1$1")] 5

def k11c0 : Code := { maxStack := 1, maxLocals := 1, code := jdk_71_method_1_code, exceptionTable := #[], attributes := #[] }
def k11m0 : Method := { name := "<init>", desc := "()V", sig := { parameters := [], returnType := none }, accessFlags := 4, code := some k11c0 }
/-- java/util/AbstractMap -/
def k11 : Class := { plain "java/util/AbstractMap" (some 0) with
  accessFlags := 1057
  interfaces := #[10]
  cf := some (fileOf pool11 8 #[.nestMembers #[181, 183, 185, 75, 187, 66, 189]] #[{ accessFlags := 4, nameIndex := 5, descriptorIndex := 6, attributes := #[] }] 1057 2 #[53] #[{ accessFlags := 128, nameIndex := 64, descriptorIndex := 65, attributes := #[] }, { accessFlags := 128, nameIndex := 73, descriptorIndex := 74, attributes := #[] }])
  fields := #[{ name := "keySet", type := (.object "java/util/Set"), accessFlags := 128, slot := 0, constantValue := 0 }, { name := "values", type := (.object "java/util/Collection"), accessFlags := 128, slot := 1, constantValue := 0 }]
  methods := #[k11m0]
  instanceTypes := #[(.object "java/util/Set"), (.object "java/util/Collection")]
  staticTypes := #[]
  resolved := Array.replicate 196 none
  statics := none }

def pool12 : Array CpInfo := pool [(1, .class_ 2), (0, u "java/lang/Cloneable"), (0, .class_ 4), (0, u "java/lang/Object")] 2

/-- java/lang/Cloneable -/
def k12 : Class := { plain "java/lang/Cloneable" (some 0) with
  accessFlags := 1537
  interfaces := #[]
  cf := some (fileOf pool12 1 #[] #[] 1537 3 #[] #[])
  fields := #[]
  methods := #[]
  instanceTypes := #[]
  staticTypes := #[]
  resolved := Array.replicate 7 none
  statics := none }

def pool13 : Array CpInfo := pool [(40, .class_ 41), (0, u "java/util/HashMap"), (1, .methodref 44 45), (0, .class_ 46), (0, .nameAndType 47 48), (0, u "java/util/AbstractMap"), (0, u "<init>"), (0, u "()V"), (32, .fieldref 40 82), (0, .nameAndType 83 84), (0, u "loadFactor"), (0, u "F"), (5, u "threshold"), (0, u "I"), (0, .float 1061158912), (8, .class_ 103), (1, u "java/util/Map"), (0, u "size"), (2, u "table"), (0, u "[Ljava/util/HashMap$Node;"), (14, u "entrySet"), (39, .class_ 165), (1, u "java/util/HashMap$Node"), (14, .class_ 181), (0, u "java/util/HashMap$TreeNode"), (22, u "modCount"), (37, u "Ljava/util/Set;"), (0, .class_ 244), (0, u "java/util/HashMap$KeySet"), (18, .class_ 264), (0, u "java/util/HashMap$Values"), (3, .class_ 269), (0, u "java/util/HashMap$EntrySet"), (76, .class_ 348), (1, u "java/util/HashMap$UnsafeHolder"), (43, .class_ 393), (0, u "java/lang/Cloneable"), (0, .class_ 395), (0, u "java/io/Serializable"), (0, u "serialVersionUID"), (0, u "J"), (3, u "DEFAULT_INITIAL_CAPACITY"), (1, u "MAXIMUM_CAPACITY"), (0, u "DEFAULT_LOAD_FACTOR"), (0, u "TREEIFY_THRESHOLD"), (1, u "UNTREEIFY_THRESHOLD"), (1, u "MIN_TREEIFY_CAPACITY"), (186, .class_ 597), (0, u "java/util/HashMap$EntrySpliterator"), (0, .class_ 599), (0, u "java/util/HashMap$ValueSpliterator"), (0, .class_ 601), (0, u "java/util/HashMap$KeySpliterator"), (0, .class_ 603), (0, u "java/util/HashMap$HashMapSpliterator"), (0, .class_ 605), (0, u "java/util/HashMap$EntryIterator"), (0, .class_ 607), (0, u "java/util/HashMap$ValueIterator"), (0, .class_ 609), (0, u "java/util/HashMap$KeyIterator"), (0, .class_ 611), (0, u "java/util/HashMap$HashIterator")] 17

def k13c0 : Code := { maxStack := 2, maxLocals := 1, code := jdk_69_method_7_code, exceptionTable := #[], attributes := #[] }
def k13m0 : Method := { name := "<init>", desc := "()V", sig := { parameters := [], returnType := none }, accessFlags := 1, code := some k13c0 }
/-- java/util/HashMap -/
def k13 : Class := { plain "java/util/HashMap" (some 11) with
  accessFlags := 33
  interfaces := #[10, 12, 3]
  cf := some (fileOf pool13 40 #[.nestMembers #[180, 596, 598, 600, 602, 604, 606, 608, 610, 346, 268, 263, 243, 163]] #[{ accessFlags := 1, nameIndex := 47, descriptorIndex := 48, attributes := #[] }] 33 44 #[101, 392, 394] #[{ accessFlags := 26, nameIndex := 396, descriptorIndex := 397, attributes := #[] }, { accessFlags := 24, nameIndex := 401, descriptorIndex := 91, attributes := #[] }, { accessFlags := 24, nameIndex := 403, descriptorIndex := 91, attributes := #[] }, { accessFlags := 24, nameIndex := 404, descriptorIndex := 84, attributes := #[] }, { accessFlags := 24, nameIndex := 405, descriptorIndex := 91, attributes := #[] }, { accessFlags := 24, nameIndex := 407, descriptorIndex := 91, attributes := #[] }, { accessFlags := 24, nameIndex := 409, descriptorIndex := 91, attributes := #[] }, { accessFlags := 128, nameIndex := 107, descriptorIndex := 108, attributes := #[] }, { accessFlags := 128, nameIndex := 123, descriptorIndex := 242, attributes := #[] }, { accessFlags := 128, nameIndex := 104, descriptorIndex := 91, attributes := #[] }, { accessFlags := 128, nameIndex := 204, descriptorIndex := 91, attributes := #[] }, { accessFlags := 0, nameIndex := 90, descriptorIndex := 91, attributes := #[] }, { accessFlags := 16, nameIndex := 83, descriptorIndex := 84, attributes := #[] }])
  fields := #[{ name := "serialVersionUID", type := .long, accessFlags := 26, slot := 0, constantValue := 0 }, { name := "DEFAULT_INITIAL_CAPACITY", type := .int, accessFlags := 24, slot := 1, constantValue := 0 }, { name := "MAXIMUM_CAPACITY", type := .int, accessFlags := 24, slot := 2, constantValue := 0 }, { name := "DEFAULT_LOAD_FACTOR", type := .float, accessFlags := 24, slot := 3, constantValue := 0 }, { name := "TREEIFY_THRESHOLD", type := .int, accessFlags := 24, slot := 4, constantValue := 0 }, { name := "UNTREEIFY_THRESHOLD", type := .int, accessFlags := 24, slot := 5, constantValue := 0 }, { name := "MIN_TREEIFY_CAPACITY", type := .int, accessFlags := 24, slot := 6, constantValue := 0 }, { name := "table", type := (.array (.object "java/util/HashMap$Node")), accessFlags := 128, slot := 2, constantValue := 0 }, { name := "entrySet", type := (.object "java/util/Set"), accessFlags := 128, slot := 3, constantValue := 0 }, { name := "size", type := .int, accessFlags := 128, slot := 4, constantValue := 0 }, { name := "modCount", type := .int, accessFlags := 128, slot := 5, constantValue := 0 }, { name := "threshold", type := .int, accessFlags := 0, slot := 6, constantValue := 0 }, { name := "loadFactor", type := .float, accessFlags := 16, slot := 7, constantValue := 0 }]
  methods := #[k13m0]
  instanceTypes := #[(.object "java/util/Set"), (.object "java/util/Collection"), (.array (.object "java/util/HashMap$Node")), (.object "java/util/Set"), .int, .int, .int, .float]
  staticTypes := #[.long, .int, .int, .float, .int, .int, .int]
  resolved := Array.replicate 629 none
  mirror := some 2
  statics := none }

def pool14 : Array CpInfo := pool [(2, .class_ 4), (1, u "java/lang/Object"), (0, u "<init>"), (0, u "()V"), (12, .class_ 20), (0, u "java/util/Collections"), (63, u "r"), (0, u "Ljava/util/Random;"), (77, .nameAndType 164 165), (0, u "getClass"), (0, u "()Ljava/lang/Class;"), (0, .class_ 167), (0, u "java/util/Collections$UnmodifiableCollection"), (6, .class_ 175), (0, u "java/util/Collections$UnmodifiableSequencedCollection"), (6, .class_ 183), (0, u "java/util/Collections$UnmodifiableSet"), (6, .class_ 191), (0, u "java/util/Collections$UnmodifiableSequencedSet"), (6, .class_ 199), (0, u "java/util/Collections$UnmodifiableSortedSet"), (6, .class_ 207), (0, u "java/util/Collections$UnmodifiableNavigableSet"), (4, .class_ 213), (0, u "java/util/Collections$UnmodifiableList"), (1, .class_ 216), (0, u "java/util/Collections$UnmodifiableRandomAccessList"), (3, .interfaceMethodref 221 163), (0, .class_ 222), (0, u "java/util/Map"), (0, .class_ 224), (0, u "java/util/Collections$UnmodifiableMap"), (0, .methodref 223 226), (0, .nameAndType 5 227), (0, u "(Ljava/util/Map;)V"), (3, .class_ 232), (0, u "java/util/Collections$UnmodifiableSequencedMap"), (4, .class_ 238), (0, u "java/util/Collections$UnmodifiableSortedMap"), (6, .class_ 246), (0, u "java/util/Collections$UnmodifiableNavigableMap"), (3, .class_ 251), (0, u "java/util/Collections$SynchronizedCollection"), (4, .class_ 257), (0, u "java/util/Collections$SynchronizedSet"), (4, .class_ 263), (0, u "java/util/Collections$SynchronizedSortedSet"), (1, .class_ 266), (0, u "java/util/Collections$SynchronizedNavigableSet"), (1, .class_ 269), (0, u "java/util/Collections$SynchronizedRandomAccessList"), (1, .class_ 272), (0, u "java/util/Collections$SynchronizedList"), (5, .class_ 279), (0, u "java/util/Collections$SynchronizedMap"), (1, .class_ 282), (0, u "java/util/Collections$SynchronizedSortedMap"), (1, .class_ 285), (0, u "java/util/Collections$SynchronizedNavigableMap"), (1, .class_ 288), (0, u "java/util/Collections$CheckedCollection"), (11, .class_ 301), (0, u "java/util/Collections$CheckedQueue"), (3, .class_ 306), (0, u "java/util/Collections$CheckedSet"), (3, .class_ 311), (0, u "java/util/Collections$CheckedSortedSet"), (3, .class_ 316), (0, u "java/util/Collections$CheckedNavigableSet"), (3, .class_ 321), (0, u "java/util/Collections$CheckedRandomAccessList"), (3, .class_ 326), (0, u "java/util/Collections$CheckedList"), (1, .class_ 329), (0, u "java/util/Collections$CheckedMap"), (3, .class_ 334), (0, u "java/util/Collections$CheckedSortedMap"), (3, .class_ 339), (0, u "java/util/Collections$CheckedNavigableMap"), (4, .class_ 346), (1, u "java/util/Collections$EmptyIterator"), (3, .class_ 352), (1, u "java/util/Collections$EmptyListIterator"), (2, .class_ 357), (1, u "java/util/Collections$EmptyEnumeration"), (4, u "EMPTY_SET"), (0, u "Ljava/util/Set;"), (6, u "EMPTY_LIST"), (0, u "Ljava/util/List;"), (2, u "EMPTY_MAP"), (0, u "Ljava/util/Map;"), (4, .class_ 381), (0, u "java/util/Collections$SingletonSet"), (2, .class_ 385), (0, u "java/util/Collections$1"), (1, .class_ 388), (0, u "java/util/Collections$2"), (1, .class_ 391), (0, u "java/util/Collections$SingletonList"), (1, .class_ 394), (0, u "java/util/Collections$SingletonMap"), (22, .class_ 418), (0, u "java/util/Collections$CopiesList"), (4, .class_ 425), (1, u "java/util/Collections$ReverseComparator"), (8, .class_ 435), (0, u "java/util/Collections$ReverseComparator2"), (6, .class_ 443), (0, u "java/util/Collections$3"), (25, .class_ 470), (0, u "java/util/Collections$SetFromMap"), (2, .class_ 474), (0, u "java/util/Collections$SequencedSetFromMap"), (3, .class_ 479), (0, u "java/util/Collections$AsLIFOQueue"), (11, .class_ 492), (0, u "java/util/Collections$EmptySet"), (1, .class_ 495), (0, u "java/util/Collections$EmptyList"), (1, .class_ 498), (0, u "java/util/Collections$EmptyMap"), (1, u "BINARYSEARCH_THRESHOLD"), (0, u "I"), (2, u "REVERSE_THRESHOLD"), (1, u "SHUFFLE_THRESHOLD"), (1, u "FILL_THRESHOLD"), (1, u "ROTATE_THRESHOLD"), (1, u "COPY_THRESHOLD"), (1, u "REPLACEALL_THRESHOLD"), (1, u "INDEXOFSUBLIST_THRESHOLD"), (132, u "unmodifiableMap"), (0, u "(Ljava/util/Map;)Ljava/util/Map;"), (199, .class_ 851), (0, u "java/util/Collections$CheckedMap$CheckedEntrySet"), (0, .class_ 853), (0, u "java/util/Collections$CheckedMap$CheckedEntrySet$CheckedEntry"), (0, .class_ 855), (0, u "java/util/Collections$CheckedMap$CheckedEntrySet$1"), (0, .class_ 857), (0, u "java/util/Collections$CheckedList$1"), (0, .class_ 859), (0, u "java/util/Collections$CheckedCollection$1"), (0, .class_ 861), (0, u "java/util/Collections$UnmodifiableNavigableMap$EmptyNavigableMap"), (0, .class_ 863), (0, u "java/util/Collections$UnmodifiableMap$UnmodifiableEntrySet"), (0, .class_ 865), (0, u "java/util/Collections$UnmodifiableMap$UnmodifiableEntrySet$UnmodifiableEntry"), (0, .class_ 867), (0, u "java/util/Collections$UnmodifiableMap$UnmodifiableEntrySet$UnmodifiableEntrySetSpliterator"), (0, .class_ 869), (0, u "java/util/Collections$UnmodifiableMap$UnmodifiableEntrySet$1"), (0, .class_ 871), (0, u "java/util/Collections$UnmodifiableList$1"), (0, .class_ 873), (0, u "java/util/Collections$UnmodifiableNavigableSet$EmptyNavigableSet"), (0, .class_ 875), (0, u "java/util/Collections$UnmodifiableCollection$1")] 57

def k14m0 : Method := { name := "<init>", desc := "()V", sig := { parameters := [], returnType := none }, accessFlags := 2, code := none }
def k14c1 : Code := { maxStack := 3, maxLocals := 1, code := jdk_79_method_36_code, exceptionTable := #[], attributes := #[] }
def k14m1 : Method := { name := "unmodifiableMap", desc := "(Ljava/util/Map;)Ljava/util/Map;", sig := { parameters := [(.object "java/util/Map")], returnType := some (.object "java/util/Map") }, accessFlags := 9, code := some k14c1 }
/-- java/util/Collections -/
def k14 : Class := { plain "java/util/Collections" (some 0) with
  accessFlags := 33
  interfaces := #[]
  cf := some (fileOf pool14 19 #[.nestMembers #[478, 473, 469, 434, 423, 417, 393, 390, 380, 497, 494, 491, 355, 350, 344, 338, 333, 328, 850, 852, 854, 320, 325, 856, 315, 310, 305, 300, 287, 858, 284, 281, 278, 268, 271, 265, 262, 256, 250, 245, 860, 237, 231, 223, 862, 864, 866, 868, 215, 212, 870, 206, 872, 198, 190, 182, 174, 166, 874, 442, 387, 384]] #[{ accessFlags := 2, nameIndex := 5, descriptorIndex := 6, attributes := #[] }, { accessFlags := 9, nameIndex := 649, descriptorIndex := 650, attributes := #[] }] 33 2 #[] #[{ accessFlags := 26, nameIndex := 500, descriptorIndex := 501, attributes := #[] }, { accessFlags := 26, nameIndex := 504, descriptorIndex := 501, attributes := #[] }, { accessFlags := 26, nameIndex := 506, descriptorIndex := 501, attributes := #[] }, { accessFlags := 26, nameIndex := 508, descriptorIndex := 501, attributes := #[] }, { accessFlags := 26, nameIndex := 510, descriptorIndex := 501, attributes := #[] }, { accessFlags := 26, nameIndex := 512, descriptorIndex := 501, attributes := #[] }, { accessFlags := 26, nameIndex := 514, descriptorIndex := 501, attributes := #[] }, { accessFlags := 26, nameIndex := 516, descriptorIndex := 501, attributes := #[] }, { accessFlags := 10, nameIndex := 84, descriptorIndex := 85, attributes := #[] }, { accessFlags := 25, nameIndex := 362, descriptorIndex := 363, attributes := #[] }, { accessFlags := 25, nameIndex := 370, descriptorIndex := 371, attributes := #[] }, { accessFlags := 25, nameIndex := 374, descriptorIndex := 375, attributes := #[] }])
  fields := #[{ name := "BINARYSEARCH_THRESHOLD", type := .int, accessFlags := 26, slot := 0, constantValue := 0 }, { name := "REVERSE_THRESHOLD", type := .int, accessFlags := 26, slot := 1, constantValue := 0 }, { name := "SHUFFLE_THRESHOLD", type := .int, accessFlags := 26, slot := 2, constantValue := 0 }, { name := "FILL_THRESHOLD", type := .int, accessFlags := 26, slot := 3, constantValue := 0 }, { name := "ROTATE_THRESHOLD", type := .int, accessFlags := 26, slot := 4, constantValue := 0 }, { name := "COPY_THRESHOLD", type := .int, accessFlags := 26, slot := 5, constantValue := 0 }, { name := "REPLACEALL_THRESHOLD", type := .int, accessFlags := 26, slot := 6, constantValue := 0 }, { name := "INDEXOFSUBLIST_THRESHOLD", type := .int, accessFlags := 26, slot := 7, constantValue := 0 }, { name := "r", type := (.object "java/util/Random"), accessFlags := 10, slot := 8, constantValue := 0 }, { name := "EMPTY_SET", type := (.object "java/util/Set"), accessFlags := 25, slot := 9, constantValue := 0 }, { name := "EMPTY_LIST", type := (.object "java/util/List"), accessFlags := 25, slot := 10, constantValue := 0 }, { name := "EMPTY_MAP", type := (.object "java/util/Map"), accessFlags := 25, slot := 11, constantValue := 0 }]
  methods := #[k14m0, k14m1]
  instanceTypes := #[]
  staticTypes := #[.int, .int, .int, .int, .int, .int, .int, .int, (.object "java/util/Random"), (.object "java/util/Set"), (.object "java/util/List"), (.object "java/util/Map")]
  resolved := Array.replicate 933 none
  statics := none }

def pool15 : Array CpInfo := pool [(1, .methodref 2 3), (0, .class_ 4), (0, .nameAndType 5 6), (0, u "java/lang/Object"), (0, u "<init>"), (0, u "()V"), (3, .fieldref 11 12), (0, .class_ 13), (0, .nameAndType 14 15), (0, u "java/util/Collections$UnmodifiableMap"), (0, u "m"), (0, u "Ljava/util/Map;"), (1, .class_ 19), (1, u "java/util/Map"), (22, u "keySet"), (0, u "Ljava/util/Set;"), (4, .class_ 50), (1, u "java/util/Collections"), (4, u "entrySet"), (9, u "values"), (0, u "Ljava/util/Collection;"), (25, .class_ 93), (0, u "java/io/Serializable"), (0, u "serialVersionUID"), (0, u "J"), (8, u "(Ljava/util/Map;)V")] 70

def k15c0 : Code := { maxStack := 2, maxLocals := 2, code := jdk_2500_method_1_code, exceptionTable := #[], attributes := #[] }
def k15m0 : Method := { name := "<init>", desc := "(Ljava/util/Map;)V", sig := { parameters := [(.object "java/util/Map")], returnType := none }, accessFlags := 0, code := some k15c0 }
/-- java/util/Collections$UnmodifiableMap -/
def k15 : Class := { plain "java/util/Collections$UnmodifiableMap" (some 0) with
  accessFlags := 32
  interfaces := #[10, 3]
  cf := some (fileOf pool15 11 #[.nestHost 48] #[{ accessFlags := 0, nameIndex := 5, descriptorIndex := 104, attributes := #[] }] 32 2 #[17, 92] #[{ accessFlags := 26, nameIndex := 94, descriptorIndex := 95, attributes := #[] }, { accessFlags := 16, nameIndex := 14, descriptorIndex := 15, attributes := #[] }, { accessFlags := 130, nameIndex := 42, descriptorIndex := 43, attributes := #[] }, { accessFlags := 130, nameIndex := 55, descriptorIndex := 43, attributes := #[] }, { accessFlags := 130, nameIndex := 65, descriptorIndex := 66, attributes := #[] }])
  fields := #[{ name := "serialVersionUID", type := .long, accessFlags := 26, slot := 0, constantValue := 0 }, { name := "m", type := (.object "java/util/Map"), accessFlags := 16, slot := 0, constantValue := 0 }, { name := "keySet", type := (.object "java/util/Set"), accessFlags := 130, slot := 1, constantValue := 0 }, { name := "entrySet", type := (.object "java/util/Set"), accessFlags := 130, slot := 2, constantValue := 0 }, { name := "values", type := (.object "java/util/Collection"), accessFlags := 130, slot := 3, constantValue := 0 }]
  methods := #[k15m0]
  instanceTypes := #[(.object "java/util/Map"), (.object "java/util/Set"), (.object "java/util/Set"), (.object "java/util/Collection")]
  staticTypes := #[.long]
  resolved := Array.replicate 175 none
  mirror := some 3
  statics := none }

def pool16 : Array CpInfo := pool [(1, .class_ 2), (0, u "java/lang/String"), (1, .class_ 6), (1, u "java/lang/Object"), (0, u "<init>"), (0, u "()V"), (0, .methodref 1 10), (0, .nameAndType 11 12), (0, u "checkIndex"), (0, u "(II)V"), (1, .class_ 16), (1, u "java/lang/StringLatin1"), (21, .methodref 39 40), (0, .class_ 41), (0, .nameAndType 42 43), (0, u "java/lang/Math"), (0, u "min"), (0, u "(II)I"), (9, u "([BI)C"), (34, .methodref 14 89), (0, .nameAndType 90 91), (0, u "canEncode"), (0, u "(I)Z"), (20, .methodref 1 113), (0, .nameAndType 7 114), (0, u "([BB)V"), (6, u "$assertionsDisabled"), (0, u "Z"), (8, .class_ 133), (1, u "java/util/Arrays"), (17, .string 152), (0, u ""), (43, u "newString"), (0, u "([BII)Ljava/lang/String;"), (23, .class_ 223), (1, u "java/lang/StringLatin1$LinesSpliterator"), (8, .methodref 131 233), (0, .nameAndType 234 235), (0, u "copyOfRange"), (0, u "([BII)[B"), (16, u "charAt"), (8, u "([BII)I"), (47, u "lastIndexOf"), (80, .class_ 391), (0, u "java/lang/StringLatin1$CharsSpliterator")] 3

def k16m0 : Method := { name := "<init>", desc := "()V", sig := { parameters := [], returnType := none }, accessFlags := 0, code := none }
def k16c1 : Code := { maxStack := 2, maxLocals := 2, code := jdk_43_method_2_code, exceptionTable := #[], attributes := #[] }
def k16m1 : Method := { name := "charAt", desc := "([BI)C", sig := { parameters := [(.array .byte), .int], returnType := some .char }, accessFlags := 9, code := some k16c1 }
def k16c2 : Code := { maxStack := 2, maxLocals := 1, code := jdk_43_method_4_code, exceptionTable := #[], attributes := #[] }
def k16m2 : Method := { name := "canEncode", desc := "(I)Z", sig := { parameters := [.int], returnType := some .boolean }, accessFlags := 9, code := some k16c2 }
def k16c3 : Code := { maxStack := 3, maxLocals := 4, code := jdk_43_method_27_code, exceptionTable := #[], attributes := #[] }
def k16m3 : Method := { name := "lastIndexOf", desc := "([BII)I", sig := { parameters := [(.array .byte), .int, .int], returnType := some .int }, accessFlags := 9, code := some k16c3 }
def k16c4 : Code := { maxStack := 6, maxLocals := 3, code := jdk_43_method_47_code, exceptionTable := #[], attributes := #[] }
def k16m4 : Method := { name := "newString", desc := "([BII)Ljava/lang/String;", sig := { parameters := [(.array .byte), .int, .int], returnType := some (.object "java/lang/String") }, accessFlags := 9, code := some k16c4 }
/-- java/lang/StringLatin1 -/
def k16 : Class := { plain "java/lang/StringLatin1" (some 0) with
  accessFlags := 48
  interfaces := #[]
  cf := some (fileOf pool16 14 #[.nestMembers #[390, 221]] #[{ accessFlags := 0, nameIndex := 7, descriptorIndex := 8, attributes := #[] }, { accessFlags := 9, nameIndex := 252, descriptorIndex := 53, attributes := #[] }, { accessFlags := 9, nameIndex := 90, descriptorIndex := 91, attributes := #[] }, { accessFlags := 9, nameIndex := 309, descriptorIndex := 261, attributes := #[] }, { accessFlags := 9, nameIndex := 196, descriptorIndex := 197, attributes := #[] }] 48 4 #[] #[{ accessFlags := 4120, nameIndex := 121, descriptorIndex := 122, attributes := #[] }])
  fields := #[{ name := "$assertionsDisabled", type := .boolean, accessFlags := 4120, slot := 0, constantValue := 0 }]
  methods := #[k16m0, k16m1, k16m2, k16m3, k16m4]
  instanceTypes := #[]
  staticTypes := #[.boolean]
  resolved := Array.replicate 395 none
  statics := none }

def pool17 : Array CpInfo := pool [(1, .class_ 2), (0, u "java/lang/Math"), (1, .class_ 6), (1, u "java/lang/Object"), (0, u "<init>"), (0, u "()V"), (89, .class_ 100), (1, u "java/lang/Math$RandomNumberGeneratorHolder"), (71, u "negativeZeroFloatBits"), (0, u "J"), (2, u "negativeZeroDoubleBits"), (24, u "min"), (43, u "$assertionsDisabled"), (0, u "Z"), (88, u "(II)I"), (2, u "twoToTheDoubleScaleDown"), (0, u "D"), (4, u "twoToTheDoubleScaleUp"), (9, u "E"), (3, u "PI"), (2, u "TAU"), (2, u "DEGREES_TO_RADIANS"), (0, u "RADIANS_TO_DEGREES")] 94

def k17m0 : Method := { name := "<init>", desc := "()V", sig := { parameters := [], returnType := none }, accessFlags := 2, code := none }
def k17c1 : Code := { maxStack := 2, maxLocals := 2, code := jdk_29_method_69_code, exceptionTable := #[], attributes := #[] }
def k17m1 : Method := { name := "min", desc := "(II)I", sig := { parameters := [.int, .int], returnType := some .int }, accessFlags := 9, code := some k17c1 }
/-- java/lang/Math -/
def k17 : Class := { plain "java/lang/Math" (some 0) with
  accessFlags := 49
  interfaces := #[]
  cf := some (fileOf pool17 1 #[.nestMembers #[98]] #[{ accessFlags := 2, nameIndex := 7, descriptorIndex := 8, attributes := #[] }, { accessFlags := 9, nameIndex := 201, descriptorIndex := 335, attributes := #[] }] 49 4 #[] #[{ accessFlags := 25, nameIndex := 354, descriptorIndex := 339, attributes := #[] }, { accessFlags := 25, nameIndex := 358, descriptorIndex := 339, attributes := #[] }, { accessFlags := 25, nameIndex := 361, descriptorIndex := 339, attributes := #[] }, { accessFlags := 26, nameIndex := 364, descriptorIndex := 339, attributes := #[] }, { accessFlags := 26, nameIndex := 365, descriptorIndex := 339, attributes := #[] }, { accessFlags := 26, nameIndex := 172, descriptorIndex := 173, attributes := #[] }, { accessFlags := 26, nameIndex := 176, descriptorIndex := 173, attributes := #[] }, { accessFlags := 8, nameIndex := 344, descriptorIndex := 339, attributes := #[] }, { accessFlags := 8, nameIndex := 338, descriptorIndex := 339, attributes := #[] }, { accessFlags := 4120, nameIndex := 245, descriptorIndex := 246, attributes := #[] }])
  fields := #[{ name := "E", type := .double, accessFlags := 25, slot := 0, constantValue := 0 }, { name := "PI", type := .double, accessFlags := 25, slot := 1, constantValue := 0 }, { name := "TAU", type := .double, accessFlags := 25, slot := 2, constantValue := 0 }, { name := "DEGREES_TO_RADIANS", type := .double, accessFlags := 26, slot := 3, constantValue := 0 }, { name := "RADIANS_TO_DEGREES", type := .double, accessFlags := 26, slot := 4, constantValue := 0 }, { name := "negativeZeroFloatBits", type := .long, accessFlags := 26, slot := 5, constantValue := 0 }, { name := "negativeZeroDoubleBits", type := .long, accessFlags := 26, slot := 6, constantValue := 0 }, { name := "twoToTheDoubleScaleUp", type := .double, accessFlags := 8, slot := 7, constantValue := 0 }, { name := "twoToTheDoubleScaleDown", type := .double, accessFlags := 8, slot := 8, constantValue := 0 }, { name := "$assertionsDisabled", type := .boolean, accessFlags := 4120, slot := 9, constantValue := 0 }]
  methods := #[k17m0, k17m1]
  instanceTypes := #[]
  staticTypes := #[.double, .double, .double, .double, .double, .long, .long, .double, .double, .boolean]
  resolved := Array.replicate 460 none
  statics := none }

def pool18 : Array CpInfo := pool [(2, .class_ 4), (1, u "java/lang/Object"), (0, u "<init>"), (0, u "()V"), (17, .class_ 26), (1, u "jdk/internal/util/Preconditions"), (6, u "checkIndex"), (13, u "checkFromToIndex"), (7, .class_ 56), (0, u "jdk/internal/util/Preconditions$4"), (57, .class_ 115), (0, u "jdk/internal/util/Preconditions$1"), (7, u "SIOOBE_FORMATTER"), (0, u "Ljava/util/function/BiFunction;"), (0, .class_ 126), (0, u "jdk/internal/util/Preconditions$2"), (3, u "AIOOBE_FORMATTER"), (0, .class_ 132), (0, u "jdk/internal/util/Preconditions$3"), (3, u "IOOBE_FORMATTER"), (41, u "(IILjava/util/function/BiFunction;)I"), (4, u "(IIILjava/util/function/BiFunction;)I")] 10

def k18m0 : Method := { name := "<init>", desc := "()V", sig := { parameters := [], returnType := none }, accessFlags := 1, code := none }
def k18c1 : Code := { maxStack := 3, maxLocals := 3, code := jdk_41_method_11_code, exceptionTable := #[], attributes := #[] }
def k18m1 : Method := { name := "checkIndex", desc := "(IILjava/util/function/BiFunction;)I", sig := { parameters := [.int, .int, (.object "java/util/function/BiFunction")], returnType := some .int }, accessFlags := 9, code := some k18c1 }
def k18c2 : Code := { maxStack := 4, maxLocals := 4, code := jdk_41_method_12_code, exceptionTable := #[], attributes := #[] }
def k18m2 : Method := { name := "checkFromToIndex", desc := "(IIILjava/util/function/BiFunction;)I", sig := { parameters := [.int, .int, .int, (.object "java/util/function/BiFunction")], returnType := some .int }, accessFlags := 9, code := some k18c2 }
/-- jdk/internal/util/Preconditions -/
def k18 : Class := { plain "jdk/internal/util/Preconditions" (some 0) with
  accessFlags := 33
  interfaces := #[]
  cf := some (fileOf pool18 24 #[.nestMembers #[55, 131, 125, 114]] #[{ accessFlags := 1, nameIndex := 5, descriptorIndex := 6, attributes := #[] }, { accessFlags := 9, nameIndex := 33, descriptorIndex := 178, attributes := #[] }, { accessFlags := 9, nameIndex := 47, descriptorIndex := 183, attributes := #[] }] 33 2 #[] #[{ accessFlags := 25, nameIndex := 123, descriptorIndex := 124, attributes := #[] }, { accessFlags := 25, nameIndex := 130, descriptorIndex := 124, attributes := #[] }, { accessFlags := 25, nameIndex := 136, descriptorIndex := 124, attributes := #[] }])
  fields := #[{ name := "SIOOBE_FORMATTER", type := (.object "java/util/function/BiFunction"), accessFlags := 25, slot := 0, constantValue := 0 }, { name := "AIOOBE_FORMATTER", type := (.object "java/util/function/BiFunction"), accessFlags := 25, slot := 1, constantValue := 0 }, { name := "IOOBE_FORMATTER", type := (.object "java/util/function/BiFunction"), accessFlags := 25, slot := 2, constantValue := 0 }]
  methods := #[k18m0, k18m1, k18m2]
  instanceTypes := #[]
  staticTypes := #[(.object "java/util/function/BiFunction"), (.object "java/util/function/BiFunction"), (.object "java/util/function/BiFunction")]
  resolved := Array.replicate 194 none
  statics := some 1 }

def pool19 : Array CpInfo := pool [(2, .class_ 4), (1, u "java/lang/Object"), (0, u "<init>"), (0, u "()V"), (7, .class_ 16), (1, u "java/util/Arrays"), (57, .class_ 76), (1, u "java/util/Arrays$NaturalOrder"), (36, .class_ 115), (1, u "java/util/Arrays$LegacyMergeSort"), (1, u "Z"), (21, u "copyOfRange"), (10, .methodref 151 152), (0, .class_ 153), (0, .nameAndType 154 155), (0, u "java/lang/System"), (0, u "arraycopy"), (0, u "(Ljava/lang/Object;ILjava/lang/Object;II)V"), (148, .methodref 305 306), (0, .class_ 307), (0, .nameAndType 308 309), (0, u "java/lang/Math"), (0, u "min"), (0, u "(II)I"), (29, .methodref 14 340), (0, .nameAndType 341 342), (0, u "copyOfRangeByte"), (0, u "([BII)[B"), (0, .methodref 14 344), (0, .nameAndType 345 346), (0, u "checkLength"), (0, u "(II)V"), (28, .class_ 376), (0, u "java/util/Arrays$ArrayList"), (68, u "$assertionsDisabled"), (269, u "MIN_ARRAY_SORT_GRAN"), (0, u "I"), (2, u "INSERTIONSORT_THRESHOLD"), (255, .class_ 976), (0, u "java/util/Arrays$ArrayItr")] 52

def k19m0 : Method := { name := "<init>", desc := "()V", sig := { parameters := [], returnType := none }, accessFlags := 2, code := none }
def k19c1 : Code := { maxStack := 4, maxLocals := 2, code := jdk_65_method_131_code, exceptionTable := #[], attributes := #[] }
def k19m1 : Method := { name := "checkLength", desc := "(II)V", sig := { parameters := [.int, .int], returnType := none }, accessFlags := 10, code := some k19c1 }
def k19c2 : Code := { maxStack := 3, maxLocals := 3, code := jdk_65_method_132_code, exceptionTable := #[], attributes := #[] }
def k19m2 : Method := { name := "copyOfRange", desc := "([BII)[B", sig := { parameters := [(.array .byte), .int, .int], returnType := some (.array .byte) }, accessFlags := 9, code := some k19c2 }
def k19c3 : Code := { maxStack := 6, maxLocals := 5, code := jdk_65_method_133_code, exceptionTable := #[], attributes := #[] }
def k19m3 : Method := { name := "copyOfRangeByte", desc := "([BII)[B", sig := { parameters := [(.array .byte), .int, .int], returnType := some (.array .byte) }, accessFlags := 10, code := some k19c3 }
/-- java/util/Arrays -/
def k19 : Class := { plain "java/util/Arrays" (some 0) with
  accessFlags := 49
  interfaces := #[]
  cf := some (fileOf pool19 14 #[.nestMembers #[975, 375, 113, 74]] #[{ accessFlags := 2, nameIndex := 5, descriptorIndex := 6, attributes := #[] }, { accessFlags := 10, nameIndex := 345, descriptorIndex := 346, attributes := #[] }, { accessFlags := 9, nameIndex := 139, descriptorIndex := 342, attributes := #[] }, { accessFlags := 10, nameIndex := 341, descriptorIndex := 342, attributes := #[] }] 49 2 #[] #[{ accessFlags := 26, nameIndex := 715, descriptorIndex := 716, attributes := #[] }, { accessFlags := 26, nameIndex := 719, descriptorIndex := 716, attributes := #[] }, { accessFlags := 4120, nameIndex := 445, descriptorIndex := 117, attributes := #[] }])
  fields := #[{ name := "MIN_ARRAY_SORT_GRAN", type := .int, accessFlags := 26, slot := 0, constantValue := 0 }, { name := "INSERTIONSORT_THRESHOLD", type := .int, accessFlags := 26, slot := 1, constantValue := 0 }, { name := "$assertionsDisabled", type := .boolean, accessFlags := 4120, slot := 2, constantValue := 0 }]
  methods := #[k19m0, k19m1, k19m2, k19m3]
  instanceTypes := #[]
  staticTypes := #[.int, .int, .boolean]
  resolved := Array.replicate 1029 none
  statics := none }

def pool20 : Array CpInfo := pool [(2, .class_ 4), (1, u "java/lang/Object"), (0, u "<init>"), (0, u "()V"), (1, .class_ 10), (1, u "java/lang/System"), (0, u "allowSecurityManager"), (0, u "I"), (16, u "cons"), (0, u "Ljava/io/Console;"), (77, .class_ 110), (1, u "java/lang/System$CallersHolder"), (43, u "initialErrStream"), (0, u "Ljava/io/PrintStream;"), (19, u "security"), (0, u "Ljava/lang/SecurityManager;"), (31, .class_ 209), (0, u "java/lang/System$1"), (7, u "props"), (0, u "Ljava/util/Properties;"), (2, u "lineSeparator"), (0, u "Ljava/lang/String;"), (96, .class_ 321), (1, u "java/lang/System$LoggerFinder"), (5, .class_ 328), (0, u "java/lang/System$Logger"), (67, u "err"), (2, u "out"), (91, u "notSupportedJnuEncoding"), (15, u "in"), (17, u "initialIn"), (0, u "Ljava/io/InputStream;"), (35, u "bootLayer"), (0, u "Ljava/lang/ModuleLayer;"), (99, .class_ 664), (0, u "java/lang/System$2"), (9, u "NEVER"), (2, u "MAYBE"), (49, u "arraycopy"), (0, u "(Ljava/lang/Object;ILjava/lang/Object;II)V"), (72, .class_ 802), (0, u "java/lang/System$Logger$Level")] 31

def k20m0 : Method := { name := "<init>", desc := "()V", sig := { parameters := [], returnType := none }, accessFlags := 2, code := none }
def k20m1 : Method := { name := "arraycopy", desc := "(Ljava/lang/Object;ILjava/lang/Object;II)V", sig := { parameters := [(.object "java/lang/Object"), .int, (.object "java/lang/Object"), .int, .int], returnType := none }, accessFlags := 265, code := none }
/-- java/lang/System -/
def k20 : Class := { plain "java/lang/System" (some 0) with
  accessFlags := 49
  interfaces := #[]
  cf := some (fileOf pool20 8 #[.nestMembers #[319, 327, 801, 108, 663, 208]] #[{ accessFlags := 2, nameIndex := 5, descriptorIndex := 6, attributes := #[] }, { accessFlags := 265, nameIndex := 727, descriptorIndex := 728, attributes := #[] }] 49 2 #[] #[{ accessFlags := 25, nameIndex := 507, descriptorIndex := 526, attributes := #[] }, { accessFlags := 25, nameIndex := 399, descriptorIndex := 155, attributes := #[] }, { accessFlags := 25, nameIndex := 396, descriptorIndex := 155, attributes := #[] }, { accessFlags := 10, nameIndex := 525, descriptorIndex := 526, attributes := #[] }, { accessFlags := 26, nameIndex := 674, descriptorIndex := 12, attributes := #[] }, { accessFlags := 26, nameIndex := 677, descriptorIndex := 12, attributes := #[] }, { accessFlags := 10, nameIndex := 11, descriptorIndex := 12, attributes := #[] }, { accessFlags := 74, nameIndex := 175, descriptorIndex := 176, attributes := #[] }, { accessFlags := 10, nameIndex := 491, descriptorIndex := 222, attributes := #[] }, { accessFlags := 74, nameIndex := 29, descriptorIndex := 30, attributes := #[] }, { accessFlags := 74, nameIndex := 154, descriptorIndex := 155, attributes := #[] }, { accessFlags := 10, nameIndex := 217, descriptorIndex := 218, attributes := #[] }, { accessFlags := 10, nameIndex := 221, descriptorIndex := 222, attributes := #[] }, { accessFlags := 8, nameIndex := 562, descriptorIndex := 563, attributes := #[] }])
  fields := #[{ name := "in", type := (.object "java/io/InputStream"), accessFlags := 25, slot := 0, constantValue := 0 }, { name := "out", type := (.object "java/io/PrintStream"), accessFlags := 25, slot := 1, constantValue := 0 }, { name := "err", type := (.object "java/io/PrintStream"), accessFlags := 25, slot := 2, constantValue := 0 }, { name := "initialIn", type := (.object "java/io/InputStream"), accessFlags := 10, slot := 3, constantValue := 0 }, { name := "NEVER", type := .int, accessFlags := 26, slot := 4, constantValue := 0 }, { name := "MAYBE", type := .int, accessFlags := 26, slot := 5, constantValue := 0 }, { name := "allowSecurityManager", type := .int, accessFlags := 10, slot := 6, constantValue := 0 }, { name := "security", type := (.object "java/lang/SecurityManager"), accessFlags := 74, slot := 7, constantValue := 0 }, { name := "notSupportedJnuEncoding", type := (.object "java/lang/String"), accessFlags := 10, slot := 8, constantValue := 0 }, { name := "cons", type := (.object "java/io/Console"), accessFlags := 74, slot := 9, constantValue := 0 }, { name := "initialErrStream", type := (.object "java/io/PrintStream"), accessFlags := 74, slot := 10, constantValue := 0 }, { name := "props", type := (.object "java/util/Properties"), accessFlags := 10, slot := 11, constantValue := 0 }, { name := "lineSeparator", type := (.object "java/lang/String"), accessFlags := 10, slot := 12, constantValue := 0 }, { name := "bootLayer", type := (.object "java/lang/ModuleLayer"), accessFlags := 8, slot := 13, constantValue := 0 }]
  methods := #[k20m0, k20m1]
  instanceTypes := #[]
  staticTypes := #[(.object "java/io/InputStream"), (.object "java/io/PrintStream"), (.object "java/io/PrintStream"), (.object "java/io/InputStream"), .int, .int, .int, (.object "java/lang/SecurityManager"), (.object "java/lang/String"), (.object "java/io/Console"), (.object "java/io/PrintStream"), (.object "java/util/Properties"), (.object "java/lang/String"), (.object "java/lang/ModuleLayer")]
  resolved := Array.replicate 834 none
  statics := none }

def pool21 : Array CpInfo := pool [(9, u "<init>"), (6, .class_ 18), (1, u "java/lang/Object"), (0, u "()V"), (1, .class_ 23), (1, u "jdk/internal/util/ArraysSupport"), (0, u "LOG2_ARRAY_LONG_INDEX_SCALE"), (0, u "I"), (2, u "U"), (0, u "Ljdk/internal/misc/Unsafe;"), (8, u "BIG_ENDIAN"), (0, u "Z"), (8, u "LOG2_BYTE_BIT_SIZE"), (4, u "LOG2_ARRAY_INT_INDEX_SCALE"), (54, u "JLA"), (0, u "Ljdk/internal/access/JavaLangAccess;"), (11, u "LOG2_ARRAY_BOOLEAN_INDEX_SCALE"), (9, u "LOG2_ARRAY_BYTE_INDEX_SCALE"), (5, u "LOG2_ARRAY_CHAR_INDEX_SCALE"), (5, u "LOG2_ARRAY_SHORT_INDEX_SCALE"), (18, u "LOG2_ARRAY_FLOAT_INDEX_SCALE"), (24, u "LOG2_ARRAY_DOUBLE_INDEX_SCALE"), (89, u "T_BOOLEAN"), (2, u "T_CHAR"), (1, u "T_FLOAT"), (1, u "T_DOUBLE"), (1, u "T_BYTE"), (1, u "T_SHORT"), (1, u "T_INT"), (1, u "T_LONG"), (1, u "SOFT_MAX_ARRAY_LENGTH")] 83

def k21m0 : Method := { name := "<init>", desc := "()V", sig := { parameters := [], returnType := none }, accessFlags := 2, code := none }
/-- jdk/internal/util/ArraysSupport -/
def k21 : Class := { plain "jdk/internal/util/ArraysSupport" (some 0) with
  accessFlags := 33
  interfaces := #[]
  cf := some (fileOf pool21 21 #[] #[{ accessFlags := 2, nameIndex := 9, descriptorIndex := 19, attributes := #[] }] 33 16 #[] #[{ accessFlags := 24, nameIndex := 28, descriptorIndex := 29, attributes := #[] }, { accessFlags := 26, nameIndex := 38, descriptorIndex := 39, attributes := #[] }, { accessFlags := 25, nameIndex := 121, descriptorIndex := 25, attributes := #[] }, { accessFlags := 25, nameIndex := 131, descriptorIndex := 25, attributes := #[] }, { accessFlags := 25, nameIndex := 137, descriptorIndex := 25, attributes := #[] }, { accessFlags := 25, nameIndex := 143, descriptorIndex := 25, attributes := #[] }, { accessFlags := 25, nameIndex := 53, descriptorIndex := 25, attributes := #[] }, { accessFlags := 25, nameIndex := 24, descriptorIndex := 25, attributes := #[] }, { accessFlags := 25, nameIndex := 162, descriptorIndex := 25, attributes := #[] }, { accessFlags := 25, nameIndex := 187, descriptorIndex := 25, attributes := #[] }, { accessFlags := 26, nameIndex := 48, descriptorIndex := 25, attributes := #[] }, { accessFlags := 25, nameIndex := 277, descriptorIndex := 25, attributes := #[] }, { accessFlags := 25, nameIndex := 280, descriptorIndex := 25, attributes := #[] }, { accessFlags := 25, nameIndex := 282, descriptorIndex := 25, attributes := #[] }, { accessFlags := 25, nameIndex := 284, descriptorIndex := 25, attributes := #[] }, { accessFlags := 25, nameIndex := 286, descriptorIndex := 25, attributes := #[] }, { accessFlags := 25, nameIndex := 288, descriptorIndex := 25, attributes := #[] }, { accessFlags := 25, nameIndex := 290, descriptorIndex := 25, attributes := #[] }, { accessFlags := 25, nameIndex := 292, descriptorIndex := 25, attributes := #[] }, { accessFlags := 26, nameIndex := 108, descriptorIndex := 109, attributes := #[] }, { accessFlags := 25, nameIndex := 294, descriptorIndex := 25, attributes := #[] }])
  fields := #[{ name := "U", type := (.object "jdk/internal/misc/Unsafe"), accessFlags := 24, slot := 0, constantValue := 0 }, { name := "BIG_ENDIAN", type := .boolean, accessFlags := 26, slot := 1, constantValue := 0 }, { name := "LOG2_ARRAY_BOOLEAN_INDEX_SCALE", type := .int, accessFlags := 25, slot := 2, constantValue := 0 }, { name := "LOG2_ARRAY_BYTE_INDEX_SCALE", type := .int, accessFlags := 25, slot := 3, constantValue := 0 }, { name := "LOG2_ARRAY_CHAR_INDEX_SCALE", type := .int, accessFlags := 25, slot := 4, constantValue := 0 }, { name := "LOG2_ARRAY_SHORT_INDEX_SCALE", type := .int, accessFlags := 25, slot := 5, constantValue := 0 }, { name := "LOG2_ARRAY_INT_INDEX_SCALE", type := .int, accessFlags := 25, slot := 6, constantValue := 0 }, { name := "LOG2_ARRAY_LONG_INDEX_SCALE", type := .int, accessFlags := 25, slot := 7, constantValue := 0 }, { name := "LOG2_ARRAY_FLOAT_INDEX_SCALE", type := .int, accessFlags := 25, slot := 8, constantValue := 0 }, { name := "LOG2_ARRAY_DOUBLE_INDEX_SCALE", type := .int, accessFlags := 25, slot := 9, constantValue := 0 }, { name := "LOG2_BYTE_BIT_SIZE", type := .int, accessFlags := 26, slot := 10, constantValue := 0 }, { name := "T_BOOLEAN", type := .int, accessFlags := 25, slot := 11, constantValue := 0 }, { name := "T_CHAR", type := .int, accessFlags := 25, slot := 12, constantValue := 0 }, { name := "T_FLOAT", type := .int, accessFlags := 25, slot := 13, constantValue := 0 }, { name := "T_DOUBLE", type := .int, accessFlags := 25, slot := 14, constantValue := 0 }, { name := "T_BYTE", type := .int, accessFlags := 25, slot := 15, constantValue := 0 }, { name := "T_SHORT", type := .int, accessFlags := 25, slot := 16, constantValue := 0 }, { name := "T_INT", type := .int, accessFlags := 25, slot := 17, constantValue := 0 }, { name := "T_LONG", type := .int, accessFlags := 25, slot := 18, constantValue := 0 }, { name := "JLA", type := (.object "jdk/internal/access/JavaLangAccess"), accessFlags := 26, slot := 19, constantValue := 0 }, { name := "SOFT_MAX_ARRAY_LENGTH", type := .int, accessFlags := 25, slot := 20, constantValue := 0 }]
  methods := #[k21m0]
  instanceTypes := #[]
  staticTypes := #[(.object "jdk/internal/misc/Unsafe"), .boolean, .int, .int, .int, .int, .int, .int, .int, .int, .int, .int, .int, .int, .int, .int, .int, .int, .int, (.object "jdk/internal/access/JavaLangAccess"), .int]
  resolved := Array.replicate 378 none
  statics := none }

def pool22 : Array CpInfo := pool [(1, u "java/lang/Class"), (0, .class_ 1), (0, u "java/lang/Object"), (0, .class_ 3)] 0

/-- java/lang/Class -/
def k22 : Class := { plain "java/lang/Class" (some 0) with
  accessFlags := 49
  interfaces := #[]
  cf := some (fileOf pool22 2 #[] #[] 49 4 #[] #[])
  fields := #[]
  methods := #[]
  instanceTypes := #[]
  staticTypes := #[]
  resolved := Array.replicate 5 none
  statics := none }

/-- the primitive byte -/
def k23 : Class := { plain "byte" none with kind := .primitive 'B', accessFlags := 0x411 }
/-- [B -/
def k24 : Class := { plain "[B" (some 0) with kind := .array 23 .byte, interfaces := #[12, 3], accessFlags := 1041 }

/-- the primitive char -/
def k25 : Class := { plain "char" none with kind := .primitive 'C', accessFlags := 0x411 }
/-- [C -/
def k26 : Class := { plain "[C" (some 0) with kind := .array 25 .char, interfaces := #[12, 3], accessFlags := 1041 }

/-- the primitive int -/
def k27 : Class := { plain "int" none with kind := .primitive 'I', accessFlags := 0x411 }
/-- [I -/
def k28 : Class := { plain "[I" (some 0) with kind := .array 27 .int, interfaces := #[12, 3], accessFlags := 1041 }

def heap : Heap := #[{ cls := 8, slots := #[.long 0, .int 1, .null, .int 0, .null, .int 0, .int 0], vm := .statics 8 },
  { cls := 18, slots := #[.null, .null, .null], vm := .statics 18 },
  { cls := 22, slots := #[], vm := .mirror 13 },
  { cls := 22, slots := #[], vm := .mirror 15 }]
def classes : Array Class := #[k0, k1, k2, k3, k4, k5, k6, k7, k8, k9, k10, k11, k12, k13, k14, k15, k16, k17, k18, k19, k20, k21, k22, k23, k24, k25, k26, k27, k28]
def interned : List (Array UInt16 × Addr) := []
def slotsUsed : Nat := 10
def theMethod : MethodId := ⟨1, 1⟩
def args0 : Array Value := #[.int 5, .int 6, .int 1, .int 9, .int 0, .int 4]
def aboutOver (below : List Frame) : State where
  vm := { classes := classes, interned := interned.toArray }
  heap := heap
  slotsUsed := slotsUsed
  threads := #[{ frames := .invoking theMethod args0 :: below }]
def below0 : List Frame := [.native { method := ⟨0, 0⟩, args := #[] }]
def about1 : State := aboutOver below0
def p0 : Program := .bare "" "" ""
def e0 : Env := launch0.env 0 0 0
theorem w_frames : about1.frames = Frame.invoking theMethod args0 :: below0 := rfl
set_option maxRecDepth 65536 in
theorem w_args : argsFit about1.vm theMethod args0 = true := by decide +kernel
set_option maxRecDepth 65536 in
theorem w_heap : heapFits about1 = true := by decide +kernel
set_option maxRecDepth 65536 in
theorem w_runnable : about1.curStatus? = some .runnable := by decide +kernel
set_option maxRecDepth 65536 in
theorem w_alone : about1.alone = true := by decide +kernel
set_option maxRecDepth 65536 in
theorem w_named : about1.methodNamed? x = some theMethod := by decide +kernel
set_option maxRecDepth 65536 in
theorem w_hears : about1.hears theMethod below0 = true := by decide +kernel
set_option maxRecDepth 65536 in
theorem w_ripe : about1.ripe theMethod args0 below0 = true := by decide +kernel
theorem w_running : about1.status = .running := rfl
set_option maxRecDepth 65536 in
theorem w_room : about1.hasRoom e0.platform room_1 = true :=
  launch0.hasRoom_least _ room_1 (by decide +kernel) (by decide +kernel) (by decide +kernel) (by decide +kernel) (by decide +kernel) (by decide +kernel)
theorem allAtoms_all (ts : List Jvm.Cond) (a : Array Jvm.Value) (st : Jvm.State) : (allAtoms ts).before a st = ts.all (fun c => c.before a st) := by
  induction ts with
  | nil => rfl
  | cons c t ih =>
    show (Jvm.Cond.and c (allAtoms t)).before a st = _
    rw [Jvm.Cond.before_and, ih, List.all_cons]
def words1 : List Jvm.Cond := Jvm.Cond.code x code maxLocals ret :: tables_1
/-- a 'code' word, met by the world's own term for the bytes: nothing is compared byte by byte -/
theorem code_word {y : MethodName} {bytes : ByteArray} {mx : Nat} {rt : Option FieldType} {a : Array Value} {s : State} {m : MethodId} {meth : Method} {c : Code} (h1 : s.methodNamed? y = some m) (h2 : s.vm.method? m = some meth) (h3 : meth.code = some c) (h4 : c.code = bytes)
    (h5 : (c.maxLocals == mx && c.exceptionTable.isEmpty && decide (c.maxStack ≤ mostOperands) && decide (meth.sig.returnType = rt) && !meth.locks && decide (parseMethodDescriptor y.desc = some meth.sig)) = true) : (Jvm.Cond.code y bytes mx rt).before a s = true := by
  simp only [Bool.and_eq_true, beq_iff_eq, Bool.not_eq_true', decide_eq_true_eq] at h5
  obtain ⟨⟨⟨⟨⟨g1, g2⟩, g3⟩, g4⟩, g5⟩, g6⟩ := h5
  simp [Cond.before, Cond.holds, Cond.value, h1, h2, h3, h4, g1, g2, g3, g4, g5, g6]
def isCode : Jvm.Cond → Bool
  | .code _ _ _ _ => true
  | _ => false
theorem all_split {L : List Jvm.Cond} {P : Jvm.Cond → Bool} (h1 : L.all (fun c => isCode c || P c) = true) (h2 : ∀ c ∈ L.filter isCode, P c = true) : L.all P = true := by
  refine List.all_eq_true.mpr fun c hc => ?_
  have h := List.all_eq_true.mp h1 c hc
  rcases Bool.eq_false_or_eq_true (isCode c) with hi | hi
  · exact h2 c (List.mem_filter.mpr ⟨hc, hi⟩)
  · simpa [hi] using h
set_option maxRecDepth 65536 in
theorem w_c0 : (Jvm.Cond.code x code maxLocals ret).before args0 about1 = true := code_word (m := ⟨1, 1⟩) (meth := k1m1) (c := k1c1) (by decide +kernel) rfl rfl rfl (by decide +kernel)
set_option maxRecDepth 65536 in
theorem w_c1 : (Jvm.Cond.code ({ cls := "com/example/demarcation/demarcation/component/NamedAnnotationSimpleNamePinLaw", name := "ch", desc := "(I)C" } : Jvm.MethodName) method_3_code (2 : Nat) (Option.some Jvm.ClassFile.FieldType.char)).before args0 about1 = true := code_word (m := ⟨1, 2⟩) (meth := k1m2) (c := k1c2) (by decide +kernel) rfl rfl rfl (by decide +kernel)
set_option maxRecDepth 65536 in
theorem w_c2 : (Jvm.Cond.code ({ cls := "java/lang/String", name := "<init>", desc := "([C)V" } : Jvm.MethodName) jdk_42_method_3_code (2 : Nat) (Option.none : Option Jvm.ClassFile.FieldType)).before args0 about1 = true := code_word (m := ⟨8, 1⟩) (meth := k8m1) (c := k8c1) (by decide +kernel) rfl rfl rfl (by decide +kernel)
set_option maxRecDepth 65536 in
theorem w_c3 : (Jvm.Cond.code ({ cls := "java/lang/String", name := "<init>", desc := "([CIILjava/lang/Void;)V" } : Jvm.MethodName) jdk_42_method_149_code (6 : Nat) (Option.none : Option Jvm.ClassFile.FieldType)).before args0 about1 = true := code_word (m := ⟨8, 8⟩) (meth := k8m8) (c := k8c8) (by decide +kernel) rfl rfl rfl (by decide +kernel)
set_option maxRecDepth 65536 in
theorem w_c4 : (Jvm.Cond.code ({ cls := "java/lang/Object", name := "<init>", desc := "()V" } : Jvm.MethodName) object_method_1_code (1 : Nat) (Option.none : Option Jvm.ClassFile.FieldType)).before args0 about1 = true := code_word (m := ⟨0, 0⟩) (meth := k0m0) (c := k0c0) (by decide +kernel) rfl rfl rfl (by decide +kernel)
set_option maxRecDepth 65536 in
theorem w_c5 : (Jvm.Cond.code ({ cls := "java/lang/StringUTF16", name := "compress", desc := "([CII)[B" } : Jvm.MethodName) jdk_52_method_16_code (6 : Nat) (Option.some (Jvm.ClassFile.FieldType.array Jvm.ClassFile.FieldType.byte))).before args0 about1 = true := code_word (m := ⟨9, 2⟩) (meth := k9m2) (c := k9c2) (by decide +kernel) rfl rfl rfl (by decide +kernel)
set_option maxRecDepth 65536 in
theorem w_c6 : (Jvm.Cond.code ({ cls := "java/lang/StringUTF16", name := "compress", desc := "([CI[BII)I" } : Jvm.MethodName) jdk_52_method_21_code (7 : Nat) (Option.some Jvm.ClassFile.FieldType.int)).before args0 about1 = true := code_word (m := ⟨9, 3⟩) (meth := k9m3) (c := k9c3) (by decide +kernel) rfl rfl rfl (by decide +kernel)
set_option maxRecDepth 65536 in
theorem w_c7 : (Jvm.Cond.code ({ cls := "java/lang/StringUTF16", name := "coderFromArrayLen", desc := "([BI)B" } : Jvm.MethodName) jdk_52_method_15_code (2 : Nat) (Option.some Jvm.ClassFile.FieldType.byte)).before args0 about1 = true := code_word (m := ⟨9, 1⟩) (meth := k9m1) (c := k9c1) (by decide +kernel) rfl rfl rfl (by decide +kernel)
set_option maxRecDepth 65536 in
theorem w_c8 : (Jvm.Cond.code ({ cls := "java/util/HashMap", name := "<init>", desc := "()V" } : Jvm.MethodName) jdk_69_method_7_code (1 : Nat) (Option.none : Option Jvm.ClassFile.FieldType)).before args0 about1 = true := code_word (m := ⟨13, 0⟩) (meth := k13m0) (c := k13c0) (by decide +kernel) rfl rfl rfl (by decide +kernel)
set_option maxRecDepth 65536 in
theorem w_c9 : (Jvm.Cond.code ({ cls := "java/util/AbstractMap", name := "<init>", desc := "()V" } : Jvm.MethodName) jdk_71_method_1_code (1 : Nat) (Option.none : Option Jvm.ClassFile.FieldType)).before args0 about1 = true := code_word (m := ⟨11, 0⟩) (meth := k11m0) (c := k11c0) (by decide +kernel) rfl rfl rfl (by decide +kernel)
set_option maxRecDepth 65536 in
theorem w_c10 : (Jvm.Cond.code ({ cls := NAC, name := "<init>", desc := "(Ljava/lang/String;Ljava/util/Map;)V" } : Jvm.MethodName) prog_19_method_1_code (3 : Nat) (Option.none : Option Jvm.ClassFile.FieldType)).before args0 about1 = true := code_word (m := ⟨2, 0⟩) (meth := k2m0) (c := k2c0) (by decide +kernel) rfl rfl rfl (by decide +kernel)
set_option maxRecDepth 65536 in
theorem w_c11 : (Jvm.Cond.code ({ cls := "java/util/Collections", name := "unmodifiableMap", desc := "(Ljava/util/Map;)Ljava/util/Map;" } : Jvm.MethodName) jdk_79_method_36_code (1 : Nat) (Option.some (Jvm.ClassFile.FieldType.object "java/util/Map"))).before args0 about1 = true := code_word (m := ⟨14, 1⟩) (meth := k14m1) (c := k14c1) (by decide +kernel) rfl rfl rfl (by decide +kernel)
set_option maxRecDepth 65536 in
theorem w_c12 : (Jvm.Cond.code ({ cls := "java/util/Collections$UnmodifiableMap", name := "<init>", desc := "(Ljava/util/Map;)V" } : Jvm.MethodName) jdk_2500_method_1_code (2 : Nat) (Option.none : Option Jvm.ClassFile.FieldType)).before args0 about1 = true := code_word (m := ⟨15, 0⟩) (meth := k15m0) (c := k15c0) (by decide +kernel) rfl rfl rfl (by decide +kernel)
set_option maxRecDepth 65536 in
theorem w_c13 : (Jvm.Cond.code ({ cls := NAC, name := "simpleName", desc := "()Ljava/lang/String;" } : Jvm.MethodName) prog_19_method_6_code (2 : Nat) (Option.some (Jvm.ClassFile.FieldType.object "java/lang/String"))).before args0 about1 = true := code_word (m := ⟨2, 1⟩) (meth := k2m1) (c := k2c1) (by decide +kernel) rfl rfl rfl (by decide +kernel)
set_option maxRecDepth 65536 in
theorem w_c14 : (Jvm.Cond.code ({ cls := "java/lang/String", name := "lastIndexOf", desc := "(I)I" } : Jvm.MethodName) jdk_42_method_82_code (2 : Nat) (Option.some Jvm.ClassFile.FieldType.int)).before args0 about1 = true := code_word (m := ⟨8, 4⟩) (meth := k8m4) (c := k8c4) (by decide +kernel) rfl rfl rfl (by decide +kernel)
set_option maxRecDepth 65536 in
theorem w_c15 : (Jvm.Cond.code ({ cls := "java/lang/String", name := "length", desc := "()I" } : Jvm.MethodName) jdk_42_method_54_code (1 : Nat) (Option.some Jvm.ClassFile.FieldType.int)).before args0 about1 = true := code_word (m := ⟨8, 2⟩) (meth := k8m2) (c := k8c2) (by decide +kernel) rfl rfl rfl (by decide +kernel)
set_option maxRecDepth 65536 in
theorem w_c16 : (Jvm.Cond.code ({ cls := "java/lang/String", name := "coder", desc := "()B" } : Jvm.MethodName) jdk_42_method_152_code (1 : Nat) (Option.some Jvm.ClassFile.FieldType.byte)).before args0 about1 = true := code_word (m := ⟨8, 10⟩) (meth := k8m10) (c := k8c10) (by decide +kernel) rfl rfl rfl (by decide +kernel)
set_option maxRecDepth 65536 in
theorem w_c17 : (Jvm.Cond.code ({ cls := "java/lang/String", name := "lastIndexOf", desc := "(II)I" } : Jvm.MethodName) jdk_42_method_83_code (3 : Nat) (Option.some Jvm.ClassFile.FieldType.int)).before args0 about1 = true := code_word (m := ⟨8, 5⟩) (meth := k8m5) (c := k8c5) (by decide +kernel) rfl rfl rfl (by decide +kernel)
set_option maxRecDepth 65536 in
theorem w_c18 : (Jvm.Cond.code ({ cls := "java/lang/String", name := "isLatin1", desc := "()Z" } : Jvm.MethodName) jdk_42_method_154_code (1 : Nat) (Option.some Jvm.ClassFile.FieldType.boolean)).before args0 about1 = true := code_word (m := ⟨8, 11⟩) (meth := k8m11) (c := k8c11) (by decide +kernel) rfl rfl rfl (by decide +kernel)
set_option maxRecDepth 65536 in
theorem w_c19 : (Jvm.Cond.code ({ cls := "java/lang/StringLatin1", name := "lastIndexOf", desc := "([BII)I" } : Jvm.MethodName) jdk_43_method_27_code (4 : Nat) (Option.some Jvm.ClassFile.FieldType.int)).before args0 about1 = true := code_word (m := ⟨16, 3⟩) (meth := k16m3) (c := k16c3) (by decide +kernel) rfl rfl rfl (by decide +kernel)
set_option maxRecDepth 65536 in
theorem w_c20 : (Jvm.Cond.code ({ cls := "java/lang/StringLatin1", name := "canEncode", desc := "(I)Z" } : Jvm.MethodName) jdk_43_method_4_code (1 : Nat) (Option.some Jvm.ClassFile.FieldType.boolean)).before args0 about1 = true := code_word (m := ⟨16, 2⟩) (meth := k16m2) (c := k16c2) (by decide +kernel) rfl rfl rfl (by decide +kernel)
set_option maxRecDepth 65536 in
theorem w_c21 : (Jvm.Cond.code ({ cls := "java/lang/Math", name := "min", desc := "(II)I" } : Jvm.MethodName) jdk_29_method_69_code (2 : Nat) (Option.some Jvm.ClassFile.FieldType.int)).before args0 about1 = true := code_word (m := ⟨17, 1⟩) (meth := k17m1) (c := k17c1) (by decide +kernel) rfl rfl rfl (by decide +kernel)
set_option maxRecDepth 65536 in
theorem w_c22 : (Jvm.Cond.code ({ cls := "java/lang/String", name := "substring", desc := "(I)Ljava/lang/String;" } : Jvm.MethodName) jdk_42_method_91_code (2 : Nat) (Option.some (Jvm.ClassFile.FieldType.object "java/lang/String"))).before args0 about1 = true := code_word (m := ⟨8, 6⟩) (meth := k8m6) (c := k8c6) (by decide +kernel) rfl rfl rfl (by decide +kernel)
set_option maxRecDepth 65536 in
theorem w_c23 : (Jvm.Cond.code ({ cls := "java/lang/String", name := "substring", desc := "(II)Ljava/lang/String;" } : Jvm.MethodName) jdk_42_method_92_code (5 : Nat) (Option.some (Jvm.ClassFile.FieldType.object "java/lang/String"))).before args0 about1 = true := code_word (m := ⟨8, 7⟩) (meth := k8m7) (c := k8c7) (by decide +kernel) rfl rfl rfl (by decide +kernel)
set_option maxRecDepth 65536 in
theorem w_c24 : (Jvm.Cond.code ({ cls := "java/lang/String", name := "checkBoundsBeginEnd", desc := "(III)V" } : Jvm.MethodName) jdk_42_method_158_code (3 : Nat) (Option.none : Option Jvm.ClassFile.FieldType)).before args0 about1 = true := code_word (m := ⟨8, 13⟩) (meth := k8m13) (c := k8c13) (by decide +kernel) rfl rfl rfl (by decide +kernel)
set_option maxRecDepth 65536 in
theorem w_c25 : (Jvm.Cond.code ({ cls := "jdk/internal/util/Preconditions", name := "checkFromToIndex", desc := "(IIILjava/util/function/BiFunction;)I" } : Jvm.MethodName) jdk_41_method_12_code (4 : Nat) (Option.some Jvm.ClassFile.FieldType.int)).before args0 about1 = true := code_word (m := ⟨18, 2⟩) (meth := k18m2) (c := k18c2) (by decide +kernel) rfl rfl rfl (by decide +kernel)
set_option maxRecDepth 65536 in
theorem w_c26 : (Jvm.Cond.code ({ cls := "java/lang/StringLatin1", name := "newString", desc := "([BII)Ljava/lang/String;" } : Jvm.MethodName) jdk_43_method_47_code (3 : Nat) (Option.some (Jvm.ClassFile.FieldType.object "java/lang/String"))).before args0 about1 = true := code_word (m := ⟨16, 4⟩) (meth := k16m4) (c := k16c4) (by decide +kernel) rfl rfl rfl (by decide +kernel)
set_option maxRecDepth 65536 in
theorem w_c27 : (Jvm.Cond.code ({ cls := "java/util/Arrays", name := "copyOfRange", desc := "([BII)[B" } : Jvm.MethodName) jdk_65_method_132_code (3 : Nat) (Option.some (Jvm.ClassFile.FieldType.array Jvm.ClassFile.FieldType.byte))).before args0 about1 = true := code_word (m := ⟨19, 2⟩) (meth := k19m2) (c := k19c2) (by decide +kernel) rfl rfl rfl (by decide +kernel)
set_option maxRecDepth 65536 in
theorem w_c28 : (Jvm.Cond.code ({ cls := "java/util/Arrays", name := "copyOfRangeByte", desc := "([BII)[B" } : Jvm.MethodName) jdk_65_method_133_code (5 : Nat) (Option.some (Jvm.ClassFile.FieldType.array Jvm.ClassFile.FieldType.byte))).before args0 about1 = true := code_word (m := ⟨19, 3⟩) (meth := k19m3) (c := k19c3) (by decide +kernel) rfl rfl rfl (by decide +kernel)
set_option maxRecDepth 65536 in
theorem w_c29 : (Jvm.Cond.code ({ cls := "java/util/Arrays", name := "checkLength", desc := "(II)V" } : Jvm.MethodName) jdk_65_method_131_code (2 : Nat) (Option.none : Option Jvm.ClassFile.FieldType)).before args0 about1 = true := code_word (m := ⟨19, 1⟩) (meth := k19m1) (c := k19c1) (by decide +kernel) rfl rfl rfl (by decide +kernel)
set_option maxRecDepth 65536 in
theorem w_c30 : (Jvm.Cond.code ({ cls := "java/lang/String", name := "<init>", desc := "([BB)V" } : Jvm.MethodName) jdk_42_method_151_code (3 : Nat) (Option.none : Option Jvm.ClassFile.FieldType)).before args0 about1 = true := code_word (m := ⟨8, 9⟩) (meth := k8m9) (c := k8c9) (by decide +kernel) rfl rfl rfl (by decide +kernel)
set_option maxRecDepth 65536 in
theorem w_c31 : (Jvm.Cond.code ({ cls := "com/example/demarcation/demarcation/component/NamedAnnotationSimpleNamePinLaw", name := "sep", desc := "(C)Z" } : Jvm.MethodName) method_4_code (1 : Nat) (Option.some Jvm.ClassFile.FieldType.boolean)).before args0 about1 = true := code_word (m := ⟨1, 3⟩) (meth := k1m3) (c := k1c3) (by decide +kernel) rfl rfl rfl (by decide +kernel)
set_option maxRecDepth 65536 in
theorem w_c32 : (Jvm.Cond.code ({ cls := "com/example/demarcation/demarcation/component/NamedAnnotationSimpleNamePinLaw", name := "at", desc := "(Ljava/lang/String;II[CI)Z" } : Jvm.MethodName) method_5_code (5 : Nat) (Option.some Jvm.ClassFile.FieldType.boolean)).before args0 about1 = true := code_word (m := ⟨1, 4⟩) (meth := k1m4) (c := k1c4) (by decide +kernel) rfl rfl rfl (by decide +kernel)
set_option maxRecDepth 65536 in
theorem w_c33 : (Jvm.Cond.code ({ cls := "java/lang/String", name := "charAt", desc := "(I)C" } : Jvm.MethodName) jdk_42_method_56_code (2 : Nat) (Option.some Jvm.ClassFile.FieldType.char)).before args0 about1 = true := code_word (m := ⟨8, 3⟩) (meth := k8m3) (c := k8c3) (by decide +kernel) rfl rfl rfl (by decide +kernel)
set_option maxRecDepth 65536 in
theorem w_c34 : (Jvm.Cond.code ({ cls := "java/lang/StringLatin1", name := "charAt", desc := "([BI)C" } : Jvm.MethodName) jdk_43_method_2_code (2 : Nat) (Option.some Jvm.ClassFile.FieldType.char)).before args0 about1 = true := code_word (m := ⟨16, 1⟩) (meth := k16m1) (c := k16c1) (by decide +kernel) rfl rfl rfl (by decide +kernel)
set_option maxRecDepth 65536 in
theorem w_c35 : (Jvm.Cond.code ({ cls := "java/lang/String", name := "checkIndex", desc := "(II)V" } : Jvm.MethodName) jdk_42_method_155_code (2 : Nat) (Option.none : Option Jvm.ClassFile.FieldType)).before args0 about1 = true := code_word (m := ⟨8, 12⟩) (meth := k8m12) (c := k8c12) (by decide +kernel) rfl rfl rfl (by decide +kernel)
set_option maxRecDepth 65536 in
theorem w_c36 : (Jvm.Cond.code ({ cls := "jdk/internal/util/Preconditions", name := "checkIndex", desc := "(IILjava/util/function/BiFunction;)I" } : Jvm.MethodName) jdk_41_method_11_code (3 : Nat) (Option.some Jvm.ClassFile.FieldType.int)).before args0 about1 = true := code_word (m := ⟨18, 1⟩) (meth := k18m1) (c := k18c1) (by decide +kernel) rfl rfl rfl (by decide +kernel)
def codes1 : List Jvm.Cond := [Jvm.Cond.code x code maxLocals ret, Jvm.Cond.code ({ cls := "com/example/demarcation/demarcation/component/NamedAnnotationSimpleNamePinLaw", name := "ch", desc := "(I)C" } : Jvm.MethodName) method_3_code (2 : Nat) (Option.some Jvm.ClassFile.FieldType.char), Jvm.Cond.code ({ cls := "java/lang/String", name := "<init>", desc := "([C)V" } : Jvm.MethodName) jdk_42_method_3_code (2 : Nat) (Option.none : Option Jvm.ClassFile.FieldType), Jvm.Cond.code ({ cls := "java/lang/String", name := "<init>", desc := "([CIILjava/lang/Void;)V" } : Jvm.MethodName) jdk_42_method_149_code (6 : Nat) (Option.none : Option Jvm.ClassFile.FieldType), Jvm.Cond.code ({ cls := "java/lang/Object", name := "<init>", desc := "()V" } : Jvm.MethodName) object_method_1_code (1 : Nat) (Option.none : Option Jvm.ClassFile.FieldType), Jvm.Cond.code ({ cls := "java/lang/StringUTF16", name := "compress", desc := "([CII)[B" } : Jvm.MethodName) jdk_52_method_16_code (6 : Nat) (Option.some (Jvm.ClassFile.FieldType.array Jvm.ClassFile.FieldType.byte)), Jvm.Cond.code ({ cls := "java/lang/StringUTF16", name := "compress", desc := "([CI[BII)I" } : Jvm.MethodName) jdk_52_method_21_code (7 : Nat) (Option.some Jvm.ClassFile.FieldType.int), Jvm.Cond.code ({ cls := "java/lang/StringUTF16", name := "coderFromArrayLen", desc := "([BI)B" } : Jvm.MethodName) jdk_52_method_15_code (2 : Nat) (Option.some Jvm.ClassFile.FieldType.byte), Jvm.Cond.code ({ cls := "java/util/HashMap", name := "<init>", desc := "()V" } : Jvm.MethodName) jdk_69_method_7_code (1 : Nat) (Option.none : Option Jvm.ClassFile.FieldType), Jvm.Cond.code ({ cls := "java/util/AbstractMap", name := "<init>", desc := "()V" } : Jvm.MethodName) jdk_71_method_1_code (1 : Nat) (Option.none : Option Jvm.ClassFile.FieldType), Jvm.Cond.code ({ cls := NAC, name := "<init>", desc := "(Ljava/lang/String;Ljava/util/Map;)V" } : Jvm.MethodName) prog_19_method_1_code (3 : Nat) (Option.none : Option Jvm.ClassFile.FieldType), Jvm.Cond.code ({ cls := "java/util/Collections", name := "unmodifiableMap", desc := "(Ljava/util/Map;)Ljava/util/Map;" } : Jvm.MethodName) jdk_79_method_36_code (1 : Nat) (Option.some (Jvm.ClassFile.FieldType.object "java/util/Map")), Jvm.Cond.code ({ cls := "java/util/Collections$UnmodifiableMap", name := "<init>", desc := "(Ljava/util/Map;)V" } : Jvm.MethodName) jdk_2500_method_1_code (2 : Nat) (Option.none : Option Jvm.ClassFile.FieldType), Jvm.Cond.code ({ cls := NAC, name := "simpleName", desc := "()Ljava/lang/String;" } : Jvm.MethodName) prog_19_method_6_code (2 : Nat) (Option.some (Jvm.ClassFile.FieldType.object "java/lang/String")), Jvm.Cond.code ({ cls := "java/lang/String", name := "lastIndexOf", desc := "(I)I" } : Jvm.MethodName) jdk_42_method_82_code (2 : Nat) (Option.some Jvm.ClassFile.FieldType.int), Jvm.Cond.code ({ cls := "java/lang/String", name := "length", desc := "()I" } : Jvm.MethodName) jdk_42_method_54_code (1 : Nat) (Option.some Jvm.ClassFile.FieldType.int), Jvm.Cond.code ({ cls := "java/lang/String", name := "coder", desc := "()B" } : Jvm.MethodName) jdk_42_method_152_code (1 : Nat) (Option.some Jvm.ClassFile.FieldType.byte), Jvm.Cond.code ({ cls := "java/lang/String", name := "lastIndexOf", desc := "(II)I" } : Jvm.MethodName) jdk_42_method_83_code (3 : Nat) (Option.some Jvm.ClassFile.FieldType.int), Jvm.Cond.code ({ cls := "java/lang/String", name := "isLatin1", desc := "()Z" } : Jvm.MethodName) jdk_42_method_154_code (1 : Nat) (Option.some Jvm.ClassFile.FieldType.boolean), Jvm.Cond.code ({ cls := "java/lang/StringLatin1", name := "lastIndexOf", desc := "([BII)I" } : Jvm.MethodName) jdk_43_method_27_code (4 : Nat) (Option.some Jvm.ClassFile.FieldType.int), Jvm.Cond.code ({ cls := "java/lang/StringLatin1", name := "canEncode", desc := "(I)Z" } : Jvm.MethodName) jdk_43_method_4_code (1 : Nat) (Option.some Jvm.ClassFile.FieldType.boolean), Jvm.Cond.code ({ cls := "java/lang/Math", name := "min", desc := "(II)I" } : Jvm.MethodName) jdk_29_method_69_code (2 : Nat) (Option.some Jvm.ClassFile.FieldType.int), Jvm.Cond.code ({ cls := "java/lang/String", name := "substring", desc := "(I)Ljava/lang/String;" } : Jvm.MethodName) jdk_42_method_91_code (2 : Nat) (Option.some (Jvm.ClassFile.FieldType.object "java/lang/String")), Jvm.Cond.code ({ cls := "java/lang/String", name := "substring", desc := "(II)Ljava/lang/String;" } : Jvm.MethodName) jdk_42_method_92_code (5 : Nat) (Option.some (Jvm.ClassFile.FieldType.object "java/lang/String")), Jvm.Cond.code ({ cls := "java/lang/String", name := "checkBoundsBeginEnd", desc := "(III)V" } : Jvm.MethodName) jdk_42_method_158_code (3 : Nat) (Option.none : Option Jvm.ClassFile.FieldType), Jvm.Cond.code ({ cls := "jdk/internal/util/Preconditions", name := "checkFromToIndex", desc := "(IIILjava/util/function/BiFunction;)I" } : Jvm.MethodName) jdk_41_method_12_code (4 : Nat) (Option.some Jvm.ClassFile.FieldType.int), Jvm.Cond.code ({ cls := "java/lang/StringLatin1", name := "newString", desc := "([BII)Ljava/lang/String;" } : Jvm.MethodName) jdk_43_method_47_code (3 : Nat) (Option.some (Jvm.ClassFile.FieldType.object "java/lang/String")), Jvm.Cond.code ({ cls := "java/util/Arrays", name := "copyOfRange", desc := "([BII)[B" } : Jvm.MethodName) jdk_65_method_132_code (3 : Nat) (Option.some (Jvm.ClassFile.FieldType.array Jvm.ClassFile.FieldType.byte)), Jvm.Cond.code ({ cls := "java/util/Arrays", name := "copyOfRangeByte", desc := "([BII)[B" } : Jvm.MethodName) jdk_65_method_133_code (5 : Nat) (Option.some (Jvm.ClassFile.FieldType.array Jvm.ClassFile.FieldType.byte)), Jvm.Cond.code ({ cls := "java/util/Arrays", name := "checkLength", desc := "(II)V" } : Jvm.MethodName) jdk_65_method_131_code (2 : Nat) (Option.none : Option Jvm.ClassFile.FieldType), Jvm.Cond.code ({ cls := "java/lang/String", name := "<init>", desc := "([BB)V" } : Jvm.MethodName) jdk_42_method_151_code (3 : Nat) (Option.none : Option Jvm.ClassFile.FieldType), Jvm.Cond.code ({ cls := "com/example/demarcation/demarcation/component/NamedAnnotationSimpleNamePinLaw", name := "sep", desc := "(C)Z" } : Jvm.MethodName) method_4_code (1 : Nat) (Option.some Jvm.ClassFile.FieldType.boolean), Jvm.Cond.code ({ cls := "com/example/demarcation/demarcation/component/NamedAnnotationSimpleNamePinLaw", name := "at", desc := "(Ljava/lang/String;II[CI)Z" } : Jvm.MethodName) method_5_code (5 : Nat) (Option.some Jvm.ClassFile.FieldType.boolean), Jvm.Cond.code ({ cls := "java/lang/String", name := "charAt", desc := "(I)C" } : Jvm.MethodName) jdk_42_method_56_code (2 : Nat) (Option.some Jvm.ClassFile.FieldType.char), Jvm.Cond.code ({ cls := "java/lang/StringLatin1", name := "charAt", desc := "([BI)C" } : Jvm.MethodName) jdk_43_method_2_code (2 : Nat) (Option.some Jvm.ClassFile.FieldType.char), Jvm.Cond.code ({ cls := "java/lang/String", name := "checkIndex", desc := "(II)V" } : Jvm.MethodName) jdk_42_method_155_code (2 : Nat) (Option.none : Option Jvm.ClassFile.FieldType), Jvm.Cond.code ({ cls := "jdk/internal/util/Preconditions", name := "checkIndex", desc := "(IILjava/util/function/BiFunction;)I" } : Jvm.MethodName) jdk_41_method_11_code (3 : Nat) (Option.some Jvm.ClassFile.FieldType.int)]
set_option maxRecDepth 65536 in
theorem codes_eq : words1.filter isCode = codes1 := rfl
theorem w_codes : ∀ c ∈ words1.filter isCode, c.before args0 about1 = true := by
  rw [codes_eq]
  intro c hc
  simp only [codes1, List.mem_cons, List.not_mem_nil, or_false] at hc
  rcases hc with rfl | rfl | rfl | rfl | rfl | rfl | rfl | rfl | rfl | rfl | rfl | rfl | rfl | rfl | rfl | rfl | rfl | rfl | rfl | rfl | rfl | rfl | rfl | rfl | rfl | rfl | rfl | rfl | rfl | rfl | rfl | rfl | rfl | rfl | rfl | rfl | rfl
  · exact w_c0
  · exact w_c1
  · exact w_c2
  · exact w_c3
  · exact w_c4
  · exact w_c5
  · exact w_c6
  · exact w_c7
  · exact w_c8
  · exact w_c9
  · exact w_c10
  · exact w_c11
  · exact w_c12
  · exact w_c13
  · exact w_c14
  · exact w_c15
  · exact w_c16
  · exact w_c17
  · exact w_c18
  · exact w_c19
  · exact w_c20
  · exact w_c21
  · exact w_c22
  · exact w_c23
  · exact w_c24
  · exact w_c25
  · exact w_c26
  · exact w_c27
  · exact w_c28
  · exact w_c29
  · exact w_c30
  · exact w_c31
  · exact w_c32
  · exact w_c33
  · exact w_c34
  · exact w_c35
  · exact w_c36
set_option maxRecDepth 65536 in
theorem w_t1 : (words1.take 24).all (fun c => isCode c || c.before args0 about1) = true := by decide +kernel
set_option maxRecDepth 65536 in
theorem w_t2 : ((words1.drop 24).take 24).all (fun c => isCode c || c.before args0 about1) = true := by decide +kernel
set_option maxRecDepth 65536 in
theorem w_t3 : (((words1.drop 24).drop 24).take 24).all (fun c => isCode c || c.before args0 about1) = true := by decide +kernel
set_option maxRecDepth 65536 in
theorem w_t4 : ((((words1.drop 24).drop 24).drop 24).take 24).all (fun c => isCode c || c.before args0 about1) = true := by decide +kernel
set_option maxRecDepth 65536 in
theorem w_t5 : (((((words1.drop 24).drop 24).drop 24).drop 24).take 24).all (fun c => isCode c || c.before args0 about1) = true := by decide +kernel
set_option maxRecDepth 65536 in
theorem w_t6 : ((((((words1.drop 24).drop 24).drop 24).drop 24).drop 24).take 24).all (fun c => isCode c || c.before args0 about1) = true := by decide +kernel
set_option maxRecDepth 65536 in
theorem w_t7 : (((((((words1.drop 24).drop 24).drop 24).drop 24).drop 24).drop 24).take 24).all (fun c => isCode c || c.before args0 about1) = true := by decide +kernel
set_option maxRecDepth 65536 in
theorem w_t8 : ((((((((words1.drop 24).drop 24).drop 24).drop 24).drop 24).drop 24).drop 24).take 24).all (fun c => isCode c || c.before args0 about1) = true := by decide +kernel
set_option maxRecDepth 65536 in
theorem w_t9 : ((((((((words1.drop 24).drop 24).drop 24).drop 24).drop 24).drop 24).drop 24).drop 24).all (fun c => isCode c || c.before args0 about1) = true := by decide +kernel
theorem w_tables : (allAtoms (Jvm.Cond.code x code maxLocals ret :: tables_1)).before args0 about1 = true := by
  rw [allAtoms_all]
  show words1.all (fun c => c.before args0 about1) = true
  refine all_split ?_ w_codes
  rw [← List.take_append_drop 24 words1, List.all_append, w_t1, ← List.take_append_drop 24 (words1.drop 24), List.all_append, w_t2, ← List.take_append_drop 24 ((words1.drop 24).drop 24), List.all_append, w_t3, ← List.take_append_drop 24 (((words1.drop 24).drop 24).drop 24), List.all_append, w_t4, ← List.take_append_drop 24 ((((words1.drop 24).drop 24).drop 24).drop 24), List.all_append, w_t5, ← List.take_append_drop 24 (((((words1.drop 24).drop 24).drop 24).drop 24).drop 24), List.all_append, w_t6, ← List.take_append_drop 24 ((((((words1.drop 24).drop 24).drop 24).drop 24).drop 24).drop 24), List.all_append, w_t7, ← List.take_append_drop 24 (((((((words1.drop 24).drop 24).drop 24).drop 24).drop 24).drop 24).drop 24), List.all_append, w_t8, w_t9]
  rfl
set_option maxRecDepth 65536 in
theorem w_rest : rest_1_c.before args0 about1 = true := by decide +kernel
set_option maxRecDepth 65536 in
theorem w_case : (Jvm.Cond.and given_1 narrow_1).before args0 about1 = true := by decide +kernel
set_option maxRecDepth 65536 in
theorem w_consts : constsHeld consts_1 about1 := Jvm.Lit.constsHeldB_iff.mp (by decide +kernel)
theorem w_applies : (headSpec (Jvm.Cond.code x code maxLocals ret :: tables_1) room_1).applies x e0.platform about1 = true :=
  (Spec.applies_iff w_frames).mpr ⟨w_running, w_runnable, w_alone, w_named, w_hears, w_ripe, w_room, w_tables⟩
theorem atStart : AtStart classFile x code maxLocals ret World_1 tables_1 room_1 Calls_1 rest_1 Pre_1 launch0 p0 e0 about1 theMethod args0 below0 :=
  ⟨lists_1, trivial, launch0.admits_env _ _ _, launch0.least_env, fairChoices_fair.cas, fairChoices_fair.clock, w_frames, w_args, w_heap, w_applies, ⟨⟨13, k13, 2, by decide +kernel, rfl, rfl, _, rfl, rfl⟩, ⟨⟨15, k15, 3, by decide +kernel, rfl, rfl, _, rfl, rfl⟩, ⟨w_consts, trivial⟩⟩⟩, w_rest, w_case⟩
end start1
theorem witness_1 : WitnessClaimed_1 := ⟨start1.p0, start1.e0, start1.about1, start1.theMethod, start1.args0, start1.below0, start1.atStart⟩
end Jvm.Pilot.@@N@@
