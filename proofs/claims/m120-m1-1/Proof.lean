import JvmDerived
import JvmDerived.Pilot.@@N@@Statement
import JvmDerived.Pilot.@@N@@Code
set_option linter.unusedVariables false
set_option linter.unusedSimpArgs false
/- laws to paste: Road.backV, Road.lenW (cut by pick.py; bodies as the Statement names them) -/
namespace Jvm.Pilot.@@N@@
namespace StrChars
open Jvm Sem ClassFile Op Lib Jvm.Stand Jvm.Free.XT Jvm.Free.ALB Jvm.Free.JM Jvm.Free
open Jvm.Lib.Cold (StaticIs)
/-- a char array whose places are chars -/
def Ch (a : Addr) (A : Cell) (U : State) : Prop := Arr .char a A U ∧ Typed .char A
theorem Ch.mv {a : Addr} {A : Cell} {U U' : State} (h : Ch a A U) (hal : U.vm.Alike U'.vm) (hh : U'.heap = U.heap) : Ch a A U' := ⟨h.1.mv hal hh, h.2⟩
theorem Ch.keep {a : Addr} {A : Cell} {U U' : State} (h : Ch a A U) (hal : U.vm.Alike U'.vm) (hk : U'.heap[a]? = some A) : Ch a A U' := ⟨h.1.keep hal hk, h.2⟩
/-- what place i of a char[]'s cell holds -/
def cv (A : Cell) (i : Nat) : Int32 := match A.slots[i]? with | some (.int x) => x | _ => 0
theorem Ch.get {a : Addr} {A : Cell} {U : State} (h : Ch a A U) {i : Nat} (hi : i < A.slots.size) : A.slots[i]? = some (.int (cv A i)) := by
  have e := Array.getElem?_eq_getElem hi
  have f := h.2 i _ e
  unfold cv; rw [e]
  generalize A.slots[i] = v at f
  cases v <;> simp [fits] at f ⊢
/-- the byte that i2b leaves of a char -/
def lo8 (x : Int32) : Int32 := x.toInt8.toInt32
theorem fits_lo8 (y : Int32) : fits .byte (.int (lo8 y)) = true := by
  have h1 := y.toInt8.le_toInt
  have h2 := y.toInt8.toInt_lt
  simp only [lo8, fits, Bool.and_eq_true, decide_eq_true_eq, Int32.le_iff_toInt_le, Int8.toInt_toInt32, show (-128 : Int32).toInt = -128 from by decide, show (127 : Int32).toInt = 127 from by decide]
  omega
/-- A' is A but that each place j of lo .. hi - 1 holds f j -/
def Laid (A A' : Cell) (lo hi : Nat) (f : Nat → Value) : Prop := A'.cls = A.cls ∧ A'.vm = A.vm ∧ A'.slots.size = A.slots.size ∧ ∀ i, A'.slots[i]? = if lo ≤ i ∧ i < hi then some (f i) else A.slots[i]?
theorem Laid.zero (A : Cell) (lo : Nat) (f : Nat → Value) : Laid A A lo (lo + 0) f := ⟨rfl, rfl, rfl, fun i => by rw [if_neg (by omega)]⟩
theorem Laid.step {A Ak : Cell} {lo k : Nat} {f : Nat → Value} {v : Value} (h : Laid A Ak lo k f) (hlo : lo ≤ k) (hk : k < Ak.slots.size) (hv : v = f k) : Laid A (Ak.setSlot k v) lo (k + 1) f := by
  refine ⟨h.1, h.2.1, by simpa [Cell.setSlot] using h.2.2.1, fun i => ?_⟩
  by_cases e : k = i
  · subst e; rw [Cell.slots_setSlot_self v hk, if_pos (by omega), hv]
  · rw [Cell.slots_setSlot_ne v e, h.2.2.2 i]
    by_cases q : lo ≤ i ∧ i < k
    · rw [if_pos q, if_pos (by omega)]
    · rw [if_neg q, if_neg (by omega)]
def U16 : String := "java/lang/StringUTF16"
namespace Cmp5
def yN : MethodName := ⟨"java/lang/StringUTF16", "compress", "([CI[BII)I"⟩
abbrev yB : ByteArray := jdk_52_method_21_code
theorem d0 : decode yB 0 = .ok (.iconst 0, 1) := by decide +kernel
theorem d1 : decode yB 1 = .ok (.istore 5, 2) := by decide +kernel
theorem d3 : decode yB 3 = .ok (.iload 5, 2) := by decide +kernel
theorem d5 : decode yB 5 = .ok (.iload 4, 2) := by decide +kernel
theorem d7 : decode yB 7 = .ok (.if_icmp (.ge) 37, 3) := by decide +kernel
theorem d10 : decode yB 10 = .ok (.aload_n 0, 1) := by decide +kernel
theorem d11 : decode yB 11 = .ok (.iload_n 1, 1) := by decide +kernel
theorem d12 : decode yB 12 = .ok (.caload, 1) := by decide +kernel
theorem d13 : decode yB 13 = .ok (.istore 6, 2) := by decide +kernel
theorem d15 : decode yB 15 = .ok (.iload 6, 2) := by decide +kernel
theorem d17 : decode yB 17 = .ok (.sipush 255, 3) := by decide +kernel
theorem d20 : decode yB 20 = .ok (.if_icmp (.le) 6, 3) := by decide +kernel
theorem d26 : decode yB 26 = .ok (.aload_n 2, 1) := by decide +kernel
theorem d27 : decode yB 27 = .ok (.iload_n 3, 1) := by decide +kernel
theorem d28 : decode yB 28 = .ok (.iload 6, 2) := by decide +kernel
theorem d30 : decode yB 30 = .ok (.i2b, 1) := by decide +kernel
theorem d31 : decode yB 31 = .ok (.bastore, 1) := by decide +kernel
theorem d32 : decode yB 32 = .ok (.iinc 1 1, 3) := by decide +kernel
theorem d35 : decode yB 35 = .ok (.iinc 3 1, 3) := by decide +kernel
theorem d38 : decode yB 38 = .ok (.iinc 5 1, 3) := by decide +kernel
theorem d41 : decode yB 41 = .ok (.goto (-38), 3) := by decide +kernel
theorem d44 : decode yB 44 = .ok (.iload 4, 2) := by decide +kernel
theorem d46 : decode yB 46 = .ok (.ireturn, 1) := by decide +kernel
def site : List Cond := []
def tab : Cond := tabOf yN yB 7 (some .int) site
def P (b : Addr) (A : Cell) (d : Addr) (B : Cell) (o q len : Nat) (args : Array Value) (s : State) : Prop := args = #[.ref b, .int (Int32.ofNat o), .ref d, .int (Int32.ofNat q), .int (Int32.ofNat len)] ∧ Ch b A s ∧ Arr .byte d B s ∧ b ≠ d ∧ o + len ≤ A.slots.size ∧ q + len ≤ B.slots.size ∧ ∀ i, i < len → ¬ 255 < cv A (o + i)
def E (b : Addr) (A : Cell) (d : Addr) (B : Cell) (o q len : Nat) (r : Option Value) (s u : State) : Prop := r = some (.int (Int32.ofNat len)) ∧ ∃ B', Put d B' s u ∧ Laid B B' q (q + len) (fun j => Value.int (lo8 (cv A (o + (j - q)))))
/-- no char of the range above 255: len; the places written hold each char's low byte -/
theorem law (l : Launch) (b : Addr) (A : Cell) (d : Addr) (B : Cell) (o q len : Nat) : Law l yN 5 5 0 0 yB 7 (some .int) site (P b A d B o q len) (E b A d B o q len) (copyLocs d q len) 0 0 := by
  refine Law.of_walk (plainFor_of_name (by decide +kernel)) (by decide +kernel) (by decide +kernel) (by decide) (fun _ _ h => by rw [h.1]; rfl) (fun _ U U' hal hh h => ⟨h.1, h.2.1.mv hal hh, h.2.2.1.mv hal hh, h.2.2.2⟩) (fun r U U' V V' h1 hal h2 h => ⟨h.1, h.2.elim fun B' q => ⟨B', q.1.mv h1 h2, q.2⟩⟩) ?_
  intro p e s m args below meth c s₁ X0 hexec hbytes hml hret hlk hnm hown hh0 W hP
  obtain ⟨rfl, hA, hB, hne, l1, l2, hp⟩ := hP
  have c1 : Steps p.tables e below (s₁.setTop (entryFrame m #[.ref b, .int (Int32.ofNat o), .ref d, .int (Int32.ofNat q), .int (Int32.ofNat len)] 7)) (s₁.setTop (mkF m 0 #[.val (.ref b), .val (.int (Int32.ofNat o)), .val (.ref d), .val (.int (Int32.ofNat q)), .val (.int (Int32.ofNat len)), .unset, .unset] [])) := entry rfl
  have hA0 := hA.1.mv X0.warmed.alike hh0
  have hB0 := hB.mv X0.warmed.alike hh0
  have a31 := hA.1.2.2.2
  have c2 : Steps p.tables e below (s₁.setTop (entryFrame m #[.ref b, .int (Int32.ofNat o), .ref d, .int (Int32.ofNat q), .int (Int32.ofNat len)] 7)) (s₁.setTop (mkF m 3 #[.val (.ref b), .val (.int (Int32.ofNat o)), .val (.ref d), .val (.int (Int32.ofNat q)), .val (.int (Int32.ofNat len)), .val (.int 0), .unset] [])) := c1.trans (by
    refine iconstV X0.here hexec rfl 0 (hb hbytes d0) (by decide) ?_
    refine XS.istore X0.here hexec rfl (hb hbytes d1) rfl rfl ?_
    exact Steps.refl _)
  have loop : ∀ (r i : Nat), i + r = len → ∀ (z : Slot), (z = .unset ∨ ∃ w, z = .val w ∧ w.category = 1) → ∀ (Tl : State) (Bk : Cell), Stand p l e { frames := 0, locals := 0, cells := 0, slots := 0 } s m #[.ref b, .int (Int32.ofNat o), .ref d, .int (Int32.ofNat q), .int (Int32.ofNat len)] below meth c Tl ([] ++ copyLocs d q i) 0 0 → Put d Bk s₁ Tl → Laid B Bk q (q + i) (fun j => Value.int (lo8 (cv A (o + (j - q))))) →
      Steps p.tables e below (s₁.setTop (entryFrame m #[.ref b, .int (Int32.ofNat o), .ref d, .int (Int32.ofNat q), .int (Int32.ofNat len)] 7)) (Tl.setTop (mkF m 3 #[.val (.ref b), .val (.int (Int32.ofNat (o + i))), .val (.ref d), .val (.int (Int32.ofNat (q + i))), .val (.int (Int32.ofNat len)), .val (.int (Int32.ofNat i)), z] [])) → ∃ (T' : State) (B' : Cell) (z' : Slot), Stand p l e { frames := 0, locals := 0, cells := 0, slots := 0 } s m #[.ref b, .int (Int32.ofNat o), .ref d, .int (Int32.ofNat q), .int (Int32.ofNat len)] below meth c T' ([] ++ copyLocs d q len) 0 0 ∧ Put d B' s₁ T' ∧ Laid B B' q (q + len) (fun j => Value.int (lo8 (cv A (o + (j - q))))) ∧
      Steps p.tables e below (s₁.setTop (entryFrame m #[.ref b, .int (Int32.ofNat o), .ref d, .int (Int32.ofNat q), .int (Int32.ofNat len)] 7)) (T'.setTop (mkF m 3 #[.val (.ref b), .val (.int (Int32.ofNat (o + len))), .val (.ref d), .val (.int (Int32.ofNat (q + len))), .val (.int (Int32.ofNat len)), .val (.int (Int32.ofNat len)), z'] [])) := by
    intro r
    induction r with
    | zero =>
      intro i hi z hz Tl Bk Xl pl fl cl
      have hil : i = len := by omega
      rw [hil] at Xl fl cl
      exact ⟨Tl, Bk, z, Xl, pl, fl, cl⟩
    | succ r ih =>
      intro i hi z hz Tl Bk Xl pl fl cl
      have all := X0.warmed.alike.symm.trans Xl.warmed.alike
      have hAl := hA0.keep all (pl.other hne hA0.1)
      have hBk := hB0.like all pl.1 fl.1 fl.2.1 fl.2.2.1
      have hlt : q + i < Bk.slots.size := by rw [fl.2.2.1]; omega
      have c3 : Steps p.tables e below (s₁.setTop (entryFrame m #[.ref b, .int (Int32.ofNat o), .ref d, .int (Int32.ofNat q), .int (Int32.ofNat len)] 7)) (Tl.setTop (mkF m 12 #[.val (.ref b), .val (.int (Int32.ofNat (o + i))), .val (.ref d), .val (.int (Int32.ofNat (q + i))), .val (.int (Int32.ofNat len)), .val (.int (Int32.ofNat i)), z] [.int (Int32.ofNat (o + i)), .ref b])) := cl.trans (by
        refine XS.iload Xl.here hexec rfl (hb hbytes d3) rfl ?_
        refine XS.iload Xl.here hexec rfl (hb hbytes d5) rfl ?_
        refine XS.icmpNo Xl.here hexec rfl (hb hbytes d7) rfl (ii_ge_f (lt32 (by omega) (by omega))) ?_
        refine XS.aloadN Xl.here hexec rfl (hb hbytes d10) rfl rfl ?_
        refine XS.iloadN Xl.here hexec rfl (hb hbytes d11) rfl ?_
        exact Steps.refl _)
      have c4 : Steps p.tables e below (s₁.setTop (entryFrame m #[.ref b, .int (Int32.ofNat o), .ref d, .int (Int32.ofNat q), .int (Int32.ofNat len)] 7)) (Tl.setTop (mkF m 13 #[.val (.ref b), .val (.int (Int32.ofNat (o + i))), .val (.ref d), .val (.int (Int32.ofNat (q + i))), .val (.int (Int32.ofNat len)), .val (.int (Int32.ofNat i)), z] [.int (cv A (o + i))])) := c3.trans (by
        refine Xl.aget hexec hAl rfl (hA.get (i := o + i) (by omega)) rfl rfl (hb hbytes d12) ?_
        exact Steps.refl _)
      have c5 : Steps p.tables e below (s₁.setTop (entryFrame m #[.ref b, .int (Int32.ofNat o), .ref d, .int (Int32.ofNat q), .int (Int32.ofNat len)] 7)) (Tl.setTop (mkF m 15 #[.val (.ref b), .val (.int (Int32.ofNat (o + i))), .val (.ref d), .val (.int (Int32.ofNat (q + i))), .val (.int (Int32.ofNat len)), .val (.int (Int32.ofNat i)), .val (.int (cv A (o + i)))] [])) := c4.trans (by
        refine XS.istoreS Xl.here hexec rfl (hb hbytes d13) rfl rfl hz ?_
        exact Steps.refl _)
      have c6 : Steps p.tables e below (s₁.setTop (entryFrame m #[.ref b, .int (Int32.ofNat o), .ref d, .int (Int32.ofNat q), .int (Int32.ofNat len)] 7)) (Tl.setTop (mkF m 31 #[.val (.ref b), .val (.int (Int32.ofNat (o + i))), .val (.ref d), .val (.int (Int32.ofNat (q + i))), .val (.int (Int32.ofNat len)), .val (.int (Int32.ofNat i)), .val (.int (cv A (o + i)))] [.int (lo8 (cv A (o + i))), .int (Int32.ofNat (q + i)), .ref d])) := c5.trans (by
        refine XS.iload Xl.here hexec rfl (hb hbytes d15) rfl ?_
        refine sipushV Xl.here hexec rfl 255 (hb hbytes d17) (by decide) ?_
        refine XS.icmpYes Xl.here hexec rfl (pc0 := 20) rfl (hb hbytes d20) rfl (ii_le_t (hp i (by omega))) (by decide) rfl ?_
        refine XS.aloadN Xl.here hexec rfl (hb hbytes d26) rfl rfl ?_
        refine XS.iloadN Xl.here hexec rfl (hb hbytes d27) rfl ?_
        refine XS.iload Xl.here hexec rfl (hb hbytes d28) rfl ?_
        refine i2b Xl.here hexec rfl (hb hbytes d30) rfl ?_
        exact Steps.refl _)
      obtain ⟨T7, X7, p7, st7⟩ := Xl.aput hexec hBk rfl hlt rfl (fits_lo8 (cv A (o + i))) (g := (mkF m 31 #[.val (.ref b), .val (.int (Int32.ofNat (o + i))), .val (.ref d), .val (.int (Int32.ofNat (q + i))), .val (.int (Int32.ofNat len)), .val (.int (Int32.ofNat i)), .val (.int (cv A (o + i)))] [.int (lo8 (cv A (o + i))), .int (Int32.ofNat (q + i)), .ref d])) rfl (rest := []) rfl (hb hbytes d31)
      have c8 : Steps p.tables e below (s₁.setTop (entryFrame m #[.ref b, .int (Int32.ofNat o), .ref d, .int (Int32.ofNat q), .int (Int32.ofNat len)] 7)) (T7.setTop (mkF m 32 #[.val (.ref b), .val (.int (Int32.ofNat (o + i))), .val (.ref d), .val (.int (Int32.ofNat (q + i))), .val (.int (Int32.ofNat len)), .val (.int (Int32.ofNat i)), .val (.int (cv A (o + i)))] [])) := c6.trans (st7 _ (Steps.refl _))
      have c9 : Steps p.tables e below (s₁.setTop (entryFrame m #[.ref b, .int (Int32.ofNat o), .ref d, .int (Int32.ofNat q), .int (Int32.ofNat len)] 7)) (T7.setTop (mkF m 3 #[.val (.ref b), .val (.int (Int32.ofNat (o + i) + 1)), .val (.ref d), .val (.int (Int32.ofNat (q + i) + 1)), .val (.int (Int32.ofNat len)), .val (.int (Int32.ofNat i + 1)), .val (.int (cv A (o + i)))] [])) := c8.trans (by
        refine iincV X7.here hexec rfl 1 (hb hbytes d32) (by decide) rfl rfl ?_
        refine iincV X7.here hexec rfl 1 (hb hbytes d35) (by decide) rfl rfl ?_
        refine iincV X7.here hexec rfl 1 (hb hbytes d38) (by decide) rfl rfl ?_
        refine XS.goto X7.here hexec rfl (pc0 := 41) rfl (hb hbytes d41) (by decide) rfl ?_
        exact Steps.refl _)
      have c10 : Steps p.tables e below (s₁.setTop (entryFrame m #[.ref b, .int (Int32.ofNat o), .ref d, .int (Int32.ofNat q), .int (Int32.ofNat len)] 7)) (T7.setTop (mkF m 3 #[.val (.ref b), .val (.int (Int32.ofNat (o + (i + 1)))), .val (.ref d), .val (.int (Int32.ofNat (q + (i + 1)))), .val (.int (Int32.ofNat len)), .val (.int (Int32.ofNat (i + 1))), .val (.int (cv A (o + i)))] [])) := by
        have := c9
        rw [succ32, succ32, succ32] at this
        exact this
      exact ih (i + 1) (by omega) _ (Or.inr ⟨_, rfl, rfl⟩) T7 _ (by rw [copyLocs_step, ← List.append_assoc]; exact X7) (pl.trans p7) (fl.step (by omega) hlt (by simp)) c10
  obtain ⟨T9, B9, z9, X9, p9, f9, g9⟩ := loop len 0 (by omega) .unset (Or.inl rfl) s₁ B (by simpa [copyLocs] using X0) ⟨hB0.1, fun _ _ => rfl, rfl⟩ (Laid.zero _ _ _) c2
  have c11 : Steps p.tables e below (s₁.setTop (entryFrame m #[.ref b, .int (Int32.ofNat o), .ref d, .int (Int32.ofNat q), .int (Int32.ofNat len)] 7)) (T9.setTop (mkF m 46 #[.val (.ref b), .val (.int (Int32.ofNat (o + len))), .val (.ref d), .val (.int (Int32.ofNat (q + len))), .val (.int (Int32.ofNat len)), .val (.int (Int32.ofNat len)), z9] [.int (Int32.ofNat len)])) := g9.trans (by
    refine XS.iload X9.here hexec rfl (hb hbytes d3) rfl ?_
    refine XS.iload X9.here hexec rfl (hb hbytes d5) rfl ?_
    refine XS.icmpYes X9.here hexec rfl (pc0 := 7) rfl (hb hbytes d7) rfl (ii_ge_t (nlt32 (by omega) (Nat.le_refl _))) (by decide) rfl ?_
    refine XS.iload X9.here hexec rfl (hb hbytes d44) rfl ?_
    exact Steps.refl _)
  exact ⟨T9, some (.int (Int32.ofNat len)), _, _, _, X9, by simp, rfl, rfl, (fun h => by cases h), ⟨rfl, B9, p9.from hh0, f9⟩, fun fs hl => c11.trans (X9.ireturnOut hexec hret rfl (Or.inl rfl) (hb hbytes d46) hl)⟩
end Cmp5
namespace Cmp3
def yN : MethodName := ⟨"java/lang/StringUTF16", "compress", "([CII)[B"⟩
abbrev yB : ByteArray := jdk_52_method_16_code
theorem d0 : decode yB 0 = .ok (.iload_n 2, 1) := by decide +kernel
theorem d1 : decode yB 1 = .ok (.newarray .byte, 2) := by decide +kernel
theorem d3 : decode yB 3 = .ok (.astore_n 3, 1) := by decide +kernel
theorem d4 : decode yB 4 = .ok (.aload_n 0, 1) := by decide +kernel
theorem d5 : decode yB 5 = .ok (.iload_n 1, 1) := by decide +kernel
theorem d6 : decode yB 6 = .ok (.aload_n 3, 1) := by decide +kernel
theorem d7 : decode yB 7 = .ok (.iconst 0, 1) := by decide +kernel
theorem d8 : decode yB 8 = .ok (.iload_n 2, 1) := by decide +kernel
theorem d9 : decode yB 9 = .ok (.invokestatic 115, 3) := by decide +kernel
theorem d12 : decode yB 12 = .ok (.istore 4, 2) := by decide +kernel
theorem d14 : decode yB 14 = .ok (.iload 4, 2) := by decide +kernel
theorem d16 : decode yB 16 = .ok (.iload_n 2, 1) := by decide +kernel
theorem d17 : decode yB 17 = .ok (.if_icmp (.eq) 40, 3) := by decide +kernel
theorem d57 : decode yB 57 = .ok (.aload_n 3, 1) := by decide +kernel
theorem d58 : decode yB 58 = .ok (.areturn, 1) := by decide +kernel
def site : List Cond := [.arrayClass .byte, Cmp5.tab] ++ staticW U16 115 Cmp5.yN
def tab : Cond := tabOf yN yB 6 (some (.array .byte)) site
def P (b : Addr) (A : Cell) (o len : Nat) (args : Array Value) (s : State) : Prop := args = #[.ref b, .int (Int32.ofNat o), .int (Int32.ofNat len)] ∧ Ch b A s ∧ o + len ≤ A.slots.size ∧ len ≤ 536870912 ∧ ∀ i, i < len → ¬ 255 < cv A (o + i)
def E (b : Addr) (A : Cell) (o len : Nat) (r : Option Value) (s u : State) : Prop := NewArr .byte "[B" len (fun j => .int (lo8 (cv A (o + j)))) r s u ∧ u.heap.size = s.heap.size + 1
/-- no char of the range above 255: a new byte[] of their low bytes -/
theorem law (l : Launch) (b : Addr) (A : Cell) (o len : Nat) : Law l yN 3 3 1 18 yB 6 (some (.array .byte)) site (P b A o len) (E b A o len) [] 1 len := by
  refine Law.of_walk (plainFor_of_name (by decide +kernel)) (by decide +kernel) (by decide +kernel) (by decide) (fun _ _ h => by rw [h.1]; rfl) (fun _ U U' hal hh h => ⟨h.1, h.2.1.mv hal hh, h.2.2⟩) (fun r U U' V V' h1 hal h2 h => ⟨NewArr.mv r U U' V V' h1 hal h2 h.1, by rw [h1, h2]; exact h.2⟩) ?_
  intro p e s m args below meth c s₁ X0 hexec hbytes hml hret hlk hnm hown hh0 W hP
  obtain ⟨rfl, hA, l1, l2, hp⟩ := hP
  have a31 := hA.1.2.2.2
  have c1 : Steps p.tables e below (s₁.setTop (entryFrame m #[.ref b, .int (Int32.ofNat o), .int (Int32.ofNat len)] 6)) (s₁.setTop (mkF m 0 #[.val (.ref b), .val (.int (Int32.ofNat o)), .val (.int (Int32.ofNat len)), .unset, .unset, .unset] [])) := entry rfl
  have c2 : Steps p.tables e below (s₁.setTop (entryFrame m #[.ref b, .int (Int32.ofNat o), .int (Int32.ofNat len)] 6)) (s₁.setTop (mkF m 1 #[.val (.ref b), .val (.int (Int32.ofNat o)), .val (.int (Int32.ofNat len)), .unset, .unset, .unset] [.int (Int32.ofNat len)])) := c1.trans (by
    refine XS.iloadN X0.here hexec rfl (hb hbytes d0) rfl ?_
    exact Steps.refl _)
  obtain ⟨T3, B3, X3, ba3, bs3, bv3, bh3, bf3, st3⟩ := X0.anew hexec (atype := .byte) (wk W (.arrayClass .byte)) rfl (by show len * 1 ≤ _; omega) (by omega) (g := (mkF m 1 #[.val (.ref b), .val (.int (Int32.ofNat o)), .val (.int (Int32.ofNat len)), .unset, .unset, .unset] [.int (Int32.ofNat len)])) rfl (hb hbytes d1) (rest := []) rfl (Nat.le_refl _) (by show 0 + len ≤ len; omega)
  rw [hh0] at ba3 st3
  have kp3 : XT.Kept s T3 := (XT.Kept.of_eq hh0).push bh3
  have hA3 := hA.keep X3.warmed.alike (kp3 _ _ hA.1.1)
  have hne : b ≠ s.heap.size := hA.1.ne
  have c4 : Steps p.tables e below (s₁.setTop (entryFrame m #[.ref b, .int (Int32.ofNat o), .int (Int32.ofNat len)] 6)) (T3.setTop (mkF m 3 #[.val (.ref b), .val (.int (Int32.ofNat o)), .val (.int (Int32.ofNat len)), .unset, .unset, .unset] [.ref s.heap.size])) := c2.trans (st3 _ (Steps.refl _))
  have c5 : Steps p.tables e below (s₁.setTop (entryFrame m #[.ref b, .int (Int32.ofNat o), .int (Int32.ofNat len)] 6)) (T3.setTop (mkF m 9 #[.val (.ref b), .val (.int (Int32.ofNat o)), .val (.int (Int32.ofNat len)), .val (.ref s.heap.size), .unset, .unset] [.int (Int32.ofNat len), .int 0, .ref s.heap.size, .int (Int32.ofNat o), .ref b])) := c4.trans (by
    refine XS.astoreN X3.here hexec rfl (hb hbytes d3) rfl rfl rfl ?_
    refine XS.aloadN X3.here hexec rfl (hb hbytes d4) rfl rfl ?_
    refine XS.iloadN X3.here hexec rfl (hb hbytes d5) rfl ?_
    refine XS.aloadN X3.here hexec rfl (hb hbytes d6) rfl rfl ?_
    refine iconstV X3.here hexec rfl 0 (hb hbytes d7) (by decide) ?_
    refine XS.iloadN X3.here hexec rfl (hb hbytes d8) rfl ?_
    exact Steps.refl _)
  obtain ⟨v6, T6, X6, E6, g6⟩ := X3.callS hexec (Cmp5.law l b A s.heap.size B3 o 0 len) hown (wks W (staticW U16 115 Cmp5.yN)) (wk W Cmp5.tab) (W := 0) (Nat.le_of_ble_eq_true rfl) (Nat.le_of_ble_eq_true rfl) (Nat.le_refl _) (by show 0 + len + 0 ≤ len; omega) (g := (mkF m 9 #[.val (.ref b), .val (.int (Int32.ofNat o)), .val (.int (Int32.ofNat len)), .val (.ref s.heap.size), .unset, .unset] [.int (Int32.ofNat len), .int (Int32.ofNat 0), .ref s.heap.size, .int (Int32.ofNat o), .ref b])) rfl (by rw [hml]; rfl) c5 (argsL := [.ref b, .int (Int32.ofNat o), .ref s.heap.size, .int (Int32.ofNat 0), .int (Int32.ofNat len)]) (rest := []) rfl rfl (by show 2 * 0 + 0 ≤ _; decide) (hb hbytes d9) (⟨rfl, hA3, ba3, hne, l1, by rw [bs3]; simp, hp⟩)
  obtain ⟨rfl, B6, p6, f6⟩ := E6
  have c7 : Steps p.tables e below (s₁.setTop (entryFrame m #[.ref b, .int (Int32.ofNat o), .int (Int32.ofNat len)] 6)) (T6.setTop (mkF m 12 #[.val (.ref b), .val (.int (Int32.ofNat o)), .val (.int (Int32.ofNat len)), .val (.ref s.heap.size), .unset, .unset] [.int (Int32.ofNat len)])) := g6
  have c8 : Steps p.tables e below (s₁.setTop (entryFrame m #[.ref b, .int (Int32.ofNat o), .int (Int32.ofNat len)] 6)) (T6.setTop (mkF m 58 #[.val (.ref b), .val (.int (Int32.ofNat o)), .val (.int (Int32.ofNat len)), .val (.ref s.heap.size), .val (.int (Int32.ofNat len)), .unset] [.ref s.heap.size])) := c7.trans (by
    refine XS.istore X6.here hexec rfl (hb hbytes d12) rfl rfl ?_
    refine XS.iload X6.here hexec rfl (hb hbytes d14) rfl ?_
    refine XS.iloadN X6.here hexec rfl (hb hbytes d16) rfl ?_
    refine XS.icmpYes X6.here hexec rfl (pc0 := 17) rfl (hb hbytes d17) rfl (ii_eq_t rfl) (by decide) rfl ?_
    refine XS.aloadN X6.here hexec rfl (hb hbytes d57) rfl rfl ?_
    exact Steps.refl _)
  have X8 := X6.wide (L' := []) (cells' := 1) (slots' := len) (fun x hx hlt => by
    simp only [List.nil_append, copyLocs, List.mem_map, List.mem_range] at hx
    obtain ⟨i, -, rfl⟩ := hx
    exact absurd hlt (Nat.lt_irrefl _)) (Nat.le_refl _) (by omega)
  exact ⟨T6, some (.ref s.heap.size), _, _, _, X8, rfl, rfl, rfl, (fun h => by cases h), ⟨⟨rfl, B6, ba3.like (X3.warmed.alike.symm.trans X6.warmed.alike) p6.1 f6.1 f6.2.1 f6.2.2.1, f6.2.1.trans bv3, by rw [X6.warmed.alike.findClass, f6.1]; exact bf3, by rw [f6.2.2.1, bs3]; simp, fun j hj => by rw [f6.2.2.2 j, if_pos (by omega)]; rfl, kp3.put p6 (Nat.le_refl _)⟩, by rw [p6.2.2, bh3, hh0]; simp⟩, fun fs hl => c8.trans (X8.areturnOut hexec rfl hret rfl (hb hbytes d58) hl)⟩
end Cmp3
namespace CodL
def yN : MethodName := ⟨"java/lang/StringUTF16", "coderFromArrayLen", "([BI)B"⟩
abbrev yB : ByteArray := jdk_52_method_15_code
theorem d0 : decode yB 0 = .ok (.iload_n 1, 1) := by decide +kernel
theorem d1 : decode yB 1 = .ok (.aload_n 0, 1) := by decide +kernel
theorem d2 : decode yB 2 = .ok (.arraylength, 1) := by decide +kernel
theorem d3 : decode yB 3 = .ok (.isub, 1) := by decide +kernel
theorem d4 : decode yB 4 = .ok (.bipush 31, 2) := by decide +kernel
theorem d6 : decode yB 6 = .ok (.iushr, 1) := by decide +kernel
theorem d7 : decode yB 7 = .ok (.i2b, 1) := by decide +kernel
theorem d8 : decode yB 8 = .ok (.ireturn, 1) := by decide +kernel
def site : List Cond := []
def tab : Cond := tabOf yN yB 2 (some .byte) site
def P (d : Addr) (B : Cell) (args : Array Value) (s : State) : Prop := args = #[.ref d, .int (Int32.ofNat B.slots.size)] ∧ Arr .byte d B s
def E (r : Option Value) (s u : State) : Prop := XT.PureE (some (.int 0)) r s u
/-- an array as long as the number of chars: LATIN1 -/
theorem law (l : Launch) (d : Addr) (B : Cell) : Law l yN 2 2 0 0 yB 2 (some .byte) site (P d B) E [] 0 0 := by
  refine Law.of_walk (plainFor_of_name (by decide +kernel)) (by decide +kernel) (by decide +kernel) (by decide) (fun _ _ h => by rw [h.1]; rfl) (fun _ U U' hal hh h => ⟨h.1, h.2.mv hal hh⟩) (fun r U U' V V' h1 hal h2 h => XT.PureE.mv r U U' V V' h1 hal h2 h) ?_
  intro p e s m args below meth c s₁ X0 hexec hbytes hml hret hlk hnm hown hh0 W hP
  obtain ⟨rfl, hB⟩ := hP
  have hB0 := hB.mv X0.warmed.alike hh0
  have c1 : Steps p.tables e below (s₁.setTop (entryFrame m #[.ref d, .int (Int32.ofNat B.slots.size)] 2)) (s₁.setTop (mkF m 0 #[.val (.ref d), .val (.int (Int32.ofNat B.slots.size))] [])) := entry rfl
  have c2 : Steps p.tables e below (s₁.setTop (entryFrame m #[.ref d, .int (Int32.ofNat B.slots.size)] 2)) (s₁.setTop (mkF m 2 #[.val (.ref d), .val (.int (Int32.ofNat B.slots.size))] [.ref d, .int (Int32.ofNat B.slots.size)])) := c1.trans (by
    refine XS.iloadN X0.here hexec rfl (hb hbytes d0) rfl ?_
    refine XS.aloadN X0.here hexec rfl (hb hbytes d1) rfl rfl ?_
    exact Steps.refl _)
  have c3 : Steps p.tables e below (s₁.setTop (entryFrame m #[.ref d, .int (Int32.ofNat B.slots.size)] 2)) (s₁.setTop (mkF m 8 #[.val (.ref d), .val (.int (Int32.ofNat B.slots.size))] [.int (lo8 (ushr (Int32.ofNat B.slots.size - Int32.ofNat B.slots.size) 31))])) := c2.trans (by
    refine X0.alen hexec hB0 rfl rfl (hb hbytes d2) ?_
    refine XS.isub X0.here hexec rfl (hb hbytes d3) rfl ?_
    refine bipushV X0.here hexec rfl 31 (hb hbytes d4) (by decide) ?_
    refine iushr X0.here hexec rfl (hb hbytes d6) rfl ?_
    refine i2b X0.here hexec rfl (hb hbytes d7) rfl ?_
    exact Steps.refl _)
  have e0 : lo8 (ushr (Int32.ofNat B.slots.size - Int32.ofNat B.slots.size) 31) = 0 := by rw [Int32.sub_self]; decide
  rw [e0] at c3
  exact ⟨s₁, some (.int 0), _, _, _, X0, rfl, rfl, rfl, (fun h => by cases h), ⟨rfl, hh0⟩, fun fs hl => c3.trans (X0.ireturnOut hexec hret rfl (Or.inr (Or.inr (Or.inl rfl))) (hb hbytes d8) hl)⟩
end CodL
/-- the String at a is Latin-1 over a new byte[] (the heap's one new cell): the low bytes of the len chars of A from o on; every cell but a is kept -/
def Got (a : Addr) (D : Cell) (fV fC : Field) (A : Cell) (o len : Nat) (r : Option Value) (s u : State) : Prop := r = none ∧ ∃ D' V : Cell, Blank "java/lang/String" a D' u ∧ Same D D' [fV.slot, fC.slot] ∧ D'.slots[fV.slot]? = some (.ref s.heap.size) ∧ D'.slots[fC.slot]? = some (.int 0) ∧ Arr .byte s.heap.size V u ∧ V.vm = .none ∧ u.vm.findClass "[B" = some V.cls ∧ V.slots.size = len ∧ (∀ j, j < len → V.slots[j]? = some (.int (lo8 (cv A (o + j))))) ∧ (∀ (y : Addr) (c : Cell), y ≠ a → s.heap[y]? = some c → u.heap[y]? = some c) ∧ u.heap.size = s.heap.size + 1
theorem Got.mv {a : Addr} {D A : Cell} {fV fC : Field} {o len : Nat} : ∀ r (U U' V V' : State), U'.heap = U.heap → V.vm.Alike V'.vm → V'.heap = V.heap → Got a D fV fC A o len r U V → Got a D fV fC A o len r U' V' :=
  fun r U U' V V' h1 hal h2 ⟨e0, D', X, a1, a2, a3, a4, a5, a6, a7, a8, a9, a10, a11⟩ => ⟨e0, D', X, a1.mv hal h2, a2, by rw [h1]; exact a3, a4, by rw [h1]; exact a5.mv hal h2, a6, by rw [hal.findClass]; exact a7, a8, a9, by rw [h1, h2]; exact a10, by rw [h1, h2]; exact a11⟩
namespace New4
def yN : MethodName := ⟨"java/lang/String", "<init>", "([CIILjava/lang/Void;)V"⟩
abbrev yB : ByteArray := jdk_42_method_149_code
theorem d0 : decode yB 0 = .ok (.aload_n 0, 1) := by decide +kernel
theorem d1 : decode yB 1 = .ok (.invokespecial 1, 3) := by decide +kernel
theorem d4 : decode yB 4 = .ok (.iload_n 3, 1) := by decide +kernel
theorem d5 : decode yB 5 = .ok (.ifCond (.ne) 22, 3) := by decide +kernel
theorem d27 : decode yB 27 = .ok (.getstatic 38, 3) := by decide +kernel
theorem d30 : decode yB 30 = .ok (.ifCond (.eq) 28, 3) := by decide +kernel
theorem d33 : decode yB 33 = .ok (.aload_n 1, 1) := by decide +kernel
theorem d34 : decode yB 34 = .ok (.iload_n 2, 1) := by decide +kernel
theorem d35 : decode yB 35 = .ok (.iload_n 3, 1) := by decide +kernel
theorem d36 : decode yB 36 = .ok (.invokestatic 177, 3) := by decide +kernel
theorem d39 : decode yB 39 = .ok (.astore 5, 2) := by decide +kernel
theorem d41 : decode yB 41 = .ok (.aload_n 0, 1) := by decide +kernel
theorem d42 : decode yB 42 = .ok (.aload 5, 2) := by decide +kernel
theorem d44 : decode yB 44 = .ok (.iload_n 3, 1) := by decide +kernel
theorem d45 : decode yB 45 = .ok (.invokestatic 47, 3) := by decide +kernel
theorem d48 : decode yB 48 = .ok (.putfield 15, 3) := by decide +kernel
theorem d51 : decode yB 51 = .ok (.aload_n 0, 1) := by decide +kernel
theorem d52 : decode yB 52 = .ok (.aload 5, 2) := by decide +kernel
theorem d54 : decode yB 54 = .ok (.putfield 9, 3) := by decide +kernel
theorem d57 : decode yB 57 = .ok (.return_, 1) := by decide +kernel
def site : List Cond := [.fieldLink "java/lang/String" 38 "java/lang/String" "COMPACT_STRINGS" "Z", Cmp3.tab, CodL.tab, .laysFinal "java/lang/String" "java/lang/String" "value" "[B", .fieldLink "java/lang/String" 9 "java/lang/String" "value" "[B", .laysFinal "java/lang/String" "java/lang/String" "coder" "B", .fieldLink "java/lang/String" 15 "java/lang/String" "coder" "B"] ++ objW "java/lang/String" 1 ++ staticW "java/lang/String" 177 Cmp3.yN ++ staticW "java/lang/String" 47 CodL.yN
def tab : Cond := tabOf yN yB 6 none site
def P (a : Addr) (D : Cell) (fV fC : Field) (b : Addr) (A : Cell) (z : Int32) (o len : Nat) (args : Array Value) (s : State) : Prop := args = #[.ref a, .ref b, .int (Int32.ofNat o), .int (Int32.ofNat len), .null] ∧ Blank "java/lang/String" a D s ∧ Found "java/lang/String" "value" "[B" fV s ∧ Found "java/lang/String" "coder" "B" fC s ∧ Ch b A s ∧ StaticIs s "java/lang/String" "COMPACT_STRINGS" "Z" (.int z) ∧ ¬ z = 0 ∧ 0 < len ∧ o + len ≤ A.slots.size ∧ len ≤ 536870912 ∧ ∀ i, i < len → ¬ 255 < cv A (o + i)
def E (a : Addr) (D : Cell) (fV fC : Field) (A : Cell) (o len : Nat) (r : Option Value) (s u : State) : Prop := Got a D fV fC A o len r s u
/-- len > 0, no char of the range above 255: a Latin-1 String of their low bytes -/
theorem law (l : Launch) (a : Addr) (D : Cell) (fV fC : Field) (b : Addr) (A : Cell) (z : Int32) (o len : Nat) : Law l yN 5 4 2 35 yB 6 none site (P a D fV fC b A z o len) (E a D fV fC A o len) [⟨a, fC.slot⟩, ⟨a, fV.slot⟩] 1 len := by
  refine Law.of_walk (plainFor_of_name (by decide +kernel)) (by decide +kernel) (by decide +kernel) (by decide) (fun _ _ h => by rw [h.1]; rfl) (fun _ U U' hal hh h => ⟨h.1, h.2.1.mv hal hh, h.2.2.1.al hal, h.2.2.2.1.al hal, h.2.2.2.2.1.mv hal hh, h.2.2.2.2.2.1.there hal hh, h.2.2.2.2.2.2⟩) (fun r U U' V V' h1 hal h2 h => Got.mv r U U' V V' h1 hal h2 h) ?_
  intro p e s m args below meth c s₁ X0 hexec hbytes hml hret hlk hnm hown hh0 W hP
  obtain ⟨rfl, hB, f1, f2, hA, s1, hz, l0, l1, l2, hp⟩ := hP
  have a31 := hA.1.2.2.2
  have c1 : Steps p.tables e below (s₁.setTop (entryFrame m #[.ref a, .ref b, .int (Int32.ofNat o), .int (Int32.ofNat len), .null] 6)) (s₁.setTop (mkF m 0 #[.val (.ref a), .val (.ref b), .val (.int (Int32.ofNat o)), .val (.int (Int32.ofNat len)), .val .null, .unset] [])) := entry rfl
  have c2 : Steps p.tables e below (s₁.setTop (entryFrame m #[.ref a, .ref b, .int (Int32.ofNat o), .int (Int32.ofNat len), .null] 6)) (s₁.setTop (mkF m 1 #[.val (.ref a), .val (.ref b), .val (.int (Int32.ofNat o)), .val (.int (Int32.ofNat len)), .val .null, .unset] [.ref a])) := c1.trans (by
    refine XS.aloadN X0.here hexec rfl (hb hbytes d0) rfl rfl ?_
    exact Steps.refl _)
  obtain ⟨T3, X3, q3, st3⟩ := X0.oinit hexec hown (wks W (objW "java/lang/String" 1)) (g := (mkF m 1 #[.val (.ref a), .val (.ref b), .val (.int (Int32.ofNat o)), .val (.int (Int32.ofNat len)), .val .null, .unset] [.ref a])) rfl (by rw [hml]; rfl) (rest := []) rfl (hb hbytes d1) (W := 0) (by show 2 * 0 + 0 ≤ _; decide) (Nat.le_of_ble_eq_true rfl) (Nat.le_of_ble_eq_true rfl)
  have hh3 := q3.trans hh0
  have c4 : Steps p.tables e below (s₁.setTop (entryFrame m #[.ref a, .ref b, .int (Int32.ofNat o), .int (Int32.ofNat len), .null] 6)) (T3.setTop (mkF m 27 #[.val (.ref a), .val (.ref b), .val (.int (Int32.ofNat o)), .val (.int (Int32.ofNat len)), .val .null, .unset] [])) := (c2.trans (st3 _ (Steps.refl _))).trans (by
    refine XS.iloadN X3.here hexec rfl (hb hbytes d4) rfl ?_
    refine XS.ifYes X3.here hexec rfl (pc0 := 5) rfl (hb hbytes d5) rfl (i0_ne_t (nz32 (by omega) l0)) (by decide) rfl ?_
    exact Steps.refl _)
  obtain ⟨T5, X5, q5, st5⟩ := X3.sget hexec hown (wk W (.fieldLink "java/lang/String" 38 "java/lang/String" "COMPACT_STRINGS" "Z")) s1 (fun _ _ h => by rw [hh3]; exact h) (g := (mkF m 27 #[.val (.ref a), .val (.ref b), .val (.int (Int32.ofNat o)), .val (.int (Int32.ofNat len)), .val .null, .unset] [])) rfl (hb hbytes d27)
  have hh5 := q5.trans hh3
  have c6 : Steps p.tables e below (s₁.setTop (entryFrame m #[.ref a, .ref b, .int (Int32.ofNat o), .int (Int32.ofNat len), .null] 6)) (T5.setTop (mkF m 30 #[.val (.ref a), .val (.ref b), .val (.int (Int32.ofNat o)), .val (.int (Int32.ofNat len)), .val .null, .unset] [.int z])) := c4.trans (st5 _ (Steps.refl _))
  have c7 : Steps p.tables e below (s₁.setTop (entryFrame m #[.ref a, .ref b, .int (Int32.ofNat o), .int (Int32.ofNat len), .null] 6)) (T5.setTop (mkF m 36 #[.val (.ref a), .val (.ref b), .val (.int (Int32.ofNat o)), .val (.int (Int32.ofNat len)), .val .null, .unset] [.int (Int32.ofNat len), .int (Int32.ofNat o), .ref b])) := c6.trans (by
    refine XS.ifNo X5.here hexec rfl (hb hbytes d30) rfl (i0_eq_f hz) ?_
    refine XS.aloadN X5.here hexec rfl (hb hbytes d33) rfl rfl ?_
    refine XS.iloadN X5.here hexec rfl (hb hbytes d34) rfl ?_
    refine XS.iloadN X5.here hexec rfl (hb hbytes d35) rfl ?_
    exact Steps.refl _)
  obtain ⟨v8, T8, X8, E8, g8⟩ := X5.callS hexec (Cmp3.law l b A o len) hown (wks W (staticW "java/lang/String" 177 Cmp3.yN)) (wk W Cmp3.tab) (W := 0) (Nat.le_of_ble_eq_true rfl) (Nat.le_of_ble_eq_true rfl) (Nat.le_refl _) (by show 0 + len ≤ len; omega) (g := (mkF m 36 #[.val (.ref a), .val (.ref b), .val (.int (Int32.ofNat o)), .val (.int (Int32.ofNat len)), .val .null, .unset] [.int (Int32.ofNat len), .int (Int32.ofNat o), .ref b])) rfl (by rw [hml]; rfl) c7 (argsL := [.ref b, .int (Int32.ofNat o), .int (Int32.ofNat len)]) (rest := []) rfl rfl (by show 2 * 0 + 0 ≤ _; decide) (hb hbytes d36) (⟨rfl, hA.mv X5.warmed.alike hh5, l1, l2, hp⟩)
  obtain ⟨e8, z8⟩ := E8
  obtain ⟨rfl, N, n1, n2, n3, n4, n5, n6⟩ := NewArr.mv _ T5 s _ _ hh5.symm (Vm.Alike.refl _) rfl e8
  rw [hh5] at z8
  have hB1 := hB.keep X8.warmed.alike (n6 _ _ hB.1)
  have hne : s.heap.size ≠ a := (Nat.ne_of_lt (Array.getElem?_eq_some_iff.mp hB.1).1).symm
  have c9 : Steps p.tables e below (s₁.setTop (entryFrame m #[.ref a, .ref b, .int (Int32.ofNat o), .int (Int32.ofNat len), .null] 6)) (T8.setTop (mkF m 39 #[.val (.ref a), .val (.ref b), .val (.int (Int32.ofNat o)), .val (.int (Int32.ofNat len)), .val .null, .unset] [.ref s.heap.size])) := g8
  have c10 : Steps p.tables e below (s₁.setTop (entryFrame m #[.ref a, .ref b, .int (Int32.ofNat o), .int (Int32.ofNat len), .null] 6)) (T8.setTop (mkF m 45 #[.val (.ref a), .val (.ref b), .val (.int (Int32.ofNat o)), .val (.int (Int32.ofNat len)), .val .null, .val (.ref s.heap.size)] [.int (Int32.ofNat N.slots.size), .ref s.heap.size, .ref a])) := by
    have hc : Steps p.tables e below (s₁.setTop (entryFrame m #[.ref a, .ref b, .int (Int32.ofNat o), .int (Int32.ofNat len), .null] 6)) (T8.setTop (mkF m 45 #[.val (.ref a), .val (.ref b), .val (.int (Int32.ofNat o)), .val (.int (Int32.ofNat len)), .val .null, .val (.ref s.heap.size)] [.int (Int32.ofNat len), .ref s.heap.size, .ref a])) := c9.trans (by
      refine XS.astore X8.here hexec rfl (hb hbytes d39) rfl rfl rfl ?_
      refine XS.aloadN X8.here hexec rfl (hb hbytes d41) rfl rfl ?_
      refine XS.aload X8.here hexec rfl (hb hbytes d42) rfl rfl ?_
      refine XS.iloadN X8.here hexec rfl (hb hbytes d44) rfl ?_
      exact Steps.refl _)
    rw [n4]; exact hc
  obtain ⟨v11, T11, X11, E11, g11⟩ := X8.callS hexec (CodL.law l s.heap.size N) hown (wks W (staticW "java/lang/String" 47 CodL.yN)) (wk W CodL.tab) (W := 1) (Nat.le_of_ble_eq_true rfl) (Nat.le_of_ble_eq_true rfl) (Nat.le_refl _) (by show 0 + len + 0 ≤ len; omega) (g := (mkF m 45 #[.val (.ref a), .val (.ref b), .val (.int (Int32.ofNat o)), .val (.int (Int32.ofNat len)), .val .null, .val (.ref s.heap.size)] [.int (Int32.ofNat N.slots.size), .ref s.heap.size, .ref a])) rfl (by rw [hml]; rfl) c10 (argsL := [.ref s.heap.size, .int (Int32.ofNat N.slots.size)]) (rest := [.ref a]) rfl rfl (by show 2 * 0 + (1 + 0) ≤ _; decide) (hb hbytes d45) (⟨rfl, n1⟩)
  obtain ⟨rfl, q11⟩ := E11
  have hB11 := hB1.mv (X8.warmed.alike.symm.trans X11.warmed.alike) q11
  have c12 : Steps p.tables e below (s₁.setTop (entryFrame m #[.ref a, .ref b, .int (Int32.ofNat o), .int (Int32.ofNat len), .null] 6)) (T11.setTop (mkF m 48 #[.val (.ref a), .val (.ref b), .val (.int (Int32.ofNat o)), .val (.int (Int32.ofNat len)), .val .null, .val (.ref s.heap.size)] [.int 0, .ref a])) := g11
  obtain ⟨T13, X13, p13, bl13, sl13, st13⟩ := X11.finit hexec hown (wk W (.fieldLink "java/lang/String" 15 "java/lang/String" "coder" "B")) (Or.inr ⟨_, (wk W (.laysFinal "java/lang/String" "java/lang/String" "coder" "B"))⟩) (Or.inl ⟨rfl, hnm⟩) f2 (Or.inl rfl) hB11 (t := .byte) (by decide +kernel) rfl (g := (mkF m 48 #[.val (.ref a), .val (.ref b), .val (.int (Int32.ofNat o)), .val (.int (Int32.ofNat len)), .val .null, .val (.ref s.heap.size)] [.int 0, .ref a])) rfl (rest := []) rfl (hb hbytes d48)
  have c14 : Steps p.tables e below (s₁.setTop (entryFrame m #[.ref a, .ref b, .int (Int32.ofNat o), .int (Int32.ofNat len), .null] 6)) (T13.setTop (mkF m 54 #[.val (.ref a), .val (.ref b), .val (.int (Int32.ofNat o)), .val (.int (Int32.ofNat len)), .val .null, .val (.ref s.heap.size)] [.ref s.heap.size, .ref a])) := (c12.trans (st13 _ (Steps.refl _))).trans (by
    refine XS.aloadN X13.here hexec rfl (hb hbytes d51) rfl rfl ?_
    refine XS.aload X13.here hexec rfl (hb hbytes d52) rfl rfl ?_
    exact Steps.refl _)
  obtain ⟨T15, X15, p15, bl15, sl15, st15⟩ := X13.finit hexec hown (wk W (.fieldLink "java/lang/String" 9 "java/lang/String" "value" "[B")) (Or.inr ⟨_, (wk W (.laysFinal "java/lang/String" "java/lang/String" "value" "[B"))⟩) (Or.inl ⟨rfl, hnm⟩) f1 (Or.inl rfl) bl13 (t := (.array .byte)) (by decide +kernel) rfl (g := (mkF m 54 #[.val (.ref a), .val (.ref b), .val (.int (Int32.ofNat o)), .val (.int (Int32.ofNat len)), .val .null, .val (.ref s.heap.size)] [.ref s.heap.size, .ref a])) rfl (rest := []) rfl (hb hbytes d54)
  have c16 : Steps p.tables e below (s₁.setTop (entryFrame m #[.ref a, .ref b, .int (Int32.ofNat o), .int (Int32.ofNat len), .null] 6)) (T15.setTop (mkF m 57 #[.val (.ref a), .val (.ref b), .val (.int (Int32.ofNat o)), .val (.int (Int32.ofNat len)), .val .null, .val (.ref s.heap.size)] [])) := c14.trans (st15 _ (Steps.refl _))
  have ap := apart (Or.inr ⟨_, (wk W (.laysFinal "java/lang/String" "java/lang/String" "value" "[B"))⟩) (Or.inr ⟨_, (wk W (.laysFinal "java/lang/String" "java/lang/String" "coder" "B"))⟩) f1 f2 (t₁ := .array .byte) (t₂ := .byte) (by decide +kernel) (by decide +kernel) (by decide)
  have al := X8.warmed.alike.symm.trans X15.warmed.alike
  have n7 : T11.heap[s.heap.size]? = some N := by rw [q11]; exact n1.1
  exact ⟨T15, none, _, _, _, X15, by simp, rfl, by omega, (fun _ => rfl), ⟨rfl, _, N, bl15, ((Same.refl D _).set _ (by simp)).set _ (by simp), sl15, (Cell.slots_setSlot_ne _ ap).trans sl13, n1.keep al (p15.other hne (p13.other hne n7)), n2, by rw [al.findClass]; exact n3, n4, n5, fun y c h1 h2 => p15.other h1 (p13.other h1 (by rw [q11]; exact n6 y c h2)), by rw [p15.2.2, p13.2.2, q11]; exact z8⟩, fun fs hl => c16.trans (X15.returnOut hexec hret (hb hbytes d57) hl)⟩
end New4
namespace New1
def yN : MethodName := ⟨"java/lang/String", "<init>", "([C)V"⟩
abbrev yB : ByteArray := jdk_42_method_3_code
theorem d0 : decode yB 0 = .ok (.aload_n 0, 1) := by decide +kernel
theorem d1 : decode yB 1 = .ok (.aload_n 1, 1) := by decide +kernel
theorem d2 : decode yB 2 = .ok (.iconst 0, 1) := by decide +kernel
theorem d3 : decode yB 3 = .ok (.aload_n 1, 1) := by decide +kernel
theorem d4 : decode yB 4 = .ok (.arraylength, 1) := by decide +kernel
theorem d5 : decode yB 5 = .ok (.aconst_null, 1) := by decide +kernel
theorem d6 : decode yB 6 = .ok (.invokespecial 27, 3) := by decide +kernel
theorem d9 : decode yB 9 = .ok (.return_, 1) := by decide +kernel
def site : List Cond := [New4.tab] ++ initW "java/lang/String" 27 New4.yN
def tab : Cond := tabOf yN yB 2 none site
def P (a : Addr) (D : Cell) (fV fC : Field) (b : Addr) (A : Cell) (z : Int32) (args : Array Value) (s : State) : Prop := args = #[.ref a, .ref b] ∧ Blank "java/lang/String" a D s ∧ Found "java/lang/String" "value" "[B" fV s ∧ Found "java/lang/String" "coder" "B" fC s ∧ Ch b A s ∧ StaticIs s "java/lang/String" "COMPACT_STRINGS" "Z" (.int z) ∧ ¬ z = 0 ∧ 0 < A.slots.size ∧ A.slots.size ≤ 536870912 ∧ ∀ i, i < A.slots.size → ¬ 255 < cv A i
def E (a : Addr) (D : Cell) (fV fC : Field) (A : Cell) (r : Option Value) (s u : State) : Prop := Got a D fV fC A 0 A.slots.size r s u
/-- new String(chars), not empty, no char above 255: a Latin-1 String of their low bytes -/
theorem law (l : Launch) (a : Addr) (D : Cell) (fV fC : Field) (b : Addr) (A : Cell) (z : Int32) : Law l yN 2 1 3 52 yB 2 none site (P a D fV fC b A z) (E a D fV fC A) [⟨a, fC.slot⟩, ⟨a, fV.slot⟩] 1 A.slots.size := by
  refine Law.of_walk (plainFor_of_name (by decide +kernel)) (by decide +kernel) (by decide +kernel) (by decide) (fun _ _ h => by rw [h.1]; rfl) (fun _ U U' hal hh h => ⟨h.1, h.2.1.mv hal hh, h.2.2.1.al hal, h.2.2.2.1.al hal, h.2.2.2.2.1.mv hal hh, h.2.2.2.2.2.1.there hal hh, h.2.2.2.2.2.2⟩) (fun r U U' V V' h1 hal h2 h => Got.mv r U U' V V' h1 hal h2 h) ?_
  intro p e s m args below meth c s₁ X0 hexec hbytes hml hret hlk hnm hown hh0 W hP
  obtain ⟨rfl, hB, f1, f2, hA, s1, hz, l0, l2, hp⟩ := hP
  have c1 : Steps p.tables e below (s₁.setTop (entryFrame m #[.ref a, .ref b] 2)) (s₁.setTop (mkF m 0 #[.val (.ref a), .val (.ref b)] [])) := entry rfl
  have c2 : Steps p.tables e below (s₁.setTop (entryFrame m #[.ref a, .ref b] 2)) (s₁.setTop (mkF m 6 #[.val (.ref a), .val (.ref b)] [.null, .int (Int32.ofNat A.slots.size), .int 0, .ref b, .ref a])) := c1.trans (by
    refine XS.aloadN X0.here hexec rfl (hb hbytes d0) rfl rfl ?_
    refine XS.aloadN X0.here hexec rfl (hb hbytes d1) rfl rfl ?_
    refine iconstV X0.here hexec rfl 0 (hb hbytes d2) (by decide) ?_
    refine XS.aloadN X0.here hexec rfl (hb hbytes d3) rfl rfl ?_
    refine X0.alen hexec (hA.1.mv X0.warmed.alike hh0) rfl rfl (hb hbytes d4) ?_
    refine XS.aconstNull X0.here hexec rfl (hb hbytes d5) ?_
    exact Steps.refl _)
  obtain ⟨v3, T3, X3, E3, g3⟩ := X0.callN hexec (New4.law l a D fV fC b A z 0 A.slots.size) rfl hown (wks W (initW "java/lang/String" 27 New4.yN)) (W New4.tab (by simp only [site, List.mem_cons, List.mem_append, true_or, or_true])) (W := 0) (Nat.le_of_ble_eq_true rfl) (Nat.le_of_ble_eq_true rfl) (Nat.le_refl _) (by show 0 + A.slots.size ≤ A.slots.size; omega) (g := (mkF m 6 #[.val (.ref a), .val (.ref b)] [.null, .int (Int32.ofNat A.slots.size), .int (Int32.ofNat 0), .ref b, .ref a])) rfl (by rw [hml]; rfl) c2 (argsL := [.ref b, .int (Int32.ofNat 0), .int (Int32.ofNat A.slots.size), .null]) (rest := []) rfl rfl (by show 2 * 0 + 0 ≤ _; decide) (hb hbytes d6) (⟨rfl, hB.mv X0.warmed.alike hh0, f1.al X0.warmed.alike, f2.al X0.warmed.alike, hA.mv X0.warmed.alike hh0, s1.there X0.warmed.alike hh0, hz, l0, by omega, l2, fun i hi => by rw [Nat.zero_add]; exact hp i hi⟩)
  have e0 := Got.mv _ s₁ s _ _ hh0.symm (Vm.Alike.refl _) rfl E3
  obtain rfl := e0.1
  have c4 : Steps p.tables e below (s₁.setTop (entryFrame m #[.ref a, .ref b] 2)) (T3.setTop (mkF m 9 #[.val (.ref a), .val (.ref b)] [])) := g3
  exact ⟨T3, none, _, _, _, X3, by simp, rfl, by omega, (fun _ => rfl), e0, fun fs hl => c4.trans (X3.returnOut hexec hret (hb hbytes d9) hl)⟩
theorem pays {l : Launch} {R : Room} {p : Program} {e : Env} {below : List Frame} {s : State} {sargs : Array Value} {len W : Nat} (a : Addr) (D : Cell) (fV fC : Field) (b : Addr) (A : Cell) (z : Int32) (htab : tab.before sargs s = true) (hfr : 4 ≤ R.frames) (hlo : W + 65 ≤ R.locals) :
    Back l R p e below s sargs yN len W (fun A₁ a₁ => A₁.cells + 1 ≤ R.cells ∧ A₁.slots + A.slots.size ≤ R.slots ∧ P a D fV fC b A z a₁ A₁.U) (fun A₁ _ v₁ B₁ => E a D fV fC A v₁ A₁.U B₁.U ∧ B₁.locs = A₁.locs ++ [⟨a, fC.slot⟩, ⟨a, fV.slot⟩] ∧ B₁.cells = A₁.cells + 1 ∧ B₁.slots = A₁.slots + A.slots.size) :=
  (law l a D fV fC b A z).pays htab hfr (by omega)
end New1
end StrChars
namespace StrChars.Road
open Jvm Sem ClassFile Op Lib Jvm.Stand Jvm.Free Jvm.Free.XT
open Jvm.Lib.Cold (StaticIs)
abbrev ST : String := "java/lang/String"
/-- every table word that New1's law asks, flat -/
abbrev words : List Jvm.Cond := [.code New1.yN New1.yB 2 none, .initialized ST, .methodLink ST 27 New4.yN, .instanceMethod New4.yN,
  .code New4.yN New4.yB 6 none, .fieldLink ST 38 ST "COMPACT_STRINGS" "Z", .laysFinal ST ST "value" "[B", .fieldLink ST 9 ST "value" "[B", .laysFinal ST ST "coder" "B", .fieldLink ST 15 ST "coder" "B",
  .methodLink ST 1 Lib.objectInit, .instanceMethod Lib.objectInit, .code Lib.objectInit ⟨#[0xb1]⟩ 1 none, .methodLink ST 177 Cmp3.yN, .static Cmp3.yN, .methodLink ST 47 CodL.yN, .static CodL.yN,
  .code Cmp3.yN Cmp3.yB 6 (some (.array .byte)), .initialized U16, .arrayClass .byte, .methodLink U16 115 Cmp5.yN, .static Cmp5.yN, .code Cmp5.yN Cmp5.yB 7 (some .int), .code CodL.yN CodL.yB 2 (some .byte)]
theorem tab_of {a : Array Value} {s : State} (h : ∀ w ∈ words, w.before a s = true) : New1.tab.before a s = true := by
  have h5 : Cmp5.tab.before a s = true := unparts (wk h (.code Cmp5.yN Cmp5.yB 7 (some .int))) (wks h (.initialized Cmp5.yN.cls :: Cmp5.site))
  have hc : CodL.tab.before a s = true := unparts (wk h (.code CodL.yN CodL.yB 2 (some .byte))) (wks h (.initialized CodL.yN.cls :: CodL.site))
  have q5 : ∀ w ∈ Cmp5.tab :: words, w.before a s = true := fun w hw => (List.mem_cons.mp hw).elim (fun e => e ▸ h5) (h w)
  have h3 : Cmp3.tab.before a s = true := unparts (wk q5 (.code Cmp3.yN Cmp3.yB 6 (some (.array .byte)))) (wks q5 (.initialized Cmp3.yN.cls :: Cmp3.site))
  have q3 : ∀ w ∈ Cmp3.tab :: CodL.tab :: words, w.before a s = true := fun w hw => (List.mem_cons.mp hw).elim (fun e => e ▸ h3) fun hw => (List.mem_cons.mp hw).elim (fun e => e ▸ hc) (h w)
  have h4 : New4.tab.before a s = true := unparts (wk q3 (.code New4.yN New4.yB 6 none)) (wks q3 (.initialized New4.yN.cls :: New4.site))
  have q4 : ∀ w ∈ New4.tab :: words, w.before a s = true := fun w hw => (List.mem_cons.mp hw).elim (fun e => e ▸ h4) (h w)
  exact unparts (wk q4 (.code New1.yN New1.yB 2 none)) (wks q4 (.initialized New1.yN.cls :: New1.site))
/-- the words ride from the start Z to the walk's own state -/
theorem moved {Z s : State} {a0 args : Array Value} (hZ : Z.Warmed39 s.vm) (hw : ∀ d ∈ words, d.before a0 Z = true) : ∀ d ∈ words, d.before args s = true := fun d hd => by
  have q := hw d hd
  have t : ∀ d ∈ words, d = .arrayClass .byte ∨ (d.onTables && d.keepsFace) = true := by decide +kernel
  rcases t d hd with rfl | t
  · exact RoadKit.mvA hZ q
  · exact RoadKit.mv hZ q t
/-- WHAT COMES BACK, over the tables of the start Z: h the heap at the call, h' behind it -/
def Q (Z : State) (x : Addr) (A : Cell) (h : Heap) (v : Option Value) (h' : Heap) (L : List Loc) : Prop := v = none ∧ (∀ y ∈ L, y.base = x) ∧ RoadKit.Keep h h' [x] ∧ h'.size = h.size + 1 ∧ RoadKit.Exa Z h' x ST ∧ RoadKit.Fld Z h' x ST "value" "[B" (.ref h.size) ∧ RoadKit.Fld Z h' x ST "coder" "B" (.int 0) ∧
  (∃ V : Cell, RoadKit.Arr Z h' h.size V .byte ∧ V.vm = .none ∧ Z.vm.findClass "[B" = some V.cls ∧ V.slots.size = A.slots.size ∧ ∀ j, j < A.slots.size → V.slots[j]? = some (.int (lo8 (cv A j)))) ∧
  ∀ (O n d : String) (w : Value), RoadKit.Fld Z h x O n d w → RoadKit.slotOf Z O n d ≠ RoadKit.slotOf Z ST "value" "[B" → RoadKit.slotOf Z O n d ≠ RoadKit.slotOf Z ST "coder" "B" → RoadKit.Fld Z h' x O n d w
/-- **new String(chars) AT A CALL, IN THE ROAD'S FORM**: for specialBack behind newO: x the fresh String, b the char[] with the cell A -/
theorem back {p : Program} {l : Launch} {e : Env} {R : Room} {s : State} {args : Array Value} {below : List Frame} {len W : Nat} {Z : State} {a0 : Array Value} {h : Heap} (hZ : Z.Warmed39 s.vm) (hw : ∀ d ∈ words, d.before a0 Z = true) {kI : Nat} (wi : (Jvm.Cond.instantiable ST kI).before a0 Z = true)
    {x b : Addr} {A : Cell} {z : Int32} {v0 c0 : Value} (E : RoadKit.Exa Z h x ST) (V : RoadKit.Fld Z h x ST "value" "[B" v0) (C : RoadKit.Fld Z h x ST "coder" "B" c0) (K : RoadKit.Arr Z h b A .char) (hty : Typed .char A) (S : RoadKit.Sta Z h ST "COMPACT_STRINGS" "Z" (.int z)) (hz : ¬ z = 0)
    (l0 : 0 < A.slots.size) (l2 : A.slots.size ≤ 536870912) (hp : ∀ i, i < A.slots.size → ¬ 255 < cv A i) (hfr : 4 ≤ R.frames) (hlo : W + 65 ≤ R.locals) :
    Back l R p e below s args New1.yN len W (fun P a => a = #[.ref x, .ref b] ∧ P.U.heap = h ∧ P.cells + 1 ≤ R.cells ∧ P.slots + A.slots.size ≤ R.slots)
      (fun P _ v B => ∃ L, Q Z x A h v B.U.heap L ∧ B.locs = P.locs ++ L ∧ B.cells = P.cells + 1 ∧ B.slots = P.slots + A.slots.size) := by
  intro m meth c P g ig mk a X hg hsize hdg hW hn hp'
  obtain ⟨rfl, rfl, r1, r2⟩ := hp'
  have al : Z.vm.Alike P.U.vm := hZ.alike.trans X.warmed.alike
  obtain ⟨D, cfV, kV, iV, fV, hD, gV, stV, knV, obV, asV, slV⟩ := id V
  obtain ⟨D', cfC, kC, iC, fC, hD', gC, stC, -, -, asC, slC⟩ := id C
  cases hD.symm.trans hD'
  obtain ⟨D2, kD, e1, e2, e3, e4, e5⟩ := id E
  cases hD.symm.trans e1
  obtain ⟨c2, k2, i1, i2, i3, -⟩ := Cond.instantiable_spec wi
  cases e2.symm.trans i1
  cases e3.symm.trans i2
  obtain ⟨kU, u1, u2⟩ := al.2.2 _ _ e3
  have hB : Blank ST x D P.U := ⟨hD, ⟨knV, fun q hq => by rw [hq] at obV; cases obV⟩, by rw [al.findClass]; exact e2, kU, u1, by rw [u2]; exact i3, by rw [u2]; exact e5 i3⟩
  have F1 : Found ST "value" "[B" fV P.U := ⟨SBG.found_only al ⟨cfV, kV, iV, gV⟩, stV⟩
  have F2 : Found ST "coder" "B" fC P.U := ⟨SBG.found_only al ⟨cfC, kC, iC, gC⟩, stC⟩
  have hA : Ch b A P.U := ⟨⟨K.1, State.isArrayOf_alike al K.2.1, K.2.2, by omega⟩, hty⟩
  have hS : StaticIs P.U ST "COMPACT_STRINGS" "Z" (.int z) := by
    obtain ⟨cfS, iS, kS, fS, st, cS, t1, t2, t3, t4, t5, t6, t7⟩ := S
    exact StaticIs.there (s := { Z with heap := P.U.heap }) ⟨cfS, iS, kS, fS, st, cS, t1, t2, t3, t4, t5, (fun q => by rw [q] at t6; cases t6), t7⟩ al rfl
  obtain ⟨v, B, X', ⟨⟨hv, E', V', q1, q2, q3, q4, q5, q6, q7, q8, q9, q10, q11⟩, hl, hc, hs⟩, st⟩ := New1.pays x D fV fC b A z (tab_of (moved hZ hw)) hfr hlo m meth c P g ig mk _ X hg hsize hdg hW hn ⟨r1, r2, rfl, hB, F1, F2, hA, hS, hz, l0, l2, hp⟩
  have al' : Z.vm.Alike B.U.vm := hZ.alike.trans X'.warmed.alike
  have hsz : E'.slots.size = D.slots.size := by
    obtain ⟨-, -, -, kB, w1, w2, w3⟩ := q1
    obtain ⟨kB', y1, y2⟩ := al'.2.2 _ _ e3
    rw [q2.2.1] at w1
    cases w1.symm.trans y1
    rw [w3, e5 i3, y2]
  refine ⟨v, B, X', ⟨_, ⟨hv, ?_, ⟨by omega, fun y cy hy hn' => q10 y cy (by simpa using hn') hy, fun y cy hy => ?_⟩, q11, ⟨E', _, q1.1, by rw [q2.2.1]; exact e2, by rw [q2.2.1]; exact e3, by rw [q2.1]; exact obV, fun _ => by rw [hsz]; exact e5 i3⟩,
    ⟨E', cfV, kV, iV, fV, q1.1, gV, stV, by rw [q2.1]; exact knV, by rw [q2.1]; exact obV, by rw [q2.2.1]; exact asV, q3⟩, ⟨E', cfC, kC, iC, fC, q1.1, gC, stC, by rw [q2.1]; exact knV, by rw [q2.1]; exact obV, by rw [q2.2.1]; exact asC, q4⟩,
    ⟨V', ⟨q5.1, State.isArrayOf_alike al'.symm q5.2.1, q5.2.2.1⟩, q6, by rw [← al'.findClass]; exact q7, q8, fun j hj => by have := q9 j hj; rwa [Nat.zero_add] at this⟩, fun O n d w F n1 n2 => ?_⟩, hl, hc, hs⟩, st⟩
  · intro y hy
    simp only [List.mem_cons, List.not_mem_nil, or_false] at hy
    rcases hy with rfl | rfl <;> rfl
  · by_cases q : y = x
    · subst q
      cases hD.symm.trans hy
      exact ⟨E', q1.1, q2.2.1, q2.1, hsz⟩
    · exact ⟨cy, q10 y cy q hy, rfl, rfl, rfl⟩
  · obtain ⟨D3, cf, k, i, f, g1, g2, g3, g4, g5, g6, g7⟩ := F
    cases hD.symm.trans g1
    simp only [RoadKit.slotOf, g2, gV, gC, Option.map_some, Option.getD_some] at n1 n2
    exact ⟨E', cf, k, i, f, q1.1, g2, g3, by rw [q2.1]; exact g4, by rw [q2.1]; exact g5, by rw [q2.2.1]; exact g6, by rw [q2.2.2 f.slot (by simp [n1, n2])]; exact g7⟩
end StrChars.Road
namespace StrChars.Road
open Jvm Sem ClassFile Op Lib Jvm.Stand Jvm.Free Jvm.Free.XT
/-- WHAT COMES BACK, the byte[] as a list of values -/
def QA (Z : State) (x : Addr) (zn : Int32) (cs : List Int32) (h : Heap) (v : Option Value) (h' : Heap) (L : List Loc) : Prop := v = none ∧ (∀ y ∈ L, y.base = x) ∧ RoadKit.Keep h h' [x] ∧ h'.size = h.size + 1 ∧ RoadKit.Exa Z h' x ST ∧ RoadKit.Fld Z h' x ST "value" "[B" (.ref h.size) ∧ RoadKit.Fld Z h' x ST "coder" "B" (.int 0) ∧
  (∃ kb, Z.vm.findClass "[B" = some kb ∧ RoadKit.Arv Z h' h.size kb .byte zn (cs.map fun c => .int (lo8 c)) (.int 0)) ∧
  ∀ (O n d : String) (w : Value), RoadKit.Fld Z h x O n d w → RoadKit.slotOf Z O n d ≠ RoadKit.slotOf Z ST "value" "[B" → RoadKit.slotOf Z O n d ≠ RoadKit.slotOf Z ST "coder" "B" → RoadKit.Fld Z h' x O n d w
/-- **new String(chars) AT A CALL, THE ARRAYS AS LISTS**: the char[] at b holds cs, not empty, no char above 255 -/
theorem backArv {p : Program} {l : Launch} {e : Env} {R : Room} {s : State} {args : Array Value} {below : List Frame} {len W : Nat} {Z : State} {a0 : Array Value} {h : Heap} (hZ : Z.Warmed39 s.vm) (hw : ∀ d ∈ words, d.before a0 Z = true) {kI : Nat} (wi : (Jvm.Cond.instantiable ST kI).before a0 Z = true)
    {x b : Addr} {k : ClassId} {zn z : Int32} {cs : List Int32} {dv v0 c0 : Value} (E : RoadKit.Exa Z h x ST) (V : RoadKit.Fld Z h x ST "value" "[B" v0) (C : RoadKit.Fld Z h x ST "coder" "B" c0) (K : RoadKit.Arv Z h b k .char zn (cs.map Value.int) dv) (S : RoadKit.Sta Z h ST "COMPACT_STRINGS" "Z" (.int z)) (hz : ¬ z = 0)
    (hlen : zn.toNatClampNeg = cs.length) (h0 : 0 < cs.length) (hbig : cs.length ≤ 536870912) (hall : ∀ c ∈ cs, ¬ 255 < c) (hfr : 4 ≤ R.frames) (hlo : W + 65 ≤ R.locals) :
    Back l R p e below s args New1.yN len W (fun P a => a = #[.ref x, .ref b] ∧ P.U.heap = h ∧ P.cells + 1 ≤ R.cells ∧ P.slots + cs.length ≤ R.slots)
      (fun P _ v B => ∃ L, QA Z x zn cs h v B.U.heap L ∧ B.locs = P.locs ++ L ∧ B.cells = P.cells + 1 ∧ B.slots = P.slots + cs.length) := by
  obtain ⟨A, K1, K2, K3, K4, K5, K6⟩ := K
  have e : A.slots.size = cs.length := K3.trans hlen
  have hat : ∀ (i : Nat) (hi : i < cs.length), A.slots[i]? = some (.int cs[i]) := fun i hi => by rw [K5 i (by omega)]; simp [List.getD_eq_getElem?_getD, hi]
  have hcv : ∀ (i : Nat) (hi : i < cs.length), cv A i = cs[i] := fun i hi => by unfold cv; rw [hat i hi]
  have hty : Typed .char A := fun i v hv => by
    have hi : i < A.slots.size := (Array.getElem?_eq_some_iff.mp hv).1
    have q := K5 i hi
    rw [hv] at q
    rw [Option.some.inj q]
    exact K6 i hi
  refine Back.mono (back hZ hw wi E V C K1 hty S hz (by omega) (by omega) (fun i hi => by rw [hcv i (by omega)]; exact hall _ (List.getElem_mem _)) hfr hlo) (fun P a hp => ⟨hp.1, hp.2.1, hp.2.2.1, by rw [e]; exact hp.2.2.2⟩) (fun P a v B hp hq => ?_)
  obtain ⟨L, ⟨q1, q2, q3, q4, q5, q6, q7, ⟨V', v1, v2, v3, v4, v5⟩, q9⟩, hl, hc, hs⟩ := hq
  refine ⟨L, ⟨q1, q2, q3, q4, q5, q6, q7, ⟨V'.cls, v3, V', v1, rfl, by rw [v4, e, hlen], K4, fun i hi => ?_, fun i hi => ?_⟩, q9⟩, hl, hc, by rw [hs, e]⟩
  · have hi' : i < cs.length := by omega
    rw [v5 i (by omega), hcv i hi']; simp [List.getD_eq_getElem?_getD, hi']
  · have hi' : i < cs.length := by omega
    simp only [List.getD_eq_getElem?_getD, List.getElem?_map, List.getElem?_eq_getElem hi', Option.map_some, Option.getD_some]
    exact fits_lo8 _
end StrChars.Road
namespace StrChars.Road
open Jvm Sem ClassFile Op Lib Jvm.Stand Jvm.Free Jvm.Free.XT
/-- WHAT COMES BACK, in the writer's own shape -/
def QV (Z : State) (x : Addr) (N : Int32) (bs : List Int32) (h : Heap) (n0 : Nat) (v : Option Value) (h' : Heap) (L : List Loc) : Prop := v = none ∧ RoadKit.Fr n0 L ∧ RoadKit.Keep h h' [x] ∧ RoadKit.Exa Z h' x ST ∧ RoadKit.Fld Z h' x ST "coder" "B" (.int 0) ∧
  ∃ (t : Addr) (kb : ClassId), n0 ≤ t ∧ h.size ≤ t ∧ ¬ t = x ∧ RoadKit.Fld Z h' x ST "value" "[B" (.ref t) ∧ RoadKit.Arv Z h' t kb .byte N (bs.map Value.int) (.int 0)
/-- **new String(chars) AT A CALL, FOR THE WRITER**: a char[] of n known ints, each 0 to 255 -/
theorem backV {p : Program} {l : Launch} {e : Env} {R : Room} {s : State} {args : Array Value} {below : List Frame} {len W : Nat} {Z : State} {a0 : Array Value} {h : Heap} (hZ : Z.Warmed39 s.vm) (hw : ∀ d ∈ words, d.before a0 Z = true) {kI : Nat} (wi : (Jvm.Cond.instantiable ST kI).before a0 Z = true)
    {x b : Addr} {kC : ClassId} {cs bs : List Int32} {d v0 c0 : Value} {z N : Int32} {n n0 : Nat} (hx0 : n0 ≤ x) (hh0 : n0 ≤ h.size) (E : RoadKit.Exa Z h x ST) (V : RoadKit.Fld Z h x ST "value" "[B" v0) (C : RoadKit.Fld Z h x ST "coder" "B" c0) (K : RoadKit.Arv Z h b kC .char N (cs.map Value.int) d) (S : RoadKit.Sta Z h ST "COMPACT_STRINGS" "Z" (.int z)) (hz : ¬ z = 0)
    (hn : cs.length = n) (hN : N = Int32.ofNat n) (l0 : 0 < n) (l2 : n ≤ 4000) (hp : ∀ c ∈ cs, ¬ c < 0 ∧ ¬ (255 : Int32) < c) (hb : bs = cs.map (fun c => c.toInt8.toInt32)) (hfr : 4 ≤ R.frames) (hlo : W + 65 ≤ R.locals) :
    Back l R p e below s args (⟨"java/lang/String", "<init>", "([C)V"⟩ : MethodName) len W (fun P a => a = #[.ref x, .ref b] ∧ P.U.heap = h ∧ P.cells + 1 ≤ R.cells ∧ P.slots + n ≤ R.slots)
      (fun P _ v B => ∃ L, QV Z x N bs h n0 v B.U.heap L ∧ B.locs = P.locs ++ L ∧ B.cells = P.cells + 1 ∧ B.slots = P.slots + n) := by
  subst hn hN hb
  refine Back.mono (backArv hZ hw wi E V C K S hz (n32 (by omega)) l0 (by omega) (fun c hc => (hp c hc).2) hfr hlo) (fun P a hp => hp) (fun P a v B hp hq => ?_)
  obtain ⟨L, ⟨q1, q2, q3, q4, q5, q6, q7, ⟨kb, v1, v2⟩, q9⟩, hl, hc, hs⟩ := hq
  exact ⟨L, ⟨q1, fun y hy => by rw [q2 y hy]; exact hx0, q3, q5, q7, h.size, kb, hh0, Nat.le_refl _, Nat.ne_of_gt E.lt, q6, by rw [List.map_map]; exact v2⟩, hl, hc, hs⟩
end StrChars.Road
namespace StrChars
open Jvm Sem ClassFile Op Lib Jvm.Stand Jvm.Free.XT Jvm.Free.ALB Jvm.Free.JM Jvm.Free
open Jvm.Lib.Cold (StaticIs)
def hi8 (x : Int32) : Int32 := lo8 (x >>> ((8 : Int32) &&& 31))
theorem shr0 (c : Int32) : c >>> ((0 : Int32) &&& 31) = c := by
  have e : ((0 : Int32) &&& 31) = 0 := by decide
  rw [e]
  apply Int32.toBitVec_inj.mp
  rw [Int32.toBitVec_shiftRight]
  have e1 : ((0 : Int32).toBitVec.smod 32) = 0#32 := by decide
  rw [e1, BitVec.sshiftRight_eq']
  exact BitVec.sshiftRight_zero
end StrChars
namespace StrChars
open Jvm Sem ClassFile Op Lib Jvm.Stand Jvm.Free.XT Jvm.Free.ALB Jvm.Free.JM Jvm.Free
open Jvm.Lib.Cold (StaticIs)
theorem shr1 {n : Nat} (h : 2 * n < 2 ^ 31) : Int32.ofNat (2 * n) >>> ((1 : Int32) &&& 31) = Int32.ofNat n := by
  have e : ((1 : Int32) &&& 31) = 1 := by decide
  rw [e]
  apply Int32.toBitVec_inj.mp
  rw [Int32.toBitVec_shiftRight]
  have e1 : ((1 : Int32).toBitVec.smod 32) = 1#32 := by decide
  have hm : (BitVec.ofNat 32 (2 * n)).toNat = 2 * n := by rw [BitVec.toNat_ofNat, Nat.mod_eq_of_lt (by omega)]
  rw [e1, BitVec.sshiftRight_eq']
  apply BitVec.eq_of_toNat_eq
  show ((BitVec.ofNat 32 (2 * n)).sshiftRight 1).toNat = (BitVec.ofNat 32 n).toNat
  rw [BitVec.toNat_sshiftRight_of_msb_false (by rw [BitVec.msb_eq_false_iff_two_mul_lt, hm]; omega), hm, BitVec.toNat_ofNat, Nat.shiftRight_eq_div_pow]
  omega
/-- the array's cell V codes the n chars f 0 .. f (n - 1) by the coder cd, as the JDK does: coder 1 just where some char is above 255 -/
def Cod (cd : Int32) (n : Nat) (f : Nat → Int32) (V : Cell) : Prop := (cd = 0 ∧ V.slots.size = n ∧ ∀ j, j < n → V.slots[j]? = some (.int (lo8 (f j))) ∧ ¬ 255 < f j) ∨ (cd = 1 ∧ V.slots.size = 2 * n ∧ (∀ j, j < n → V.slots[2 * j]? = some (.int (lo8 (f j))) ∧ V.slots[2 * j + 1]? = some (.int (hi8 (f j)))) ∧ ∃ j, j < n ∧ 255 < f j)
theorem Cod.cd {cd : Int32} {n : Nat} {f : Nat → Int32} {V : Cell} (h : Cod cd n f V) : cd = 0 ∨ cd = 1 := h.imp (fun q => q.1) fun q => q.1
theorem Cod.len {cd : Int32} {n : Nat} {f : Nat → Int32} {V : Cell} (h : Cod cd n f V) (hs : V.slots.size < 2 ^ 31) : Int32.ofNat V.slots.size >>> (cd &&& 31) = Int32.ofNat n := by
  rcases h with ⟨rfl, h, -⟩ | ⟨rfl, h, -⟩
  · rw [shr0, h]
  · rw [h, shr1 (by omega)]
/-- **x is a String of the n chars f 0 .. f (n - 1)**, Latin-1 or UTF-16; its array at t has the cell V -/
def Txt (x t : Addr) (V : Cell) (cd : Int32) (n : Nat) (f : Nat → Int32) (U : State) : Prop := Exact "java/lang/String" x U ∧ Has x "java/lang/String" "value" "[B" (.ref t) U ∧ Has x "java/lang/String" "coder" "B" (.int cd) U ∧ XT.Arr .byte t V U ∧ Cod cd n f V ∧ ∀ j, j < n → ¬ f j < 0 ∧ ¬ 65535 < f j
theorem Txt.mv {x t : Addr} {V : Cell} {cd : Int32} {n : Nat} {f : Nat → Int32} {U U' : State} (h : Txt x t V cd n f U) (hal : U.vm.Alike U'.vm) (hh : U'.heap = U.heap) : Txt x t V cd n f U' := ⟨h.1.mv hal hh, h.2.1.mv hal hh, h.2.2.1.mv hal hh, h.2.2.2.1.mv hal hh, h.2.2.2.2⟩
namespace Cdr
def yN : MethodName := ⟨"java/lang/String", "coder", "()B"⟩
abbrev yB : ByteArray := jdk_42_method_152_code
theorem d0 : decode yB 0 = .ok (.getstatic 38, 3) := by decide +kernel
theorem d3 : decode yB 3 = .ok (.ifCond (.eq) 10, 3) := by decide +kernel
theorem d6 : decode yB 6 = .ok (.aload_n 0, 1) := by decide +kernel
theorem d7 : decode yB 7 = .ok (.getfield 15, 3) := by decide +kernel
theorem d10 : decode yB 10 = .ok (.goto 4, 3) := by decide +kernel
theorem d14 : decode yB 14 = .ok (.ireturn, 1) := by decide +kernel
def site : List Cond := [.fieldLink "java/lang/String" 38 "java/lang/String" "COMPACT_STRINGS" "Z", .fieldLink "java/lang/String" 15 "java/lang/String" "coder" "B"]
def tab : Cond := tabOf yN yB 1 (some .byte) site
def P (x : Addr) (cd z : Int32) (args : Array Value) (s : State) : Prop := args = #[.ref x] ∧ Has x "java/lang/String" "coder" "B" (.int cd) s ∧ (cd = 0 ∨ cd = 1) ∧ StaticIs s "java/lang/String" "COMPACT_STRINGS" "Z" (.int z) ∧ ¬ z = 0
def E (cd : Int32) (r : Option Value) (s u : State) : Prop := XT.PureE (some (.int cd)) r s u
theorem law (l : Launch) (x : Addr) (cd z : Int32) : Law l yN 1 0 0 0 yB 1 (some .byte) site (P x cd z) (E cd) [] 0 0 := by
  refine Law.of_walk (plainFor_of_name (by decide +kernel)) (by decide +kernel) (by decide +kernel) (by decide) (fun _ _ h => by rw [h.1]; rfl) (fun _ U U' hal hh h => ⟨h.1, h.2.1.mv hal hh, h.2.2.1, h.2.2.2.1.there hal hh, h.2.2.2.2⟩) (fun r U U' V V' h1 hal h2 h => XT.PureE.mv r U U' V V' h1 hal h2 h) ?_
  intro p e s m args below meth c s₁ X0 hexec hbytes hml hret hlk hnm hown hh0 W hP
  obtain ⟨rfl, hx, hc, s1, hz⟩ := hP
  have c1 : Steps p.tables e below (s₁.setTop (entryFrame m #[.ref x] 1)) (s₁.setTop (mkF m 0 #[.val (.ref x)] [])) := entry rfl
  obtain ⟨T2, X2, q2, st2⟩ := X0.sget hexec hown (wk W (.fieldLink "java/lang/String" 38 "java/lang/String" "COMPACT_STRINGS" "Z")) s1 (fun _ _ h => by rw [hh0]; exact h) (g := (mkF m 0 #[.val (.ref x)] [])) rfl (hb hbytes d0)
  have hh2 := q2.trans hh0
  have c3 : Steps p.tables e below (s₁.setTop (entryFrame m #[.ref x] 1)) (T2.setTop (mkF m 7 #[.val (.ref x)] [.ref x])) := (c1.trans (st2 _ (Steps.refl _))).trans (by
    refine XS.ifNo X2.here hexec rfl (hb hbytes d3) rfl (i0_eq_f hz) ?_
    refine XS.aloadN X2.here hexec rfl (hb hbytes d6) rfl rfl ?_
    exact Steps.refl _)
  obtain ⟨T4, X4, q4, st4⟩ := X2.hget hexec hown (wk W (.fieldLink "java/lang/String" 15 "java/lang/String" "coder" "B")) (hx.mv X2.warmed.alike hh2) (g := (mkF m 7 #[.val (.ref x)] [.ref x])) rfl (rest := []) rfl (hb hbytes d7)
  have c5 : Steps p.tables e below (s₁.setTop (entryFrame m #[.ref x] 1)) (T4.setTop (mkF m 14 #[.val (.ref x)] [.int cd])) := (c3.trans (st4 _ (Steps.refl _))).trans (by
    refine XS.goto X4.here hexec rfl (pc0 := 10) rfl (hb hbytes d10) (by decide) rfl ?_
    exact Steps.refl _)
  exact ⟨T4, some (.int cd), _, _, _, X4, rfl, rfl, rfl, (fun h => by cases h), ⟨rfl, q4.trans hh2⟩, fun fs hl => c5.trans (X4.ireturnOut hexec hret (by rcases hc with rfl | rfl <;> rfl) (Or.inr (Or.inr (Or.inl rfl))) (hb hbytes d14) hl)⟩
end Cdr
namespace Len
def yN : MethodName := ⟨"java/lang/String", "length", "()I"⟩
abbrev yB : ByteArray := jdk_42_method_54_code
theorem d0 : decode yB 0 = .ok (.aload_n 0, 1) := by decide +kernel
theorem d1 : decode yB 1 = .ok (.getfield 9, 3) := by decide +kernel
theorem d4 : decode yB 4 = .ok (.arraylength, 1) := by decide +kernel
theorem d5 : decode yB 5 = .ok (.aload_n 0, 1) := by decide +kernel
theorem d6 : decode yB 6 = .ok (.invokevirtual 335, 3) := by decide +kernel
theorem d9 : decode yB 9 = .ok (.ishr, 1) := by decide +kernel
theorem d10 : decode yB 10 = .ok (.ireturn, 1) := by decide +kernel
def site : List Cond := [.fieldLink "java/lang/String" 9 "java/lang/String" "value" "[B", Cdr.tab] ++ virtW "java/lang/String" 335 "java/lang/String" Cdr.yN Cdr.yN
def tab : Cond := tabOf yN yB 1 (some .int) site
def P (x t : Addr) (V : Cell) (cd : Int32) (n : Nat) (f : Nat → Int32) (z : Int32) (args : Array Value) (s : State) : Prop := args = #[.ref x] ∧ Txt x t V cd n f s ∧ StaticIs s "java/lang/String" "COMPACT_STRINGS" "Z" (.int z) ∧ ¬ z = 0
def E (n : Nat) (r : Option Value) (s u : State) : Prop := XT.PureE (some (.int (Int32.ofNat n))) r s u
/-- length() of a String of n chars, in either coding -/
theorem law (l : Launch) (x t : Addr) (V : Cell) (cd : Int32) (n : Nat) (f : Nat → Int32) (z : Int32) : Law l yN 1 0 1 13 yB 1 (some .int) site (P x t V cd n f z) (E n) [] 0 0 := by
  refine Law.of_walk (plainFor_of_name (by decide +kernel)) (by decide +kernel) (by decide +kernel) (by decide) (fun _ _ h => by rw [h.1]; rfl) (fun _ U U' hal hh h => ⟨h.1, h.2.1.mv hal hh, h.2.2.1.there hal hh, h.2.2.2⟩) (fun r U U' V V' h1 hal h2 h => XT.PureE.mv r U U' V V' h1 hal h2 h) ?_
  intro p e s m args below meth c s₁ X0 hexec hbytes hml hret hlk hnm hown hh0 W hP
  obtain ⟨rfl, hx, s1, hz⟩ := hP
  have v31 := hx.2.2.2.1.2.2.2
  have c1 : Steps p.tables e below (s₁.setTop (entryFrame m #[.ref x] 1)) (s₁.setTop (mkF m 1 #[.val (.ref x)] [.ref x])) := Steps.trans (entry rfl) (by
    show Steps p.tables e below (s₁.setTop (mkF m 0 #[.val (.ref x)] [])) _
    refine XS.aloadN X0.here hexec rfl (hb hbytes d0) rfl rfl ?_
    exact Steps.refl _)
  obtain ⟨T2, X2, q2, st2⟩ := X0.hget hexec hown (wk W (.fieldLink "java/lang/String" 9 "java/lang/String" "value" "[B")) (hx.mv X0.warmed.alike hh0).2.1 (g := (mkF m 1 #[.val (.ref x)] [.ref x])) rfl (rest := []) rfl (hb hbytes d1)
  have hh2 := q2.trans hh0
  have hx2 := hx.mv X2.warmed.alike hh2
  have c3 : Steps p.tables e below (s₁.setTop (entryFrame m #[.ref x] 1)) (T2.setTop (mkF m 6 #[.val (.ref x)] [.ref x, .int (Int32.ofNat V.slots.size)])) := (c1.trans (st2 _ (Steps.refl _))).trans (by
    refine X2.alen hexec hx2.2.2.2.1 rfl rfl (hb hbytes d4) ?_
    refine XS.aloadN X2.here hexec rfl (hb hbytes d5) rfl rfl ?_
    exact Steps.refl _)
  obtain ⟨v4, T4, X4, E4, g4⟩ := X2.callV hexec (Cdr.law l x cd z) hown (wks W (virtW "java/lang/String" 335 "java/lang/String" Cdr.yN Cdr.yN)) rfl (by decide) (wk W Cdr.tab) (W := 1) (Nat.le_of_ble_eq_true rfl) (Nat.le_of_ble_eq_true rfl) (Nat.le_refl _) (Nat.le_refl _) (hx2.1.fc X2.warmed.alike) hx2.1.is (g := (mkF m 6 #[.val (.ref x)] [.ref x, .int (Int32.ofNat V.slots.size)])) rfl (by rw [hml]; rfl) c3 (argsL := []) (rest := [.int (Int32.ofNat V.slots.size)]) rfl rfl (by show 2 * 0 + (1 + 0) ≤ _; decide) (hb hbytes d6) (⟨rfl, hx2.2.2.1, hx.2.2.2.2.1.cd, s1.there X2.warmed.alike hh2, hz⟩)
  obtain ⟨rfl, q4⟩ := E4
  have c5 : Steps p.tables e below (s₁.setTop (entryFrame m #[.ref x] 1)) (T4.setTop (mkF m 10 #[.val (.ref x)] [.int (Int32.ofNat V.slots.size >>> (cd &&& 31))])) := Steps.trans g4 (by
    refine ishr X4.here hexec rfl (hb hbytes d9) rfl ?_
    exact Steps.refl _)
  rw [hx.2.2.2.2.1.len v31] at c5
  exact ⟨T4, some (.int (Int32.ofNat n)), _, _, _, X4, rfl, rfl, rfl, (fun h => by cases h), ⟨rfl, q4.trans hh2⟩, fun fs hl => c5.trans (X4.ireturnOut hexec hret rfl (Or.inl rfl) (hb hbytes d10) hl)⟩
theorem pays {l : Launch} {R : Room} {p : Program} {e : Env} {below : List Frame} {s : State} {sargs : Array Value} {len W : Nat} (x t : Addr) (V : Cell) (cd : Int32) (n : Nat) (f : Nat → Int32) (z : Int32) (htab : tab.before sargs s = true) (hfr : 2 ≤ R.frames) (hlo : W + 25 ≤ R.locals) :
    Back l R p e below s sargs yN len W (fun A₁ a₁ => A₁.cells + 0 ≤ R.cells ∧ A₁.slots + 0 ≤ R.slots ∧ P x t V cd n f z a₁ A₁.U) (fun A₁ _ v₁ B₁ => E n v₁ A₁.U B₁.U ∧ B₁.locs = A₁.locs ++ [] ∧ B₁.cells = A₁.cells + 0 ∧ B₁.slots = A₁.slots + 0) :=
  (law l x t V cd n f z).pays htab hfr (by omega)
end Len
end StrChars
namespace StrChars.Road
open Jvm Sem ClassFile Op Lib Jvm.Stand Jvm.Free Jvm.Free.XT
open Jvm.Lib.Cold (StaticIs)
theorem consq {a : Array Value} {s : State} {c : Jvm.Cond} {L : List Jvm.Cond} (h0 : c.before a s = true) (h : ∀ w ∈ L, w.before a s = true) : ∀ w ∈ c :: L, w.before a s = true := fun w hw => (List.mem_cons.mp hw).elim (fun e => e ▸ h0) (h w)
/-- the words of String.length(), either coding -/
abbrev wordsLen : List Jvm.Cond := [.code Len.yN Len.yB 1 (some .int), .initialized ST, .fieldLink ST 9 ST "value" "[B", .fieldLink ST 38 ST "COMPACT_STRINGS" "Z", .fieldLink ST 15 ST "coder" "B", .code Cdr.yN Cdr.yB 1 (some .byte), .methodLink ST 335 Cdr.yN, .declares Cdr.yN, .selects ST Cdr.yN Cdr.yN, .instanceMethod Cdr.yN]
theorem tabLen_of {a : Array Value} {s : State} (h : ∀ w ∈ wordsLen, w.before a s = true) : Len.tab.before a s = true := by
  have hc : Cdr.tab.before a s = true := unparts (wk h (.code Cdr.yN Cdr.yB 1 (some .byte))) (wks h (.initialized Cdr.yN.cls :: Cdr.site))
  have q := consq hc h
  exact unparts (wk q (.code Len.yN Len.yB 1 (some .int))) (wks q (.initialized Len.yN.cls :: Len.site))
theorem movedLen {Z s : State} {a0 args : Array Value} (hZ : Z.Warmed39 s.vm) (hw : ∀ d ∈ wordsLen, d.before a0 Z = true) : ∀ d ∈ wordsLen, d.before args s = true := fun d hd => by
  have q := hw d hd
  have t : ∀ d ∈ wordsLen, d = .arrayClass .byte ∨ (d.onTables && d.keepsFace) = true := by decide +kernel
  rcases t d hd with rfl | t
  · exact RoadKit.mvA hZ q
  · exact RoadKit.mv hZ q t
/-- the bytes of the chars cs, low before high -/
def wideBytes : List Int32 → List Value
  | [] => []
  | c :: cs => .int (lo8 c) :: .int (hi8 c) :: wideBytes cs
theorem wide_lo (d : Value) : ∀ (cs : List Int32) (j : Nat), j < cs.length → (wideBytes cs).getD (2 * j) d = .int (lo8 (cs.getD j 0))
  | [], j, h => absurd h (Nat.not_lt_zero j)
  | c :: cs, 0, _ => rfl
  | c :: cs, j + 1, h => by
    have q := wide_lo d cs j (by simpa using h)
    rw [show 2 * (j + 1) = 2 * j + 1 + 1 from by omega]
    simpa [wideBytes] using q
theorem wide_hi (d : Value) : ∀ (cs : List Int32) (j : Nat), j < cs.length → (wideBytes cs).getD (2 * j + 1) d = .int (hi8 (cs.getD j 0))
  | [], j, h => absurd h (Nat.not_lt_zero j)
  | c :: cs, 0, _ => rfl
  | c :: cs, j + 1, h => by
    have q := wide_hi d cs j (by simpa using h)
    rw [show 2 * (j + 1) + 1 = 2 * j + 1 + 1 + 1 from by omega]
    simpa [wideBytes] using q
theorem low_at (d : Value) (cs : List Int32) (j : Nat) (h : j < cs.length) : (cs.map fun c => Value.int (lo8 c)).getD j d = .int (lo8 (cs.getD j 0)) := by
  simp [List.getD_eq_getElem?_getD, h]
/-- an array of N2 bytes vs codes the chars cs by the coder cd -/
def CodA (cs : List Int32) (cd N2 : Int32) (vs : List Value) : Prop := (cd = 0 ∧ N2 = Int32.ofNat cs.length ∧ vs = (cs.map fun c => Value.int (lo8 c)) ∧ ∀ c ∈ cs, ¬ 255 < c) ∨ (cd = 1 ∧ N2 = Int32.ofNat (2 * cs.length) ∧ vs = wideBytes cs ∧ ∃ c ∈ cs, 255 < c)
theorem CodA.cod {cs : List Int32} {cd N2 : Int32} {vs : List Value} {V : Cell} (h : CodA cs cd N2 vs) (hn : 2 * cs.length < 2 ^ 31) (hs : V.slots.size = N2.toNatClampNeg) (hv : RoadKit.Has V vs (.int 0)) : Cod cd cs.length (fun j => cs.getD j 0) V := by
  rcases h with ⟨rfl, rfl, rfl, h⟩ | ⟨rfl, rfl, rfl, c, hc, hw⟩
  · rw [n32 (by omega)] at hs
    exact Or.inl ⟨rfl, hs, fun j hj => ⟨by rw [hv j (by omega), low_at _ _ _ hj], by
      have e : cs.getD j 0 = cs[j] := by simp [List.getD_eq_getElem?_getD, hj]
      show ¬ 255 < cs.getD j 0
      rw [e]; exact h _ (List.getElem_mem _)⟩⟩
  · rw [n32 (by omega)] at hs
    obtain ⟨j, hj, rfl⟩ := List.getElem_of_mem hc
    exact Or.inr ⟨rfl, hs, fun j hj => ⟨by rw [hv _ (by omega), wide_lo _ _ _ hj], by rw [hv _ (by omega), wide_hi _ _ _ hj]⟩, j, hj, by
      have e : cs.getD j 0 = cs[j] := by simp [List.getD_eq_getElem?_getD, hj]
      show 255 < cs.getD j 0
      rw [e]; exact hw⟩
/-- an object of exactly java/lang/String, its two fields found: as the laws ask it -/
theorem strObj {Z U : State} {a0 : Array Value} {kI : Nat} (wi : (Jvm.Cond.instantiable ST kI).before a0 Z = true) (al : Z.vm.Alike U.vm) {x : Addr} {v0 c0 : Value} (E : RoadKit.Exa Z U.heap x ST) (V : RoadKit.Fld Z U.heap x ST "value" "[B" v0) (C : RoadKit.Fld Z U.heap x ST "coder" "B" c0) :
    ∃ (D : Cell) (fV fC : Field), Blank ST x D U ∧ Found ST "value" "[B" fV U ∧ Found ST "coder" "B" fC U ∧ D.slots[fV.slot]? = some v0 ∧ D.slots[fC.slot]? = some c0 ∧ RoadKit.slotOf Z ST "value" "[B" = fV.slot ∧ RoadKit.slotOf Z ST "coder" "B" = fC.slot := by
  obtain ⟨D, cfV, kV, iV, fV, hD, gV, stV, knV, obV, asV, slV⟩ := V
  obtain ⟨D', cfC, kC, iC, fC, hD', gC, stC, -, -, asC, slC⟩ := C
  cases hD.symm.trans hD'
  obtain ⟨D2, kD, e1, e2, e3, e4, e5⟩ := E
  cases hD.symm.trans e1
  obtain ⟨c2, k2, i1, i2, i3, -⟩ := Cond.instantiable_spec wi
  cases e2.symm.trans i1
  cases e3.symm.trans i2
  obtain ⟨kU, u1, u2⟩ := al.2.2 _ _ e3
  exact ⟨D, fV, fC, ⟨hD, ⟨knV, fun q hq => by rw [hq] at obV; cases obV⟩, by rw [al.findClass]; exact e2, kU, u1, by rw [u2]; exact i3, by rw [u2]; exact e5 i3⟩, ⟨SBG.found_only al ⟨cfV, kV, iV, gV⟩, stV⟩, ⟨SBG.found_only al ⟨cfC, kC, iC, gC⟩, stC⟩, slV, slC, by simp [RoadKit.slotOf, gV], by simp [RoadKit.slotOf, gC]⟩
theorem sta_is {Z U : State} (al : Z.vm.Alike U.vm) {C n d : String} {v : Value} (S : RoadKit.Sta Z U.heap C n d v) : StaticIs U C n d v := by
  obtain ⟨cfS, iS, kS, fS, st, cS, t1, t2, t3, t4, t5, t6, t7⟩ := S
  exact StaticIs.there (s := { Z with heap := U.heap }) ⟨cfS, iS, kS, fS, st, cS, t1, t2, t3, t4, t5, (fun q => by rw [q] at t6; cases t6), t7⟩ al rfl
/-- **length() OF SUCH A STRING** -/
theorem lenW {p : Program} {l : Launch} {e : Env} {R : Room} {s : State} {args : Array Value} {below : List Frame} {len W : Nat} {Z : State} {a0 : Array Value} {h : Heap} (hZ : Z.Warmed39 s.vm) (hw : ∀ d ∈ wordsLen, d.before a0 Z = true) {kI : Nat} (wi : (Jvm.Cond.instantiable ST kI).before a0 Z = true)
    {x t : Addr} {kb : ClassId} {cs : List Int32} {cd N2 z : Int32} {vs : List Value} (E : RoadKit.Exa Z h x ST) (V : RoadKit.Fld Z h x ST "value" "[B" (.ref t)) (C : RoadKit.Fld Z h x ST "coder" "B" (.int cd)) (K : RoadKit.Arv Z h t kb .byte N2 vs (.int 0)) (hc : CodA cs cd N2 vs) (hb : ∀ c ∈ cs, ¬ c < 0 ∧ ¬ (65535 : Int32) < c)
    (S : RoadKit.Sta Z h ST "COMPACT_STRINGS" "Z" (.int z)) (hz : ¬ z = 0) (l2 : cs.length ≤ 4000) (hfr : 2 ≤ R.frames) (hlo : W + 25 ≤ R.locals) :
    Back l R p e below s args (⟨"java/lang/String", "length", "()I"⟩ : MethodName) len W (fun P a => a = #[.ref x] ∧ P.U.heap = h ∧ P.cells + 0 ≤ R.cells ∧ P.slots + 0 ≤ R.slots)
      (fun P _ v B => ∃ L, (v = some (.int (Int32.ofNat cs.length)) ∧ L = [] ∧ B.U.heap = h) ∧ B.locs = P.locs ++ L ∧ B.cells = P.cells + 0 ∧ B.slots = P.slots + 0) := by
  obtain ⟨A, K1, K2, K3, K4, K5, K6⟩ := K
  have hcod := hc.cod (by omega) K3 K5
  intro m meth c P g ig mk a X hg hsize hdg hW hn hp'
  obtain ⟨rfl, rfl, r1, r2⟩ := hp'
  have al : Z.vm.Alike P.U.vm := hZ.alike.trans X.warmed.alike
  obtain ⟨D, fV, fC, hB, F1, F2, g1, g2, -, -⟩ := strObj wi al E V C
  have hx : Txt x t A cd cs.length (fun j => cs.getD j 0) P.U := ⟨⟨_, hB.2.2.1, D, hB.1, rfl, by cases q : D.vm <;> first | rfl | exact absurd q (hB.2.1.2 _)⟩, Has.of hB F1 g1, Has.of hB F2 g2, ⟨K1.1, State.isArrayOf_alike al K1.2.1, K1.2.2, by rcases hcod with ⟨-, q, -⟩ | ⟨-, q, -⟩ <;> omega⟩, hcod, fun j hj => by
    have e : cs.getD j 0 = cs[j] := by simp [List.getD_eq_getElem?_getD, hj]
    show ¬ cs.getD j 0 < 0 ∧ ¬ 65535 < cs.getD j 0
    rw [e]; exact hb _ (List.getElem_mem _)⟩
  obtain ⟨v, B, X', ⟨⟨hv, hh⟩, hl, hk, hs⟩, st⟩ := Len.pays x t A cd cs.length (fun j => cs.getD j 0) z (tabLen_of (movedLen hZ hw)) hfr hlo m meth c P g ig mk _ X hg hsize hdg hW hn ⟨r1, r2, rfl, hx, sta_is al S, hz⟩
  exact ⟨v, B, X', ⟨[], ⟨hv, rfl, hh⟩, hl, hk, hs⟩, st⟩
end StrChars.Road
end Jvm.Pilot.@@N@@
namespace Jvm.Pilot.@@N@@
open Jvm Jvm.ClassFile Sem Op Lib Jvm.Free Jvm.Stand Jvm.LawKit Jvm.RoadKit Bundle Jvm.Pilot.@@N@@.Jvm.D
def Goes (p : Program) (e : Env) (below : List Frame) (Post : Outcome → State → Prop) (T : State) (g : JFrame) : Prop := ∃ (t : State) (o : Outcome), Steps p.tables e below (T.setTop g) t ∧ t.status = .running ∧ Ended t below o ∧ Post o t
theorem Goes.step {p : Program} {e : Env} {below : List Frame} {Post : Outcome → State → Prop} {T T' : State} {g g' : JFrame} (k : ∀ t, Steps p.tables e below (T'.setTop g') t → Steps p.tables e below (T.setTop g) t) (h : Goes p e below Post T' g') : Goes p e below Post T g := by
  obtain ⟨t, o, h1, h2⟩ := h; exact ⟨t, o, k _ h1, h2⟩
theorem Goes.run {p : Program} {e : Env} {below : List Frame} {Post : Outcome → State → Prop} {T T' : State} {g g' : JFrame} (k : Steps p.tables e below (T.setTop g) (T'.setTop g')) (h : Goes p e below Post T' g') : Goes p e below Post T g := by
  obtain ⟨t, o, h1, h2⟩ := h; exact ⟨t, o, k.trans h1, h2⟩
theorem own_cat {v : Value} (h : v.isRef = true) : v.category = 1 := by rcases ref_cases h with rfl | ⟨_, rfl⟩ <;> rfl
theorem own_nref {v : Value} {C : String} (h : v.isRef = true) : narrow (.object C) v = v := by rcases ref_cases h with rfl | ⟨_, rfl⟩ <;> rfl
theorem own_nref' {v : Value} {t : FieldType} (h : v.isRef = true) : narrow t v = v := by rcases ref_cases h with rfl | ⟨_, rfl⟩ <;> cases t <;> rfl
theorem own_fref {v : Value} {C : String} (h : v.isRef = true) : fits (.object C) v = true := by rcases ref_cases h with rfl | ⟨_, rfl⟩ <;> rfl
theorem own_n0 {Z : State} {n0 : Nat} {h : Heap} (O : Old Z n0 h) : n0 ≤ h.size := O.1 ▸ O.2.1
theorem own_since0 (s : State) (n : Nat) : s.Since s.vm n := (State.WarmedH.refl s).since n
theorem own_mono {s t : State} {o : Outcome} {L : List Loc} {k n k' n' : Nat} (h : ReturnedEndW s o t L k n) (hk : k ≤ k') (hn : n ≤ n') : ReturnedEndW s o t L k' n' := ⟨h.1, h.2.1, h.2.2.1, h.2.2.2.mono hk hn⟩
/-- a value that is null or a String -/
def SN (Z : State) (h : Heap) (r : Value) : Prop := r.isRef = true ∧ (r = .null ∨ ∃ a, r = .ref a ∧ Exa Z h a "java/lang/String")
theorem SN.ext {Z : State} {h h' : Heap} {r : Value} (F : SN Z h r) (E : Ext h h') : SN Z h' r := ⟨F.1, F.2.imp id fun ⟨a, q, G⟩ => ⟨a, q, G.ext E⟩⟩
theorem SN.wr {Z : State} {h h' : Heap} {r : Value} {a : Addr} {sl : Nat} {v : Value} (F : SN Z h r) (W : Wr h h' a sl v) : SN Z h' r := ⟨F.1, F.2.imp id fun ⟨a, q, G⟩ => ⟨a, q, G.wr W⟩⟩
theorem SN.keep {Z : State} {h h' : Heap} {r : Value} {ws : List Addr} (F : SN Z h r) (K : Keep h h' ws) : SN Z h' r := ⟨F.1, F.2.imp id fun ⟨a, q, G⟩ => ⟨a, q, G.keep K⟩⟩
theorem own_and255 (x : Int32) : ¬ (x &&& 255) < 0 ∧ ¬ (255 : Int32) < (x &&& 255) := by
  have e : (x &&& 255).toBitVec = x.toBitVec &&& 255#32 := rfl
  have e1 : (x &&& 255).toInt = (x.toBitVec &&& 255#32).toInt := by rw [← e]; rfl
  have e2 : (x.toBitVec &&& 255#32).toNat < 256 := by
    rw [BitVec.toNat_and]; exact Nat.lt_of_le_of_lt Nat.and_le_right (by decide)
  have e3 : (x.toBitVec &&& 255#32).toInt = (x.toBitVec &&& 255#32).toNat := by
    rw [BitVec.toInt_eq_toNat_of_lt]; omega
  rw [Int32.lt_iff_toInt_lt, Int32.lt_iff_toInt_lt, e1, e3]
  have : (0 : Int32).toInt = 0 := rfl
  have : (255 : Int32).toInt = 255 := rfl
  omega
theorem own_nar8 (x : Int32) : nar .char (x &&& 255) = x &&& 255 := i2c_mask x
theorem own_c8 (x : Int32) : ¬ nar .char ((x &&& 255).toUInt32.toUInt16.toUInt32.toInt32) < 0 ∧ ¬ (255 : Int32) < nar .char ((x &&& 255).toUInt32.toUInt16.toUInt32.toInt32) := by
  rw [i2c_mask, own_nar8]; exact own_and255 x
theorem own_wBV {Z : State} {a0 : Array Value} (hw : ∀ d ∈ tables_1, d.before a0 Z = true) : ∀ d ∈ StrChars.Road.words, d.before a0 Z = true := fun d hd => hw d ((by decide +kernel : ∀ d ∈ StrChars.Road.words, d ∈ tables_1) d hd)
theorem own_kext {h h' : Heap} (K : Keep h h' []) : Ext h h' := ⟨K.1, fun a c q => K.2.1 a c q nin0⟩
/-- a compact String of these chars -/
def SX (Z : State) (h : Heap) (a : Addr) (cs : List Int32) : Prop := Exa Z h a "java/lang/String" ∧ Fld Z h a "java/lang/String" "coder" "B" (.int 0) ∧ (∀ c ∈ cs, ¬ c < 0 ∧ ¬ (255 : Int32) < c) ∧ ∃ (t : Addr) (kb : ClassId), Fld Z h a "java/lang/String" "value" "[B" (.ref t) ∧ Arv Z h t kb .byte (Int32.ofNat cs.length) (cs.map fun c => .int (c.toInt8.toInt32)) (.int 0)
theorem SX.ext {Z : State} {h h' : Heap} {a : Addr} {cs : List Int32} (F : SX Z h a cs) (E : Ext h h') : SX Z h' a cs := by
  obtain ⟨f1, f2, f3, t, kb, f4, f5⟩ := F; exact ⟨f1.ext E, f2.ext E, f3, t, kb, f4.ext E, f5.ext E⟩
theorem SX.keepE {Z : State} {a0 : Array Value} {h h' : Heap} {a o : Addr} {cs : List Int32} {C : String} {n : Nat} (F : SX Z h a cs) (K : Keep h h' [o]) (E : Exa Z h o C) (hC : C ≠ "java/lang/String") (wi : (Cond.instantiable C n).before a0 Z = true) : SX Z h' a cs := by
  obtain ⟨f1, f2, f3, t, kb, f4, f5⟩ := F
  have n1 : a ≠ o := (ne_exa E f1 hC).symm
  have n2 : t ≠ o := (Exa.neArv E f5 wi).symm
  exact ⟨f1.keep K, f2.keep K (ninS n1 nin0), f3, t, kb, f4.keep K (ninS n1 nin0), f5.keep K (ninS n2 nin0)⟩
theorem SX.wrE {Z : State} {a0 : Array Value} {h h' : Heap} {a o : Addr} {sl : Nat} {v : Value} {cs : List Int32} {C : String} {n : Nat} (F : SX Z h a cs) (W : Wr h h' o sl v) (E : Exa Z h o C) (hC : C ≠ "java/lang/String") (wi : (Cond.instantiable C n).before a0 Z = true) : SX Z h' a cs := F.keepE (Keep.of_wr W) E hC wi
theorem own_cod {cs : List Int32} (h : ∀ c ∈ cs, ¬ c < 0 ∧ ¬ (255 : Int32) < c) : StrChars.Road.CodA cs 0 (Int32.ofNat cs.length) (cs.map fun c => .int (c.toInt8.toInt32)) := Or.inl ⟨rfl, rfl, rfl, fun c hc => (h c hc).2⟩
theorem own_up {cs : List Int32} (h : ∀ c ∈ cs, ¬ c < 0 ∧ ¬ (255 : Int32) < c) : ∀ c ∈ cs, ¬ c < 0 ∧ ¬ (65535 : Int32) < c := fun c hc => ⟨(h c hc).1, fun q => (h c hc).2 (Int32.lt_trans (by decide) q)⟩
theorem own_wLen {Z : State} {a0 : Array Value} (hw : ∀ d ∈ tables_1, d.before a0 Z = true) : ∀ d ∈ StrChars.Road.wordsLen, d.before a0 Z = true := fun d hd => hw d ((by decide +kernel : ∀ d ∈ StrChars.Road.wordsLen, d ∈ tables_1) d hd)
theorem own_lenW {p : Program} {l : Launch} {e : Env} {R : Room} {s : State} {args : Array Value} {below : List Frame} {len W : Nat} {Z : State} {a0 : Array Value} {h : Heap} (hZ : Z.Warmed39 s.vm) (hw : ∀ d ∈ tables_1, d.before a0 Z = true) (wi : (Jvm.Cond.instantiable "java/lang/String" 4).before a0 Z = true)
    {x : Addr} {cs : List Int32} (F : SX Z h x cs) (l1 : cs.length ≤ 4000) {z : Int32} (S : Sta Z h "java/lang/String" "COMPACT_STRINGS" "Z" (.int z)) (hz : ¬ z = 0) (hfr : 2 ≤ R.frames) (hlo : W + 25 ≤ R.locals) :
    Back l R p e below s args (⟨"java/lang/String", "length", "()I"⟩ : MethodName) len W (fun P a => a = #[.ref x] ∧ P.U.heap = h ∧ P.cells + 0 ≤ R.cells ∧ P.slots + 0 ≤ R.slots)
      (fun P _ v B => ∃ L, (v = some (.int (Int32.ofNat cs.length)) ∧ L = [] ∧ B.U.heap = h) ∧ B.locs = P.locs ++ L ∧ B.cells = P.cells + 0 ∧ B.slots = P.slots + 0) := by
  obtain ⟨f1, f2, f3, t, kb, f4, f5⟩ := F
  exact StrChars.Road.lenW hZ (own_wLen hw) (kI := 4) wi f1 f4 f2 f5 (own_cod f3) (own_up f3) S hz l1 hfr hlo
/-- the place of the first point, or the length -/
def IX : List Int32 → Nat
  | [] => 0
  | c :: r => if c = 46 then 0 else IX r + 1
theorem IX_le : ∀ cs : List Int32, IX cs ≤ cs.length
  | [] => Nat.le_refl _
  | c :: r => by have := IX_le r; simp only [IX]; split <;> simp; omega
theorem IX_drop {cs : List Int32} {i : Nat} (hi : i < cs.length) : IX (cs.drop i) = if cs.getD i 0 = 46 then 0 else IX (cs.drop (i + 1)) + 1 := by
  rw [List.drop_eq_getElem_cons hi, IX]; simp [List.getD_eq_getElem?_getD, hi]
theorem own_n32 {n : Nat} (h : n ≤ 4000) : (Int32.ofNat n).toInt = n := Int32.toInt_ofNat_small (by omega)
theorem own_lt {a b : Nat} (ha : a ≤ 4000) (hb : b ≤ 4000) : Int32.ofNat a < Int32.ofNat b ↔ a < b := by rw [Int32.lt_iff_toInt_lt, own_n32 ha, own_n32 hb]; omega
theorem own_eq {a b : Nat} (ha : a ≤ 4000) (hb : b ≤ 4000) : Int32.ofNat a = Int32.ofNat b ↔ a = b := by rw [← Int32.toInt_inj, own_n32 ha, own_n32 hb]; omega
theorem own_nn {a : Nat} (ha : a ≤ 4000) : ¬ Int32.ofNat a < 0 := by rw [Int32.lt_iff_toInt_lt, own_n32 ha]; simp
theorem own_clamp {a : Nat} (ha : a ≤ 4000) : (Int32.ofNat a).toNatClampNeg = a := by rw [Int32.toNatClampNeg, own_n32 ha]; rfl
theorem own_sub {a b : Nat} (hb : b ≤ 4000) (ha : a ≤ 4000) : (Int32.ofNat a - Int32.ofNat b).toInt = (a : Int) - b := by
  rw [Int32.toInt_sub, own_n32 ha, own_n32 hb, Int.bmod_eq_of_le] <;> omega
/-- a byte that is 46 is a char that is 46 -/
theorem own_by46 {c : Int32} (h : ¬ c < 0 ∧ ¬ (255 : Int32) < c) : c.toInt8.toInt32 = 46 ↔ c = 46 := by
  rw [Int32.lt_iff_toInt_lt, Int32.lt_iff_toInt_lt] at h
  have z : (0 : Int32).toInt = 0 := rfl
  have y : (255 : Int32).toInt = 255 := rfl
  have e : c.toInt8.toInt32.toInt = c.toInt.bmod 256 := by simp [Int32.toInt_toInt8]
  rw [← Int32.toInt_inj, ← Int32.toInt_inj, e]
  have x : (46 : Int32).toInt = 46 := rfl
  rw [x]; simp only [Int.bmod_def]; omega
theorem own_at {cs : List Int32} {i : Nat} (hi : i < cs.length) : (cs.map fun c => Value.int (c.toInt8.toInt32)).getD i (.int 0) = .int ((cs.getD i 0).toInt8.toInt32) := by
  simp [List.getD_eq_getElem?_getD, hi]
theorem own_mem {cs : List Int32} {i : Nat} (hi : i < cs.length) : cs.getD i 0 ∈ cs := by
  simp [List.getD_eq_getElem?_getD, hi]
theorem own_skip {Z : State} {h : Heap} {a : Addr} {k : ClassId} {ty : FieldType} {n : Int32} {vs : List Value} {dv : Value} (V : Arv Z h a k ty n vs dv) (j : Nat) (hj : n.toNatClampNeg ≤ j) (v : Value) : Arv Z h a k ty n (vs.set j v) dv := by
  obtain ⟨c, A, r1, r2, r3, H, G⟩ := V
  have q : ∀ i, i < c.slots.size → (vs.set j v).getD i dv = vs.getD i dv := fun i hi => by
    rw [r2] at hi; simp only [List.getD_eq_getElem?_getD]; rw [List.getElem?_set_ne (by omega)]
  exact ⟨c, A, r1, r2, r3, fun i hi => by rw [q i hi]; exact H i hi, fun i hi => by rw [q i hi]; exact G i hi⟩
theorem own_takeV {Z : State} {h : Heap} {a : Addr} {k : ClassId} {ty : FieldType} {n : Int32} {vs : List Int32} {dv : Value} (V : Arv Z h a k ty n (vs.map Value.int) dv) (j : Nat) (hj : n.toNatClampNeg ≤ j) : Arv Z h a k ty n ((vs.take j).map Value.int) dv := by
  obtain ⟨c, A, r1, r2, r3, H, G⟩ := V
  have q : ∀ i, i < c.slots.size → ((vs.take j).map Value.int).getD i dv = (vs.map Value.int).getD i dv := fun i hi => by
    rw [r2] at hi; simp only [List.getD_eq_getElem?_getD, List.getElem?_map]; rw [List.getElem?_take_of_lt (by omega)]
  exact ⟨c, A, r1, r2, r3, fun i hi => by rw [q i hi]; exact H i hi, fun i hi => by rw [q i hi]; exact G i hi⟩
theorem IX_none : ∀ {cs : List Int32}, (∀ c ∈ cs, c ≠ 46) → IX cs = cs.length
  | [], _ => rfl
  | c :: r, h => by rw [IX, if_neg (h c (List.mem_cons_self ..)), IX_none (fun d hd => h d (List.mem_cons_of_mem _ hd))]; rfl
theorem IX_set : ∀ {cs : List Int32} {j : Nat}, (∀ c ∈ cs, c ≠ 46) → j < cs.length → IX (cs.set j 46) = j
  | c :: r, 0, _, _ => by simp [IX]
  | c :: r, j + 1, h, hj => by rw [List.set_cons_succ, IX, if_neg (h c (List.mem_cons_self ..)), IX_set (fun d hd => h d (List.mem_cons_of_mem _ hd)) (by simpa using hj)]
theorem own_digit (x : Int32) : ¬ nar .char ((48 + (x &&& 15) % 10).toUInt32.toUInt16.toUInt32.toInt32) < 48 ∧ ¬ (57 : Int32) < nar .char ((48 + (x &&& 15) % 10).toUInt32.toUInt16.toUInt32.toInt32) := by
  have e2 : (x.toBitVec &&& 15#32).toNat < 16 := by
    rw [BitVec.toNat_and]; exact Nat.lt_of_le_of_lt Nat.and_le_right (by decide)
  have e1 : (x &&& 15).toInt = (x.toBitVec &&& 15#32).toNat := by
    show (x.toBitVec &&& 15#32).toInt = _
    rw [BitVec.toInt_eq_toNat_of_lt]; omega
  have : ∀ n : Nat, n < 16 → ∀ y : Int32, y.toInt = n → ¬ nar .char ((48 + y % 10).toUInt32.toUInt16.toUInt32.toInt32) < 48 ∧ ¬ (57 : Int32) < nar .char ((48 + y % 10).toUInt32.toUInt16.toUInt32.toInt32) := by
    intro n hn y hy
    have hy' : y = Int32.ofNat n := Int32.toInt_inj.mp (by rw [hy]; exact (Int32.toInt_ofNat_small (by omega)).symm)
    rw [hy']
    exact (by decide : ∀ n : Fin 16, ¬ nar .char ((48 + (Int32.ofNat n.val) % 10).toUInt32.toUInt16.toUInt32.toInt32) < 48 ∧ ¬ (57 : Int32) < nar .char ((48 + (Int32.ofNat n.val) % 10).toUInt32.toUInt16.toUInt32.toInt32)) ⟨n, hn⟩
  exact this _ e2 _ e1
theorem own_narC (y : Int32) : nar .char (nar .char y) = nar .char y := by
  have h : ∀ u : UInt16, (u.toUInt32.toInt32).toUInt32.toUInt16 = u := fun u => by
    rw [show u.toUInt32.toInt32.toUInt32 = u.toUInt32 from rfl]; exact UInt16.toUInt16_toUInt32 u
  show ((y.toUInt32.toUInt16).toUInt32.toInt32).toUInt32.toUInt16.toUInt32.toInt32 = _
  rw [h]; rfl
theorem own_and7 (x : Int32) : ∃ k : Nat, 1 ≤ k ∧ k ≤ 8 ∧ 1 + (x &&& 7) = Int32.ofNat k := by
  have e2 : (x.toBitVec &&& 7#32).toNat < 8 := by
    rw [BitVec.toNat_and]; exact Nat.lt_of_le_of_lt Nat.and_le_right (by decide)
  have e1 : (x &&& 7).toInt = (x.toBitVec &&& 7#32).toNat := by
    show (x.toBitVec &&& 7#32).toInt = _
    rw [BitVec.toInt_eq_toNat_of_lt]; omega
  refine ⟨(x.toBitVec &&& 7#32).toNat + 1, by omega, by omega, Int32.toInt_inj.mp ?_⟩
  have o : (1 : Int32).toInt = 1 := rfl
  rw [Int32.toInt_add, e1, o, Int32.toInt_ofNat_small (by omega)]
  simp only [Int.bmod_def]; omega
theorem own_mask (x : Int32) : 0 ≤ (x &&& 2147483647).toInt := by
  have e2 : (x.toBitVec &&& 2147483647#32).toNat ≤ 2147483647 := by
    rw [BitVec.toNat_and]; exact Nat.and_le_right
  have e1 : (x &&& 2147483647).toInt = (x.toBitVec &&& 2147483647#32).toNat := by
    show (x.toBitVec &&& 2147483647#32).toInt = _
    rw [BitVec.toInt_eq_toNat_of_lt]; omega
  omega
/-- a nonnegative number modulo a small one -/
theorem own_mod {x : Int32} (hx : 0 ≤ x.toInt) {m : Nat} (hm : 1 ≤ m) (h4 : m ≤ 4000) : ∃ j : Nat, j < m ∧ x % Int32.ofNat m = Int32.ofNat j := by
  refine ⟨(x.toInt % m).toNat, by have := Int.emod_lt_of_pos x.toInt (show (0 : Int) < m by omega); have := Int.emod_nonneg x.toInt (show (m : Int) ≠ 0 by omega); omega, Int32.toInt_inj.mp ?_⟩
  have h1 := Int.emod_lt_of_pos x.toInt (show (0 : Int) < m by omega)
  have h2 := Int.emod_nonneg x.toInt (show (m : Int) ≠ 0 by omega)
  rw [Int32.toInt_mod, own_n32 h4, Int32.toInt_ofNat_small (by omega), Int.tmod_eq_emod_of_nonneg hx]; omega
def DG (q : Int64) (i : Int32) : Int32 := nar .char ((48 + ((((q.toUInt64 >>> ((4 * i) &&& 0x3f).toInt64.toUInt64).toInt64).toInt32) &&& 15) % 10).toUInt32.toUInt16.toUInt32.toInt32)
def DL (q : Int64) : List Int32 := [DG q 0, DG q 1, DG q 2, DG q 3, DG q 4, DG q 5, DG q 6, DG q 7]
theorem DG_rng (q : Int64) (i : Int32) : ¬ DG q i < 48 ∧ ¬ (57 : Int32) < DG q i := own_digit _
theorem DL_mem {q : Int64} {c : Int32} (h : c ∈ DL q) : ¬ c < 48 ∧ ¬ (57 : Int32) < c := by
  simp only [DL, List.mem_cons, List.not_mem_nil, or_false] at h
  rcases h with rfl | rfl | rfl | rfl | rfl | rfl | rfl | rfl <;> exact DG_rng _ _
theorem own_r {c : Int32} (h : ¬ c < 48 ∧ ¬ (57 : Int32) < c) : c ≠ 46 ∧ ¬ c < 0 ∧ ¬ (255 : Int32) < c := by
  have a : (48 : Int32).toInt = 48 := rfl
  have b : (57 : Int32).toInt = 57 := rfl
  have d : (255 : Int32).toInt = 255 := rfl
  have z : (0 : Int32).toInt = 0 := rfl
  have f : (46 : Int32).toInt = 46 := rfl
  simp only [Int32.lt_iff_toInt_lt, a, b, d, z] at h ⊢
  refine ⟨fun q => ?_, by omega, by omega⟩
  rw [q, f] at h; omega
/-- what the law has drawn: the chars, whether a point stands in them, and where -/
def Drawn (cs : List Int32) (k : Nat) (hp pt : Int32) : Prop := cs.length = k ∧ (∀ c ∈ cs, ¬ c < 0 ∧ ¬ (255 : Int32) < c) ∧ ((hp = 0 ∧ IX cs = k) ∨ (hp = 1 ∧ ∃ j, pt = Int32.ofNat j ∧ IX cs = j ∧ j + 2 ≤ k))
theorem drawn0 {q : Int64} {k : Nat} (hk : k ≤ 8) {pt : Int32} : Drawn ((DL q).take k) k 0 pt := by
  have hl : ((DL q).take k).length = k := by rw [List.length_take]; simp [DL]; omega
  exact ⟨hl, fun c hc => (own_r (DL_mem (List.mem_of_mem_take hc))).2, Or.inl ⟨rfl, by rw [IX_none fun c hc => (own_r (DL_mem (List.mem_of_mem_take hc))).1, hl]⟩⟩
theorem drawn1 {q : Int64} {k j : Nat} (hk : k ≤ 8) (hj : j + 2 ≤ k) : Drawn (((DL q).set j 46).take k) k 1 (Int32.ofNat j) := by
  have hl : ((DL q).take k).length = k := by rw [List.length_take]; simp [DL]; omega
  rw [List.take_set]
  refine ⟨by rw [List.length_set, hl], fun c hc => ?_, Or.inr ⟨rfl, j, rfl, IX_set (fun c hc => (own_r (DL_mem (List.mem_of_mem_take hc))).1) (by omega), hj⟩⟩
  rcases List.mem_or_eq_of_mem_set hc with h | h
  · exact (own_r (DL_mem (List.mem_of_mem_take h))).2
  · subst h; decide
def Chosen (k : Nat) (hp pt : Int32) : Prop := (hp = 0 ∧ pt = Int32.ofNat k) ∨ (hp = 1 ∧ ∃ j : Nat, pt = Int32.ofNat j ∧ j + 2 ≤ k)
theorem own_sub2 {k : Nat} (h : 3 ≤ k) (h8 : k ≤ 8) : Int32.ofNat k - 2 = Int32.ofNat (k - 2) := Int32.toInt_inj.mp (by
  rw [Int32.toInt_sub, own_n32 (by omega), own_n32 (by omega), show (2 : Int32).toInt = 2 from rfl]; simp only [Int.bmod_def]; omega)
theorem own_add1 (j : Nat) : (1 : Int32) + Int32.ofNat j = Int32.ofNat (j + 1) := by rw [Int32.add_comm]; exact (inc_ofNat j).symm
theorem chosen {k : Nat} (h : 3 ≤ k) (h8 : k ≤ 8) (x : Int32) : Chosen k 1 (1 + (x &&& 2147483647) % (Int32.ofNat k - 2)) := by
  obtain ⟨j, h1, h2⟩ := own_mod (own_mask x) (m := k - 2) (by omega) (by omega)
  exact Or.inr ⟨rfl, j + 1, by rw [own_sub2 h h8, h2, own_add1], by omega⟩
theorem own_k3 {k : Nat} (h8 : k ≤ 8) (h : ¬ Int32.ofNat k < 3) : 3 ≤ k := by
  rw [Int32.lt_iff_toInt_lt, own_n32 (by omega), show (3 : Int32).toInt = 3 from rfl] at h; omega
theorem own_nz {k : Nat} (h : 3 ≤ k) (h8 : k ≤ 8) : Int32.ofNat k - 2 ≠ 0 := by
  rw [own_sub2 h h8]; intro q; have := congrArg Int32.toInt q; rw [own_n32 (by omega)] at this; simp at this; omega
theorem d_jdk_43_method_4_0 : decode jdk_43_method_4_code 0 = .ok (.iload_n 0, 1) := by decide +kernel
theorem d_jdk_43_method_4_1 : decode jdk_43_method_4_code 1 = .ok (.ifCond .lt 14, 3) := by decide +kernel
theorem d_jdk_43_method_4_4 : decode jdk_43_method_4_code 4 = .ok (.iload_n 0, 1) := by decide +kernel
theorem d_jdk_43_method_4_5 : decode jdk_43_method_4_code 5 = .ok (.sipush 255, 3) := by decide +kernel
theorem d_jdk_43_method_4_8 : decode jdk_43_method_4_code 8 = .ok (.if_icmp .gt 7, 3) := by decide +kernel
theorem d_jdk_43_method_4_11 : decode jdk_43_method_4_code 11 = .ok (.iconst 1, 1) := by decide +kernel
theorem d_jdk_43_method_4_12 : decode jdk_43_method_4_code 12 = .ok (.goto 4, 3) := by decide +kernel
theorem d_jdk_43_method_4_16 : decode jdk_43_method_4_code 16 = .ok (.ireturn, 1) := by decide +kernel
theorem pn_0 : plainName "java/lang/StringLatin1" = true := by first | (simp [plainName, overriddenIn]; done) | decide +kernel
theorem ef_canEncI (m : MethodId)  : entryFrame m #[(.int (46 : Int32))] 1 = mkF m 0 #[.val (.int (46 : Int32))] [] := by first | (simp [entryFrame, mkF, argsToLocals, Value.category, maxLocals]; done) | rfl
def Q_canEncI (Z : State)  (h0 : Heap) (n0 : Nat) (v : Option Value) (h : Heap) (L : List Loc) : Prop := (v = some (.int (1 : Int32))) ∧ (L = []) ∧ (h = h0)
set_option maxRecDepth 65536 in
set_option maxHeartbeats 40000000 in
theorem rm_canEncI (l : Launch) (Z : State) (a0 : Array Value) (hw : ∀ d ∈ tables_1, d.before a0 Z = true) (ws : List Jvm.Cond)  (h0 : Heap) (n0 : Nat) (O0 : Old Z n0 h0)   :
    MetFree l (⟨"java/lang/StringLatin1", "canEncode", "(I)Z"⟩ : MethodName) (head1 ((Jvm.Cond.code (⟨"java/lang/StringLatin1", "canEncode", "(I)Z"⟩ : MethodName) jdk_43_method_4_code 1 (some .boolean)) :: ws) ({ frames := 0, cells := 0, slots := 0, locals := 0 } : Room)) (fun a U => a = #[(.int (46 : Int32))] ∧ Z.Warmed39 U.vm ∧ U.heap = h0) (fun _ _ _ _ _ => True) (fun _ U o U' => ∃ v L, o = .returned v ∧ Q_canEncI Z  h0 n0 v U'.heap L ∧ FrameEnd U o U' L ({ frames := 0, cells := 0, slots := 0, locals := 0 } : Room).cells ({ frames := 0, cells := 0, slots := 0, locals := 0 } : Room).slots) := by
  refine MetFree.of_bodySF (plainFor_of_name pn_0) hisR ?_
  intro p e s m args below meth c s₁ Bd hml0 hP hK
  obtain ⟨rfl, hZ, hh⟩ := hP
  have hx := Bd.exec
  have hby := Bd.bytes
  have hml : c.maxLocals = 1 := hml0
  have hown : s.vm.findClass "java/lang/StringLatin1" = some m.cls := findClass_of_methodNamed Bd.named
  have hnm := (name_of_methodNamed Bd.named Bd.method).1
  have X0 : Stand p l e ({ frames := 0, cells := 0, slots := 0, locals := 0 } : Room) s m #[(.int (46 : Int32))] below meth c s₁ [] 0 0 := Stand.of_body Bd
  have e0 : s₁.heap = h0 := by rw [← hh, Bd.state]; rfl
  have N0 := Fr.nil n0
  have K0 : Keep h0 h0 [] := Keep.refl _ _
  suffices hG : Goes p e below (fun o U' => ∃ v L, o = .returned v ∧ Q_canEncI Z  h0 n0 v U'.heap L ∧ FrameEnd s o U' L ({ frames := 0, cells := 0, slots := 0, locals := 0 } : Room).cells ({ frames := 0, cells := 0, slots := 0, locals := 0 } : Room).slots) s₁ (mkF m 0 #[.val (.int (46 : Int32))] []) by
    obtain ⟨t, o, h1, h2⟩ := hG; exact ⟨t, o, castTop (ef_canEncI m ) h1, h2⟩
  refine Goes.step (T' := s₁) (g' := (mkF m 1 #[.val (.int (46 : Int32))] [(.int (46 : Int32))])) (fun _ kz => XS.iloadN X0.here hx rfl (hb hby d_jdk_43_method_4_0) rfl  kz) ?_
  refine Goes.step (T' := s₁) (g' := (mkF m 4 #[.val (.int (46 : Int32))] [])) (fun _ kz => XS.ifNo X0.here hx rfl (hb hby d_jdk_43_method_4_1) rfl ((if0 _ _).trans (flt (by decide : ¬ ((46 : Int32) < (0 : Int32)))).1) kz) ?_
  refine Goes.step (T' := s₁) (g' := (mkF m 5 #[.val (.int (46 : Int32))] [(.int (46 : Int32))])) (fun _ kz => XS.iloadN X0.here hx rfl (hb hby d_jdk_43_method_4_4) rfl  kz) ?_
  refine Goes.step (T' := s₁) (g' := (mkF m 8 #[.val (.int (46 : Int32))] [(.int (255 : Int32)), (.int (46 : Int32))])) (fun _ kz => XS.sipush X0.here hx rfl (hb hby d_jdk_43_method_4_5) kz) ?_
  refine Goes.step (T' := s₁) (g' := (mkF m 11 #[.val (.int (46 : Int32))] [])) (fun _ kz => XS.icmpNo X0.here hx rfl (hb hby d_jdk_43_method_4_8) rfl (flt (by decide : ¬ ((255 : Int32) < (46 : Int32)))).2.2.1 kz) ?_
  refine Goes.step (T' := s₁) (g' := (mkF m 12 #[.val (.int (46 : Int32))] [(.int (1 : Int32))])) (fun _ kz => XS.iconst X0.here hx rfl (hb hby d_jdk_43_method_4_11) kz) ?_
  refine Goes.step (T' := s₁) (g' := (mkF m 16 #[.val (.int (46 : Int32))] [(.int (1 : Int32))])) (fun _ kz => XS.goto X0.here hx rfl (pc0 := 12) (pc' := 16) rfl (hb hby d_jdk_43_method_4_12) (by decide) (by decide) kz) ?_
  obtain ⟨fs, hr, hrun, hended, hW, hsame⟩ := X0.leave (v := some (.int (nar .boolean (1 : Int32)))) (fun h => by rw [Bd.returns] at h; cases h)
  exact ⟨_, _, retN X0 hx (t := .boolean) Bd.returns (by simp) (hb hby d_jdk_43_method_4_16) hr, hrun, hended, _, _, rfl, (by show Q_canEncI Z  h0 n0 _ s₁.heap _; rw [e0]; exact ⟨rfl, rfl, rfl⟩), ⟨_, rfl⟩, hW, hsame.mono (by decide) (by decide)⟩
theorem d_jdk_29_method_65_0 : decode jdk_29_method_65_code 0 = .ok (.iload_n 0, 1) := by decide +kernel
theorem d_jdk_29_method_65_1 : decode jdk_29_method_65_code 1 = .ok (.iload_n 1, 1) := by decide +kernel
theorem d_jdk_29_method_65_2 : decode jdk_29_method_65_code 2 = .ok (.if_icmp .lt 7, 3) := by decide +kernel
theorem d_jdk_29_method_65_9 : decode jdk_29_method_65_code 9 = .ok (.iload_n 1, 1) := by decide +kernel
theorem d_jdk_29_method_65_10 : decode jdk_29_method_65_code 10 = .ok (.ireturn, 1) := by decide +kernel
theorem d_jdk_29_method_65_5 : decode jdk_29_method_65_code 5 = .ok (.iload_n 0, 1) := by decide +kernel
theorem d_jdk_29_method_65_6 : decode jdk_29_method_65_code 6 = .ok (.goto 4, 3) := by decide +kernel
theorem ef_mathmax (m : MethodId) (p1 : Int32) (p2 : Int32) : entryFrame m #[(.int p1), (.int p2)] 2 = mkF m 0 #[.val (.int p1), .val (.int p2)] [] := by first | (simp [entryFrame, mkF, argsToLocals, Value.category, maxLocals]; done) | rfl
def Q_mathmax (Z : State) (p1 : Int32) (p2 : Int32) (h0 : Heap) (n0 : Nat) (v : Option Value) (h : Heap) (L : List Loc) : Prop := (v = some (.int (if p1 < p2 then p2 else p1))) ∧ (L = []) ∧ (h = h0)
set_option maxRecDepth 65536 in
set_option maxHeartbeats 40000000 in
theorem rm_mathmax (l : Launch) (Z : State) (a0 : Array Value) (hw : ∀ d ∈ tables_1, d.before a0 Z = true) (ws : List Jvm.Cond) (p1 : Int32) (p2 : Int32) (h0 : Heap) (n0 : Nat) (O0 : Old Z n0 h0)   :
    MetFree l (⟨"java/lang/Math", "max", "(II)I"⟩ : MethodName) (head1 ((Jvm.Cond.code (⟨"java/lang/Math", "max", "(II)I"⟩ : MethodName) jdk_29_method_65_code 2 (some .int)) :: ws) ({ frames := 0, cells := 0, slots := 0, locals := 0 } : Room)) (fun a U => a = #[(.int p1), (.int p2)] ∧ Z.Warmed39 U.vm ∧ U.heap = h0) (fun _ _ _ _ _ => True) (fun _ U o U' => ∃ v L, o = .returned v ∧ Q_mathmax Z p1 p2 h0 n0 v U'.heap L ∧ FrameEnd U o U' L ({ frames := 0, cells := 0, slots := 0, locals := 0 } : Room).cells ({ frames := 0, cells := 0, slots := 0, locals := 0 } : Room).slots) := by
  refine MetFree.of_bodySF (Jvm.Free.JP.mathPlain rfl (by decide)) hisR ?_
  intro p e s m args below meth c s₁ Bd hml0 hP hK
  obtain ⟨rfl, hZ, hh⟩ := hP
  have hx := Bd.exec
  have hby := Bd.bytes
  have hml : c.maxLocals = 2 := hml0
  have hown : s.vm.findClass "java/lang/Math" = some m.cls := findClass_of_methodNamed Bd.named
  have hnm := (name_of_methodNamed Bd.named Bd.method).1
  have X0 : Stand p l e ({ frames := 0, cells := 0, slots := 0, locals := 0 } : Room) s m #[(.int p1), (.int p2)] below meth c s₁ [] 0 0 := Stand.of_body Bd
  have e0 : s₁.heap = h0 := by rw [← hh, Bd.state]; rfl
  have N0 := Fr.nil n0
  have K0 : Keep h0 h0 [] := Keep.refl _ _
  suffices hG : Goes p e below (fun o U' => ∃ v L, o = .returned v ∧ Q_mathmax Z p1 p2 h0 n0 v U'.heap L ∧ FrameEnd s o U' L ({ frames := 0, cells := 0, slots := 0, locals := 0 } : Room).cells ({ frames := 0, cells := 0, slots := 0, locals := 0 } : Room).slots) s₁ (mkF m 0 #[.val (.int p1), .val (.int p2)] []) by
    obtain ⟨t, o, h1, h2⟩ := hG; exact ⟨t, o, castTop (ef_mathmax m p1 p2) h1, h2⟩
  refine Goes.step (T' := s₁) (g' := (mkF m 1 #[.val (.int p1), .val (.int p2)] [(.int p1)])) (fun _ kz => XS.iloadN X0.here hx rfl (hb hby d_jdk_29_method_65_0) rfl  kz) ?_
  refine Goes.step (T' := s₁) (g' := (mkF m 2 #[.val (.int p1), .val (.int p2)] [(.int p2), (.int p1)])) (fun _ kz => XS.iloadN X0.here hx rfl (hb hby d_jdk_29_method_65_1) rfl  kz) ?_
  by_cases hc2_1 : p1 < p2
  ·
    refine Goes.step (T' := s₁) (g' := (mkF m 9 #[.val (.int p1), .val (.int p2)] [])) (fun _ kz => XS.icmpYes X0.here hx rfl (pc0 := 2) (pc' := 9) rfl (hb hby d_jdk_29_method_65_2) rfl (tlt hc2_1).1 (by decide) (by decide) kz) ?_
    refine Goes.step (T' := s₁) (g' := (mkF m 10 #[.val (.int p1), .val (.int p2)] [(.int p2)])) (fun _ kz => XS.iloadN X0.here hx rfl (hb hby d_jdk_29_method_65_9) rfl  kz) ?_
    obtain ⟨fs, hr, hrun, hended, hW, hsame⟩ := X0.leave (v := some (.int p2)) (fun h => by rw [Bd.returns] at h; cases h)
    exact ⟨_, _, retOut X0 hx Bd.returns rfl (Or.inl ⟨rfl, Or.inl rfl, _, rfl⟩) (hb hby d_jdk_29_method_65_10) hr, hrun, hended, _, _, rfl, (by show Q_mathmax Z p1 p2 h0 n0 _ s₁.heap _; rw [e0]; exact ⟨(by simp [hc2_1]), rfl, rfl⟩), ⟨_, rfl⟩, hW, hsame.mono (by decide) (by decide)⟩
  ·
    refine Goes.step (T' := s₁) (g' := (mkF m 5 #[.val (.int p1), .val (.int p2)] [])) (fun _ kz => XS.icmpNo X0.here hx rfl (hb hby d_jdk_29_method_65_2) rfl (flt hc2_1).1 kz) ?_
    refine Goes.step (T' := s₁) (g' := (mkF m 6 #[.val (.int p1), .val (.int p2)] [(.int p1)])) (fun _ kz => XS.iloadN X0.here hx rfl (hb hby d_jdk_29_method_65_5) rfl  kz) ?_
    refine Goes.step (T' := s₁) (g' := (mkF m 10 #[.val (.int p1), .val (.int p2)] [(.int p1)])) (fun _ kz => XS.goto X0.here hx rfl (pc0 := 6) (pc' := 10) rfl (hb hby d_jdk_29_method_65_6) (by decide) (by decide) kz) ?_
    obtain ⟨fs, hr, hrun, hended, hW, hsame⟩ := X0.leave (v := some (.int p1)) (fun h => by rw [Bd.returns] at h; cases h)
    exact ⟨_, _, retOut X0 hx Bd.returns rfl (Or.inl ⟨rfl, Or.inl rfl, _, rfl⟩) (hb hby d_jdk_29_method_65_10) hr, hrun, hended, _, _, rfl, (by show Q_mathmax Z p1 p2 h0 n0 _ s₁.heap _; rw [e0]; exact ⟨(by simp [hc2_1]), rfl, rfl⟩), ⟨_, rfl⟩, hW, hsame.mono (by decide) (by decide)⟩
theorem d_jdk_29_method_69_0 : decode jdk_29_method_69_code 0 = .ok (.iload_n 0, 1) := by decide +kernel
theorem d_jdk_29_method_69_1 : decode jdk_29_method_69_code 1 = .ok (.iload_n 1, 1) := by decide +kernel
theorem d_jdk_29_method_69_2 : decode jdk_29_method_69_code 2 = .ok (.if_icmp .gt 7, 3) := by decide +kernel
theorem d_jdk_29_method_69_9 : decode jdk_29_method_69_code 9 = .ok (.iload_n 1, 1) := by decide +kernel
theorem d_jdk_29_method_69_10 : decode jdk_29_method_69_code 10 = .ok (.ireturn, 1) := by decide +kernel
theorem d_jdk_29_method_69_5 : decode jdk_29_method_69_code 5 = .ok (.iload_n 0, 1) := by decide +kernel
theorem d_jdk_29_method_69_6 : decode jdk_29_method_69_code 6 = .ok (.goto 4, 3) := by decide +kernel
theorem ef_mathmin (m : MethodId) (p1 : Int32) (p2 : Int32) : entryFrame m #[(.int p1), (.int p2)] 2 = mkF m 0 #[.val (.int p1), .val (.int p2)] [] := by first | (simp [entryFrame, mkF, argsToLocals, Value.category, maxLocals]; done) | rfl
def Q_mathmin (Z : State) (p1 : Int32) (p2 : Int32) (h0 : Heap) (n0 : Nat) (v : Option Value) (h : Heap) (L : List Loc) : Prop := (v = some (.int (if p2 < p1 then p2 else p1))) ∧ (L = []) ∧ (h = h0)
set_option maxRecDepth 65536 in
set_option maxHeartbeats 40000000 in
theorem rm_mathmin (l : Launch) (Z : State) (a0 : Array Value) (hw : ∀ d ∈ tables_1, d.before a0 Z = true) (ws : List Jvm.Cond) (p1 : Int32) (p2 : Int32) (h0 : Heap) (n0 : Nat) (O0 : Old Z n0 h0)   :
    MetFree l (⟨"java/lang/Math", "min", "(II)I"⟩ : MethodName) (head1 ((Jvm.Cond.code (⟨"java/lang/Math", "min", "(II)I"⟩ : MethodName) jdk_29_method_69_code 2 (some .int)) :: ws) ({ frames := 0, cells := 0, slots := 0, locals := 0 } : Room)) (fun a U => a = #[(.int p1), (.int p2)] ∧ Z.Warmed39 U.vm ∧ U.heap = h0) (fun _ _ _ _ _ => True) (fun _ U o U' => ∃ v L, o = .returned v ∧ Q_mathmin Z p1 p2 h0 n0 v U'.heap L ∧ FrameEnd U o U' L ({ frames := 0, cells := 0, slots := 0, locals := 0 } : Room).cells ({ frames := 0, cells := 0, slots := 0, locals := 0 } : Room).slots) := by
  refine MetFree.of_bodySF (Jvm.Free.JP.mathPlain rfl (by decide)) hisR ?_
  intro p e s m args below meth c s₁ Bd hml0 hP hK
  obtain ⟨rfl, hZ, hh⟩ := hP
  have hx := Bd.exec
  have hby := Bd.bytes
  have hml : c.maxLocals = 2 := hml0
  have hown : s.vm.findClass "java/lang/Math" = some m.cls := findClass_of_methodNamed Bd.named
  have hnm := (name_of_methodNamed Bd.named Bd.method).1
  have X0 : Stand p l e ({ frames := 0, cells := 0, slots := 0, locals := 0 } : Room) s m #[(.int p1), (.int p2)] below meth c s₁ [] 0 0 := Stand.of_body Bd
  have e0 : s₁.heap = h0 := by rw [← hh, Bd.state]; rfl
  have N0 := Fr.nil n0
  have K0 : Keep h0 h0 [] := Keep.refl _ _
  suffices hG : Goes p e below (fun o U' => ∃ v L, o = .returned v ∧ Q_mathmin Z p1 p2 h0 n0 v U'.heap L ∧ FrameEnd s o U' L ({ frames := 0, cells := 0, slots := 0, locals := 0 } : Room).cells ({ frames := 0, cells := 0, slots := 0, locals := 0 } : Room).slots) s₁ (mkF m 0 #[.val (.int p1), .val (.int p2)] []) by
    obtain ⟨t, o, h1, h2⟩ := hG; exact ⟨t, o, castTop (ef_mathmin m p1 p2) h1, h2⟩
  refine Goes.step (T' := s₁) (g' := (mkF m 1 #[.val (.int p1), .val (.int p2)] [(.int p1)])) (fun _ kz => XS.iloadN X0.here hx rfl (hb hby d_jdk_29_method_69_0) rfl  kz) ?_
  refine Goes.step (T' := s₁) (g' := (mkF m 2 #[.val (.int p1), .val (.int p2)] [(.int p2), (.int p1)])) (fun _ kz => XS.iloadN X0.here hx rfl (hb hby d_jdk_29_method_69_1) rfl  kz) ?_
  by_cases hc2_2 : p2 < p1
  ·
    refine Goes.step (T' := s₁) (g' := (mkF m 9 #[.val (.int p1), .val (.int p2)] [])) (fun _ kz => XS.icmpYes X0.here hx rfl (pc0 := 2) (pc' := 9) rfl (hb hby d_jdk_29_method_69_2) rfl (tlt hc2_2).2.2.1 (by decide) (by decide) kz) ?_
    refine Goes.step (T' := s₁) (g' := (mkF m 10 #[.val (.int p1), .val (.int p2)] [(.int p2)])) (fun _ kz => XS.iloadN X0.here hx rfl (hb hby d_jdk_29_method_69_9) rfl  kz) ?_
    obtain ⟨fs, hr, hrun, hended, hW, hsame⟩ := X0.leave (v := some (.int p2)) (fun h => by rw [Bd.returns] at h; cases h)
    exact ⟨_, _, retOut X0 hx Bd.returns rfl (Or.inl ⟨rfl, Or.inl rfl, _, rfl⟩) (hb hby d_jdk_29_method_69_10) hr, hrun, hended, _, _, rfl, (by show Q_mathmin Z p1 p2 h0 n0 _ s₁.heap _; rw [e0]; exact ⟨(by simp [hc2_2]), rfl, rfl⟩), ⟨_, rfl⟩, hW, hsame.mono (by decide) (by decide)⟩
  ·
    refine Goes.step (T' := s₁) (g' := (mkF m 5 #[.val (.int p1), .val (.int p2)] [])) (fun _ kz => XS.icmpNo X0.here hx rfl (hb hby d_jdk_29_method_69_2) rfl (flt hc2_2).2.2.1 kz) ?_
    refine Goes.step (T' := s₁) (g' := (mkF m 6 #[.val (.int p1), .val (.int p2)] [(.int p1)])) (fun _ kz => XS.iloadN X0.here hx rfl (hb hby d_jdk_29_method_69_5) rfl  kz) ?_
    refine Goes.step (T' := s₁) (g' := (mkF m 10 #[.val (.int p1), .val (.int p2)] [(.int p1)])) (fun _ kz => XS.goto X0.here hx rfl (pc0 := 6) (pc' := 10) rfl (hb hby d_jdk_29_method_69_6) (by decide) (by decide) kz) ?_
    obtain ⟨fs, hr, hrun, hended, hW, hsame⟩ := X0.leave (v := some (.int p1)) (fun h => by rw [Bd.returns] at h; cases h)
    exact ⟨_, _, retOut X0 hx Bd.returns rfl (Or.inl ⟨rfl, Or.inl rfl, _, rfl⟩) (hb hby d_jdk_29_method_69_10) hr, hrun, hended, _, _, rfl, (by show Q_mathmin Z p1 p2 h0 n0 _ s₁.heap _; rw [e0]; exact ⟨(by simp [hc2_2]), rfl, rfl⟩), ⟨_, rfl⟩, hW, hsame.mono (by decide) (by decide)⟩
theorem d_jdk_42_method_154_0 : decode jdk_42_method_154_code 0 = .ok (.getstatic 38, 3) := by decide +kernel
theorem d_jdk_42_method_154_3 : decode jdk_42_method_154_code 3 = .ok (.ifCond .eq 14, 3) := by decide +kernel
theorem d_jdk_42_method_154_6 : decode jdk_42_method_154_code 6 = .ok (.aload_n 0, 1) := by decide +kernel
theorem d_jdk_42_method_154_7 : decode jdk_42_method_154_code 7 = .ok (.getfield 15, 3) := by decide +kernel
theorem d_jdk_42_method_154_10 : decode jdk_42_method_154_code 10 = .ok (.ifCond .ne 7, 3) := by decide +kernel
theorem d_jdk_42_method_154_13 : decode jdk_42_method_154_code 13 = .ok (.iconst 1, 1) := by decide +kernel
theorem d_jdk_42_method_154_14 : decode jdk_42_method_154_code 14 = .ok (.goto 4, 3) := by decide +kernel
theorem d_jdk_42_method_154_18 : decode jdk_42_method_154_code 18 = .ok (.ireturn, 1) := by decide +kernel
theorem pn_1 : plainName "java/lang/String" = true := by first | (simp [plainName, overriddenIn]; done) | decide +kernel
theorem ef_isLat (m : MethodId) (a1 : Addr) : entryFrame m #[(.ref a1)] 1 = mkF m 0 #[.val (.ref a1)] [] := by first | (simp [entryFrame, mkF, argsToLocals, Value.category, maxLocals]; done) | rfl
def Q_isLat (Z : State) (a1 : Addr) (h0 : Heap) (n0 : Nat) (v : Option Value) (h : Heap) (L : List Loc) : Prop := (v = some (.int (1 : Int32))) ∧ (L = []) ∧ (h = h0)
set_option maxRecDepth 65536 in
set_option maxHeartbeats 40000000 in
theorem rm_isLat (l : Launch) (Z : State) (a0 : Array Value) (hw : ∀ d ∈ tables_1, d.before a0 Z = true) (ws : List Jvm.Cond) (a1 : Addr) (h0 : Heap) (n0 : Nat) (O0 : Old Z n0 h0) (zcs : Int32) (Scs : Sta Z Z.heap "java/lang/String" "COMPACT_STRINGS" "Z" (.int zcs)) (hz_Scs : ¬ zcs = 0) (F_a1_coder : Fld Z h0 a1 "java/lang/String" "coder" "B" (.int (0 : Int32))) :
    MetFree l (⟨"java/lang/String", "isLatin1", "()Z"⟩ : MethodName) (head1 ((Jvm.Cond.code (⟨"java/lang/String", "isLatin1", "()Z"⟩ : MethodName) jdk_42_method_154_code 1 (some .boolean)) :: ws) ({ frames := 0, cells := 0, slots := 0, locals := 0 } : Room)) (fun a U => a = #[(.ref a1)] ∧ Z.Warmed39 U.vm ∧ U.heap = h0) (fun _ _ _ _ _ => True) (fun _ U o U' => ∃ v L, o = .returned v ∧ Q_isLat Z a1 h0 n0 v U'.heap L ∧ FrameEnd U o U' L ({ frames := 0, cells := 0, slots := 0, locals := 0 } : Room).cells ({ frames := 0, cells := 0, slots := 0, locals := 0 } : Room).slots) := by
  refine MetFree.of_bodySF (plainFor_of_name pn_1) hisR ?_
  intro p e s m args below meth c s₁ Bd hml0 hP hK
  obtain ⟨rfl, hZ, hh⟩ := hP
  have hx := Bd.exec
  have hby := Bd.bytes
  have hml : c.maxLocals = 1 := hml0
  have hown : s.vm.findClass "java/lang/String" = some m.cls := findClass_of_methodNamed Bd.named
  have hnm := (name_of_methodNamed Bd.named Bd.method).1
  have X0 : Stand p l e ({ frames := 0, cells := 0, slots := 0, locals := 0 } : Room) s m #[(.ref a1)] below meth c s₁ [] 0 0 := Stand.of_body Bd
  have e0 : s₁.heap = h0 := by rw [← hh, Bd.state]; rfl
  have N0 := Fr.nil n0
  have K0 : Keep h0 h0 [] := Keep.refl _ _
  suffices hG : Goes p e below (fun o U' => ∃ v L, o = .returned v ∧ Q_isLat Z a1 h0 n0 v U'.heap L ∧ FrameEnd s o U' L ({ frames := 0, cells := 0, slots := 0, locals := 0 } : Room).cells ({ frames := 0, cells := 0, slots := 0, locals := 0 } : Room).slots) s₁ (mkF m 0 #[.val (.ref a1)] []) by
    obtain ⟨t, o, h1, h2⟩ := hG; exact ⟨t, o, castTop (ef_isLat m a1) h1, h2⟩
  obtain ⟨T3, X3, e3, st3⟩ := getS2 X0 hx hZ hown (host := "") (Or.inl (hw _ (List.mem_of_getElem? (i := 18) rfl))) Via.refl e0 (Scs.ext O0.2) (g := (mkF m 0 #[.val (.ref a1)] [])) rfl (hb hby d_jdk_42_method_154_0)
  refine Goes.step (T' := T3) (g' := (mkF m 3 #[.val (.ref a1)] [(.int zcs)])) st3 ?_
  refine Goes.step (T' := T3) (g' := (mkF m 6 #[.val (.ref a1)] [])) (fun _ kz => XS.ifNo X3.here hx rfl (hb hby d_jdk_42_method_154_3) rfl ((if0 _ _).trans (feq hz_Scs).1) kz) ?_
  refine Goes.step (T' := T3) (g' := (mkF m 7 #[.val (.ref a1)] [(.ref a1)])) (fun _ kz => XS.aloadN X3.here hx rfl (hb hby d_jdk_42_method_154_6) rfl rfl kz) ?_
  obtain ⟨T4, X4, e4, st4⟩ := getF X3 hx hZ hown (host := "") (Or.inl (hw _ (List.mem_of_getElem? (i := 30) rfl))) Via.refl e3 F_a1_coder (g := (mkF m 7 #[.val (.ref a1)] [(.ref a1)])) rfl rfl (hb hby d_jdk_42_method_154_7)
  refine Goes.step (T' := T4) (g' := (mkF m 10 #[.val (.ref a1)] [(.int (0 : Int32))])) st4 ?_
  refine Goes.step (T' := T4) (g' := (mkF m 13 #[.val (.ref a1)] [])) (fun _ kz => XS.ifNo X4.here hx rfl (hb hby d_jdk_42_method_154_10) rfl ((if0 _ _).trans (teq (by decide : ((0 : Int32) = (0 : Int32)))).2) kz) ?_
  refine Goes.step (T' := T4) (g' := (mkF m 14 #[.val (.ref a1)] [(.int (1 : Int32))])) (fun _ kz => XS.iconst X4.here hx rfl (hb hby d_jdk_42_method_154_13) kz) ?_
  refine Goes.step (T' := T4) (g' := (mkF m 18 #[.val (.ref a1)] [(.int (1 : Int32))])) (fun _ kz => XS.goto X4.here hx rfl (pc0 := 14) (pc' := 18) rfl (hb hby d_jdk_42_method_154_14) (by decide) (by decide) kz) ?_
  obtain ⟨fs, hr, hrun, hended, hW, hsame⟩ := X4.leave (v := some (.int (nar .boolean (1 : Int32)))) (fun h => by rw [Bd.returns] at h; cases h)
  exact ⟨_, _, retN X4 hx (t := .boolean) Bd.returns (by simp) (hb hby d_jdk_42_method_154_18) hr, hrun, hended, _, _, rfl, (by show Q_isLat Z a1 h0 n0 _ T4.heap _; rw [e4]; exact ⟨rfl, rfl, rfl⟩), ⟨_, rfl⟩, hW, hsame.mono (by decide) (by decide)⟩
theorem d_jdk_43_method_23_0 : decode jdk_43_method_23_code 0 = .ok (.iload_n 1, 1) := by decide +kernel
theorem d_jdk_43_method_23_1 : decode jdk_43_method_23_code 1 = .ok (.i2b, 1) := by decide +kernel
theorem d_jdk_43_method_23_2 : decode jdk_43_method_23_code 2 = .ok (.istore 4, 2) := by decide +kernel
theorem d_jdk_43_method_23_4 : decode jdk_43_method_23_code 4 = .ok (.iload_n 2, 1) := by decide +kernel
theorem d_jdk_43_method_23_5 : decode jdk_43_method_23_code 5 = .ok (.istore 5, 2) := by decide +kernel
theorem d_jdk_43_method_23_7 : decode jdk_43_method_23_code 7 = .ok (.iload 5, 2) := by decide +kernel
theorem d_jdk_43_method_23_9 : decode jdk_43_method_23_code 9 = .ok (.iload_n 3, 1) := by decide +kernel
theorem d_jdk_43_method_23_10 : decode jdk_43_method_23_code 10 = .ok (.if_icmp .ge 21, 3) := by decide +kernel
theorem d_jdk_43_method_23_31 : decode jdk_43_method_23_code 31 = .ok (.iconst (-1), 1) := by decide +kernel
theorem d_jdk_43_method_23_32 : decode jdk_43_method_23_code 32 = .ok (.ireturn, 1) := by decide +kernel
theorem d_jdk_43_method_23_13 : decode jdk_43_method_23_code 13 = .ok (.aload_n 0, 1) := by decide +kernel
theorem d_jdk_43_method_23_14 : decode jdk_43_method_23_code 14 = .ok (.iload 5, 2) := by decide +kernel
theorem d_jdk_43_method_23_16 : decode jdk_43_method_23_code 16 = .ok (.baload, 1) := by decide +kernel
theorem d_jdk_43_method_23_17 : decode jdk_43_method_23_code 17 = .ok (.iload 4, 2) := by decide +kernel
theorem d_jdk_43_method_23_19 : decode jdk_43_method_23_code 19 = .ok (.if_icmp .ne 6, 3) := by decide +kernel
theorem d_jdk_43_method_23_22 : decode jdk_43_method_23_code 22 = .ok (.iload 5, 2) := by decide +kernel
theorem d_jdk_43_method_23_24 : decode jdk_43_method_23_code 24 = .ok (.ireturn, 1) := by decide +kernel
theorem d_jdk_43_method_23_25 : decode jdk_43_method_23_code 25 = .ok (.iinc 5 1, 3) := by decide +kernel
theorem d_jdk_43_method_23_28 : decode jdk_43_method_23_code 28 = .ok (.goto (-21), 3) := by decide +kernel
theorem ef_ixChar (m : MethodId) (a1 : Addr) (q3 : Int32) : entryFrame m #[(.ref a1), (.int (46 : Int32)), (.int (0 : Int32)), (.int q3)] 6 = mkF m 0 #[.val (.ref a1), .val (.int (46 : Int32)), .val (.int (0 : Int32)), .val (.int q3), .unset, .unset] [] := by first | (simp [entryFrame, mkF, argsToLocals, Value.category, maxLocals]; done) | rfl
def Q_ixChar (Z : State) (a1 : Addr) (kb : ClassId) (cs : List Int32) (h0 : Heap) (n0 : Nat) (v : Option Value) (h : Heap) (L : List Loc) : Prop := (v = some (.int (if IX cs = cs.length then -1 else Int32.ofNat (IX cs)))) ∧ (L = []) ∧ (h = h0)
set_option maxRecDepth 65536 in
set_option maxHeartbeats 40000000 in
theorem rm_ixChar (l : Launch) (Z : State) (a0 : Array Value) (hw : ∀ d ∈ tables_1, d.before a0 Z = true) (ws : List Jvm.Cond) (a1 : Addr) (kb : ClassId) (cs : List Int32) (h0 : Heap) (n0 : Nat) (O0 : Old Z n0 h0)  (V_a1 : Arv Z h0 a1 kb .byte (Int32.ofNat cs.length) (cs.map fun c => Value.int (c.toInt8.toInt32)) (.int 0)) (hl : cs.length ≤ 4000) (hbd : ∀ c ∈ cs, ¬ c < 0 ∧ ¬ (255 : Int32) < c) :
    MetFree l (⟨"java/lang/StringLatin1", "indexOfChar", "([BIII)I"⟩ : MethodName) (head1 ((Jvm.Cond.code (⟨"java/lang/StringLatin1", "indexOfChar", "([BIII)I"⟩ : MethodName) jdk_43_method_23_code 6 (some .int)) :: ws) ({ frames := 0, cells := 0, slots := 0, locals := 0 } : Room)) (fun a U => a = #[(.ref a1), (.int (46 : Int32)), (.int (0 : Int32)), (.int (Int32.ofNat cs.length))] ∧ Z.Warmed39 U.vm ∧ U.heap = h0) (fun _ _ _ _ _ => True) (fun _ U o U' => ∃ v L, o = .returned v ∧ Q_ixChar Z a1 kb cs h0 n0 v U'.heap L ∧ FrameEnd U o U' L ({ frames := 0, cells := 0, slots := 0, locals := 0 } : Room).cells ({ frames := 0, cells := 0, slots := 0, locals := 0 } : Room).slots) := by
  refine MetFree.of_bodySF (plainFor_of_name pn_0) hisR ?_
  intro p e s m args below meth c s₁ Bd hml0 hP hK
  obtain ⟨rfl, hZ, hh⟩ := hP
  have hx := Bd.exec
  have hby := Bd.bytes
  have hml : c.maxLocals = 6 := hml0
  have hown : s.vm.findClass "java/lang/StringLatin1" = some m.cls := findClass_of_methodNamed Bd.named
  have hnm := (name_of_methodNamed Bd.named Bd.method).1
  have X0 : Stand p l e ({ frames := 0, cells := 0, slots := 0, locals := 0 } : Room) s m #[(.ref a1), (.int (46 : Int32)), (.int (0 : Int32)), (.int (Int32.ofNat cs.length))] below meth c s₁ [] 0 0 := Stand.of_body Bd
  have e0 : s₁.heap = h0 := by rw [← hh, Bd.state]; rfl
  have N0 := Fr.nil n0
  have K0 : Keep h0 h0 [] := Keep.refl _ _
  suffices hG : Goes p e below (fun o U' => ∃ v L, o = .returned v ∧ Q_ixChar Z a1 kb cs h0 n0 v U'.heap L ∧ FrameEnd s o U' L ({ frames := 0, cells := 0, slots := 0, locals := 0 } : Room).cells ({ frames := 0, cells := 0, slots := 0, locals := 0 } : Room).slots) s₁ (mkF m 0 #[.val (.ref a1), .val (.int (46 : Int32)), .val (.int (0 : Int32)), .val (.int (Int32.ofNat cs.length)), .unset, .unset] []) by
    obtain ⟨t, o, h1, h2⟩ := hG; exact ⟨t, o, castTop (ef_ixChar m a1 (Int32.ofNat cs.length)) h1, h2⟩
  refine Goes.step (T' := s₁) (g' := (mkF m 1 #[.val (.ref a1), .val (.int (46 : Int32)), .val (.int (0 : Int32)), .val (.int (Int32.ofNat cs.length)), .unset, .unset] [(.int (46 : Int32))])) (fun _ kz => XS.iloadN X0.here hx rfl (hb hby d_jdk_43_method_23_0) rfl  kz) ?_
  refine Goes.step (T' := s₁) (g' := (mkF m 2 #[.val (.ref a1), .val (.int (46 : Int32)), .val (.int (0 : Int32)), .val (.int (Int32.ofNat cs.length)), .unset, .unset] [(.int ((46 : Int32).toInt8.toInt32))])) (fun _ kz => XS.i2b X0.here hx rfl (hb hby d_jdk_43_method_23_1) rfl kz) ?_
  refine Goes.step (T' := s₁) (g' := (mkF m 4 #[.val (.ref a1), .val (.int (46 : Int32)), .val (.int (0 : Int32)), .val (.int (Int32.ofNat cs.length)), .val (.int ((46 : Int32).toInt8.toInt32)), .unset] [])) (fun _ kz => XS.istore X0.here hx rfl (hb hby d_jdk_43_method_23_2) rfl (l' := #[.val (.ref a1), .val (.int (46 : Int32)), .val (.int (0 : Int32)), .val (.int (Int32.ofNat cs.length)), .val (.int ((46 : Int32).toInt8.toInt32)), .unset]) rfl kz) ?_
  refine Goes.step (T' := s₁) (g' := (mkF m 5 #[.val (.ref a1), .val (.int (46 : Int32)), .val (.int (0 : Int32)), .val (.int (Int32.ofNat cs.length)), .val (.int ((46 : Int32).toInt8.toInt32)), .unset] [(.int (0 : Int32))])) (fun _ kz => XS.iloadN X0.here hx rfl (hb hby d_jdk_43_method_23_4) rfl  kz) ?_
  refine Goes.step (T' := s₁) (g' := (mkF m 7 #[.val (.ref a1), .val (.int (46 : Int32)), .val (.int (0 : Int32)), .val (.int (Int32.ofNat cs.length)), .val (.int ((46 : Int32).toInt8.toInt32)), .val (.int (0 : Int32))] [])) (fun _ kz => XS.istore X0.here hx rfl (hb hby d_jdk_43_method_23_5) rfl (l' := #[.val (.ref a1), .val (.int (46 : Int32)), .val (.int (0 : Int32)), .val (.int (Int32.ofNat cs.length)), .val (.int ((46 : Int32).toInt8.toInt32)), .val (.int (0 : Int32))]) rfl kz) ?_
  have loop : ∀ (k i : Nat), i + k = cs.length → IX cs = i + IX (cs.drop i) → Goes p e below (fun o U' => ∃ v L, o = .returned v ∧ Q_ixChar Z a1 kb cs h0 n0 v U'.heap L ∧ FrameEnd s o U' L ({ frames := 0, cells := 0, slots := 0, locals := 0 } : Room).cells ({ frames := 0, cells := 0, slots := 0, locals := 0 } : Room).slots) s₁ (mkF m 7 #[.val (.ref a1), .val (.int (46 : Int32)), .val (.int (0 : Int32)), .val (.int (Int32.ofNat cs.length)), .val (.int ((46 : Int32).toInt8.toInt32)), .val (.int (Int32.ofNat i))] []) := by
    intro k; induction k with
    | zero =>
      intro i hik hix
      have hi : cs.length = i := by omega
      refine Goes.step (T' := s₁) (g' := (mkF m 9 #[.val (.ref a1), .val (.int (46 : Int32)), .val (.int (0 : Int32)), .val (.int (Int32.ofNat cs.length)), .val (.int ((46 : Int32).toInt8.toInt32)), .val (.int (Int32.ofNat i))] [(.int (Int32.ofNat i))])) (fun _ kz => XS.iload X0.here hx rfl (hb hby d_jdk_43_method_23_7) rfl  kz) ?_
      refine Goes.step (T' := s₁) (g' := (mkF m 10 #[.val (.ref a1), .val (.int (46 : Int32)), .val (.int (0 : Int32)), .val (.int (Int32.ofNat cs.length)), .val (.int ((46 : Int32).toInt8.toInt32)), .val (.int (Int32.ofNat i))] [(.int (Int32.ofNat cs.length)), (.int (Int32.ofNat i))])) (fun _ kz => XS.iloadN X0.here hx rfl (hb hby d_jdk_43_method_23_9) rfl  kz) ?_
      refine Goes.step (T' := s₁) (g' := (mkF m 31 #[.val (.ref a1), .val (.int (46 : Int32)), .val (.int (0 : Int32)), .val (.int (Int32.ofNat cs.length)), .val (.int ((46 : Int32).toInt8.toInt32)), .val (.int (Int32.ofNat i))] [])) (fun _ kz => XS.icmpYes X0.here hx rfl (pc0 := 10) (pc' := 31) rfl (hb hby d_jdk_43_method_23_10) rfl (flt (fun q => absurd ((own_lt (by omega) hl).mp q) (by omega) : ¬ Int32.ofNat i < Int32.ofNat cs.length)).2.1 (by decide) (by decide) kz) ?_
      refine Goes.step (T' := s₁) (g' := (mkF m 32 #[.val (.ref a1), .val (.int (46 : Int32)), .val (.int (0 : Int32)), .val (.int (Int32.ofNat cs.length)), .val (.int ((46 : Int32).toInt8.toInt32)), .val (.int (Int32.ofNat i))] [(.int (-1 : Int32))])) (fun _ kz => XS.iconst X0.here hx rfl (hb hby d_jdk_43_method_23_31) kz) ?_
      obtain ⟨fs, hr, hrun, hended, hW, hsame⟩ := X0.leave (v := some (.int (-1 : Int32))) (fun h => by rw [Bd.returns] at h; cases h)
      exact ⟨_, _, retOut X0 hx Bd.returns rfl (Or.inl ⟨rfl, Or.inl rfl, _, rfl⟩) (hb hby d_jdk_43_method_23_32) hr, hrun, hended, _, _, rfl, (by show Q_ixChar Z a1 kb cs h0 n0 _ s₁.heap _; rw [e0]; exact ⟨(by rw [if_pos (show IX cs = cs.length by rw [hix, ← hi]; simp [IX])]), rfl, rfl⟩), ⟨_, rfl⟩, hW, hsame.mono (by decide) (by decide)⟩
    | succ k ih =>
      intro i hik hix
      have hi : i < cs.length := by omega
      have hm := hbd _ (own_mem hi)
      have hd := IX_drop hi
      refine Goes.step (T' := s₁) (g' := (mkF m 9 #[.val (.ref a1), .val (.int (46 : Int32)), .val (.int (0 : Int32)), .val (.int (Int32.ofNat cs.length)), .val (.int ((46 : Int32).toInt8.toInt32)), .val (.int (Int32.ofNat i))] [(.int (Int32.ofNat i))])) (fun _ kz => XS.iload X0.here hx rfl (hb hby d_jdk_43_method_23_7) rfl  kz) ?_
      refine Goes.step (T' := s₁) (g' := (mkF m 10 #[.val (.ref a1), .val (.int (46 : Int32)), .val (.int (0 : Int32)), .val (.int (Int32.ofNat cs.length)), .val (.int ((46 : Int32).toInt8.toInt32)), .val (.int (Int32.ofNat i))] [(.int (Int32.ofNat cs.length)), (.int (Int32.ofNat i))])) (fun _ kz => XS.iloadN X0.here hx rfl (hb hby d_jdk_43_method_23_9) rfl  kz) ?_
      refine Goes.step (T' := s₁) (g' := (mkF m 13 #[.val (.ref a1), .val (.int (46 : Int32)), .val (.int (0 : Int32)), .val (.int (Int32.ofNat cs.length)), .val (.int ((46 : Int32).toInt8.toInt32)), .val (.int (Int32.ofNat i))] [])) (fun _ kz => XS.icmpNo X0.here hx rfl (hb hby d_jdk_43_method_23_10) rfl (tlt ((own_lt (by omega) hl).mpr hi)).2.1 kz) ?_
      refine Goes.step (T' := s₁) (g' := (mkF m 14 #[.val (.ref a1), .val (.int (46 : Int32)), .val (.int (0 : Int32)), .val (.int (Int32.ofNat cs.length)), .val (.int ((46 : Int32).toInt8.toInt32)), .val (.int (Int32.ofNat i))] [(.ref a1)])) (fun _ kz => XS.aloadN X0.here hx rfl (hb hby d_jdk_43_method_23_13) rfl rfl kz) ?_
      refine Goes.step (T' := s₁) (g' := (mkF m 16 #[.val (.ref a1), .val (.int (46 : Int32)), .val (.int (0 : Int32)), .val (.int (Int32.ofNat cs.length)), .val (.int ((46 : Int32).toInt8.toInt32)), .val (.int (Int32.ofNat i))] [(.int (Int32.ofNat i)), (.ref a1)])) (fun _ kz => XS.iload X0.here hx rfl (hb hby d_jdk_43_method_23_14) rfl  kz) ?_
      obtain ⟨cl5, Ar5, q5, Sz5, Nn5, Hs5, Gs5⟩ := (id V_a1 : Arv Z h0 a1 kb .byte (Int32.ofNat cs.length) (cs.map fun c => Value.int (c.toInt8.toInt32)) (.int 0))
      refine Goes.step (T' := s₁) (g' := (mkF m 17 #[.val (.ref a1), .val (.int (46 : Int32)), .val (.int (0 : Int32)), .val (.int (Int32.ofNat cs.length)), .val (.int ((46 : Int32).toInt8.toInt32)), .val (.int (Int32.ofNat i))] [(.int ((cs.getD i 0).toInt8.toInt32))])) (X0.baloadBytes hx (j := (Int32.ofNat i)) (v := (.int ((cs.getD i 0).toInt8.toInt32))) (by rw [e0]; exact Ar5.1) (State.isArrayOf_alike hZ.alike Ar5.2.1) Ar5.2.2 (inb_of Sz5 ⟨own_nn (by omega), (own_lt (by omega) hl).mpr hi⟩) (Has.at Hs5 (inb_of Sz5 ⟨own_nn (by omega), (own_lt (by omega) hl).mpr hi⟩) (by rw [own_clamp (by omega)]; exact own_at hi)) (g := (mkF m 16 #[.val (.ref a1), .val (.int (46 : Int32)), .val (.int (0 : Int32)), .val (.int (Int32.ofNat cs.length)), .val (.int ((46 : Int32).toInt8.toInt32)), .val (.int (Int32.ofNat i))] [(.int (Int32.ofNat i)), (.ref a1)])) rfl rfl (hb hby d_jdk_43_method_23_16)) ?_
      refine Goes.step (T' := s₁) (g' := (mkF m 19 #[.val (.ref a1), .val (.int (46 : Int32)), .val (.int (0 : Int32)), .val (.int (Int32.ofNat cs.length)), .val (.int ((46 : Int32).toInt8.toInt32)), .val (.int (Int32.ofNat i))] [(.int ((46 : Int32).toInt8.toInt32)), (.int ((cs.getD i 0).toInt8.toInt32))])) (fun _ kz => XS.iload X0.here hx rfl (hb hby d_jdk_43_method_23_17) rfl  kz) ?_
      by_cases hc19_6 : ((cs.getD i 0).toInt8.toInt32) = ((46 : Int32).toInt8.toInt32)
      ·
        refine Goes.step (T' := s₁) (g' := (mkF m 22 #[.val (.ref a1), .val (.int (46 : Int32)), .val (.int (0 : Int32)), .val (.int (Int32.ofNat cs.length)), .val (.int ((46 : Int32).toInt8.toInt32)), .val (.int (Int32.ofNat i))] [])) (fun _ kz => XS.icmpNo X0.here hx rfl (hb hby d_jdk_43_method_23_19) rfl (teq hc19_6).2 kz) ?_
        refine Goes.step (T' := s₁) (g' := (mkF m 24 #[.val (.ref a1), .val (.int (46 : Int32)), .val (.int (0 : Int32)), .val (.int (Int32.ofNat cs.length)), .val (.int ((46 : Int32).toInt8.toInt32)), .val (.int (Int32.ofNat i))] [(.int (Int32.ofNat i))])) (fun _ kz => XS.iload X0.here hx rfl (hb hby d_jdk_43_method_23_22) rfl  kz) ?_
        obtain ⟨fs, hr, hrun, hended, hW, hsame⟩ := X0.leave (v := some (.int (Int32.ofNat i))) (fun h => by rw [Bd.returns] at h; cases h)
        exact ⟨_, _, retOut X0 hx Bd.returns rfl (Or.inl ⟨rfl, Or.inl rfl, _, rfl⟩) (hb hby d_jdk_43_method_23_24) hr, hrun, hended, _, _, rfl, (by show Q_ixChar Z a1 kb cs h0 n0 _ s₁.heap _; rw [e0]; exact ⟨(by have h1 : IX cs = i := (by rw [hix, hd, if_pos ((own_by46 hm).mp hc19_6)]; rfl); rw [if_neg (by omega), h1]), rfl, rfl⟩), ⟨_, rfl⟩, hW, hsame.mono (by decide) (by decide)⟩
      ·
        refine Goes.step (T' := s₁) (g' := (mkF m 25 #[.val (.ref a1), .val (.int (46 : Int32)), .val (.int (0 : Int32)), .val (.int (Int32.ofNat cs.length)), .val (.int ((46 : Int32).toInt8.toInt32)), .val (.int (Int32.ofNat i))] [])) (fun _ kz => XS.icmpYes X0.here hx rfl (pc0 := 19) (pc' := 25) rfl (hb hby d_jdk_43_method_23_19) rfl (feq hc19_6).2 (by decide) (by decide) kz) ?_
        refine Goes.step (T' := s₁) (g' := (mkF m 28 #[.val (.ref a1), .val (.int (46 : Int32)), .val (.int (0 : Int32)), .val (.int (Int32.ofNat cs.length)), .val (.int ((46 : Int32).toInt8.toInt32)), .val (.int ((Int32.ofNat i) + (1 : Int32)))] [])) (fun _ kz => XS.iinc X0.here hx rfl (hb hby d_jdk_43_method_23_25) rfl (l' := #[.val (.ref a1), .val (.int (46 : Int32)), .val (.int (0 : Int32)), .val (.int (Int32.ofNat cs.length)), .val (.int ((46 : Int32).toInt8.toInt32)), .val (.int ((Int32.ofNat i) + (1 : Int32)))]) rfl kz) ?_
        refine Goes.step (T' := s₁) (g' := (mkF m 7 #[.val (.ref a1), .val (.int (46 : Int32)), .val (.int (0 : Int32)), .val (.int (Int32.ofNat cs.length)), .val (.int ((46 : Int32).toInt8.toInt32)), .val (.int ((Int32.ofNat i) + (1 : Int32)))] [])) (fun _ kz => XS.goto X0.here hx rfl (pc0 := 28) (pc' := 7) rfl (hb hby d_jdk_43_method_23_28) (by decide) (by decide) kz) ?_
        rw [if_neg (fun q => hc19_6 ((own_by46 hm).mpr q))] at hd
        have hii : Int32.ofNat i + (1 : Int32) = Int32.ofNat (i + 1) := (inc_ofNat i).symm
        rw [hii]
        exact ih (i + 1) (by omega) (by omega)
  exact loop cs.length 0 (by omega) (by simp)
theorem d_jdk_43_method_22_0 : decode jdk_43_method_22_code 0 = .ok (.iload_n 1, 1) := by decide +kernel
theorem d_jdk_43_method_22_1 : decode jdk_43_method_22_code 1 = .ok (.invokestatic 88, 3) := by decide +kernel
theorem pd_0 : parseMethodDescriptor "(I)Z" = some ⟨[.int], some .boolean⟩ := by decide +kernel
theorem d_jdk_43_method_22_4 : decode jdk_43_method_22_code 4 = .ok (.ifCond .ne 5, 3) := by decide +kernel
theorem d_jdk_43_method_22_9 : decode jdk_43_method_22_code 9 = .ok (.iload_n 2, 1) := by decide +kernel
theorem d_jdk_43_method_22_10 : decode jdk_43_method_22_code 10 = .ok (.iconst 0, 1) := by decide +kernel
theorem d_jdk_43_method_22_11 : decode jdk_43_method_22_code 11 = .ok (.invokestatic 92, 3) := by decide +kernel
theorem pd_1 : parseMethodDescriptor "(II)I" = some ⟨[.int, .int], some .int⟩ := by decide +kernel
theorem d_jdk_43_method_22_14 : decode jdk_43_method_22_code 14 = .ok (.istore_n 2, 1) := by decide +kernel
theorem d_jdk_43_method_22_15 : decode jdk_43_method_22_code 15 = .ok (.iload_n 3, 1) := by decide +kernel
theorem d_jdk_43_method_22_16 : decode jdk_43_method_22_code 16 = .ok (.aload_n 0, 1) := by decide +kernel
theorem d_jdk_43_method_22_17 : decode jdk_43_method_22_code 17 = .ok (.arraylength, 1) := by decide +kernel
theorem d_jdk_43_method_22_18 : decode jdk_43_method_22_code 18 = .ok (.invokestatic 38, 3) := by decide +kernel
theorem d_jdk_43_method_22_21 : decode jdk_43_method_22_code 21 = .ok (.istore_n 3, 1) := by decide +kernel
theorem d_jdk_43_method_22_22 : decode jdk_43_method_22_code 22 = .ok (.iload_n 2, 1) := by decide +kernel
theorem d_jdk_43_method_22_23 : decode jdk_43_method_22_code 23 = .ok (.iload_n 3, 1) := by decide +kernel
theorem d_jdk_43_method_22_24 : decode jdk_43_method_22_code 24 = .ok (.if_icmp .lt 5, 3) := by decide +kernel
theorem d_jdk_43_method_22_29 : decode jdk_43_method_22_code 29 = .ok (.aload_n 0, 1) := by decide +kernel
theorem d_jdk_43_method_22_30 : decode jdk_43_method_22_code 30 = .ok (.iload_n 1, 1) := by decide +kernel
theorem d_jdk_43_method_22_31 : decode jdk_43_method_22_code 31 = .ok (.iload_n 2, 1) := by decide +kernel
theorem d_jdk_43_method_22_32 : decode jdk_43_method_22_code 32 = .ok (.iload_n 3, 1) := by decide +kernel
theorem d_jdk_43_method_22_33 : decode jdk_43_method_22_code 33 = .ok (.invokestatic 95, 3) := by decide +kernel
theorem pd_2 : parseMethodDescriptor "([BIII)I" = some ⟨[(.array .byte), .int, .int, .int], some .int⟩ := by decide +kernel
theorem d_jdk_43_method_22_36 : decode jdk_43_method_22_code 36 = .ok (.ireturn, 1) := by decide +kernel
theorem d_jdk_43_method_22_27 : decode jdk_43_method_22_code 27 = .ok (.iconst (-1), 1) := by decide +kernel
theorem d_jdk_43_method_22_28 : decode jdk_43_method_22_code 28 = .ok (.ireturn, 1) := by decide +kernel
theorem ef_ixLat (m : MethodId) (a1 : Addr) (q3 : Int32) : entryFrame m #[(.ref a1), (.int (46 : Int32)), (.int (0 : Int32)), (.int q3)] 4 = mkF m 0 #[.val (.ref a1), .val (.int (46 : Int32)), .val (.int (0 : Int32)), .val (.int q3)] [] := by first | (simp [entryFrame, mkF, argsToLocals, Value.category, maxLocals]; done) | rfl
def Q_ixLat (Z : State) (a1 : Addr) (kb : ClassId) (cs : List Int32) (h0 : Heap) (n0 : Nat) (v : Option Value) (h : Heap) (L : List Loc) : Prop := (v = some (.int (if IX cs = cs.length then -1 else Int32.ofNat (IX cs)))) ∧ (L = []) ∧ (h = h0)
set_option maxRecDepth 65536 in
set_option maxHeartbeats 40000000 in
theorem rm_ixLat (l : Launch) (Z : State) (a0 : Array Value) (hw : ∀ d ∈ tables_1, d.before a0 Z = true) (ws : List Jvm.Cond) (a1 : Addr) (kb : ClassId) (cs : List Int32) (h0 : Heap) (n0 : Nat) (O0 : Old Z n0 h0)  (V_a1 : Arv Z h0 a1 kb .byte (Int32.ofNat cs.length) (cs.map fun c => Value.int (c.toInt8.toInt32)) (.int 0)) (hl : cs.length ≤ 4000) (hbd : ∀ c ∈ cs, ¬ c < 0 ∧ ¬ (255 : Int32) < c) :
    MetFree l (⟨"java/lang/StringLatin1", "indexOf", "([BIII)I"⟩ : MethodName) (head1 ((Jvm.Cond.code (⟨"java/lang/StringLatin1", "indexOf", "([BIII)I"⟩ : MethodName) jdk_43_method_22_code 4 (some .int)) :: ws) ({ frames := 1, cells := 0, slots := 0, locals := 17 } : Room)) (fun a U => a = #[(.ref a1), (.int (46 : Int32)), (.int (0 : Int32)), (.int (Int32.ofNat cs.length))] ∧ Z.Warmed39 U.vm ∧ U.heap = h0) (fun _ _ _ _ _ => True) (fun _ U o U' => ∃ v L, o = .returned v ∧ Q_ixLat Z a1 kb cs h0 n0 v U'.heap L ∧ FrameEnd U o U' L ({ frames := 1, cells := 0, slots := 0, locals := 17 } : Room).cells ({ frames := 1, cells := 0, slots := 0, locals := 17 } : Room).slots) := by
  refine MetFree.of_bodySF (plainFor_of_name pn_0) hisR ?_
  intro p e s m args below meth c s₁ Bd hml0 hP hK
  obtain ⟨rfl, hZ, hh⟩ := hP
  have hx := Bd.exec
  have hby := Bd.bytes
  have hml : c.maxLocals = 4 := hml0
  have hown : s.vm.findClass "java/lang/StringLatin1" = some m.cls := findClass_of_methodNamed Bd.named
  have hnm := (name_of_methodNamed Bd.named Bd.method).1
  have X0 : Stand p l e ({ frames := 1, cells := 0, slots := 0, locals := 17 } : Room) s m #[(.ref a1), (.int (46 : Int32)), (.int (0 : Int32)), (.int (Int32.ofNat cs.length))] below meth c s₁ [] 0 0 := Stand.of_body Bd
  have e0 : s₁.heap = h0 := by rw [← hh, Bd.state]; rfl
  have N0 := Fr.nil n0
  have K0 : Keep h0 h0 [] := Keep.refl _ _
  suffices hG : Goes p e below (fun o U' => ∃ v L, o = .returned v ∧ Q_ixLat Z a1 kb cs h0 n0 v U'.heap L ∧ FrameEnd s o U' L ({ frames := 1, cells := 0, slots := 0, locals := 17 } : Room).cells ({ frames := 1, cells := 0, slots := 0, locals := 17 } : Room).slots) s₁ (mkF m 0 #[.val (.ref a1), .val (.int (46 : Int32)), .val (.int (0 : Int32)), .val (.int (Int32.ofNat cs.length))] []) by
    obtain ⟨t, o, h1, h2⟩ := hG; exact ⟨t, o, castTop (ef_ixLat m a1 (Int32.ofNat cs.length)) h1, h2⟩
  refine Goes.step (T' := s₁) (g' := (mkF m 1 #[.val (.ref a1), .val (.int (46 : Int32)), .val (.int (0 : Int32)), .val (.int (Int32.ofNat cs.length))] [(.int (46 : Int32))])) (fun _ kz => XS.iloadN X0.here hx rfl (hb hby d_jdk_43_method_22_0) rfl  kz) ?_
  obtain ⟨_, _, ⟨T7, L7, k7, n7⟩, -, X7, ⟨Lc7, hQ7, l7, y7, z7⟩, st7⟩ := Jvm.LawKit.callS X0 hx (y := (⟨"java/lang/StringLatin1", "canEncode", "(I)Z"⟩ : MethodName)) hown (mvT hZ (hw _ (List.mem_of_getElem? (i := 70) rfl))) (mvT hZ (hw _ (List.mem_of_getElem? (i := 71) rfl))) (mvT hZ (hw _ (List.mem_of_getElem? (i := 68) rfl))) (mvT hZ (hw _ (List.mem_of_getElem? (i := 72) rfl))) (by decide) (backOf (W := 0) (rm_canEncI l Z a0 hw []  h0 n0 O0  ) hZ (hw _ (List.mem_of_getElem? (i := 72) rfl)) (hw _ (List.mem_of_getElem? (i := 68) rfl)) (by decide) (by decide)) (g := (mkF m 1 #[.val (.ref a1), .val (.int (46 : Int32)), .val (.int (0 : Int32)), .val (.int (Int32.ofNat cs.length))] [(.int (46 : Int32))])) rfl (by rw [hml]; rfl) (argsL := [(.int (46 : Int32))]) (rest := []) (lenOf pd_0 rfl) rfl (by show 2 * 0 + _ ≤ _; exact Nat.le_of_eq rfl) (hb hby d_jdk_43_method_22_1) (fun _ _ => ⟨rfl, e0, (by decide : 0 + 0 ≤ _), (by decide : 0 + 0 ≤ _)⟩)
  dsimp only [Pt.U, Pt.locs, Pt.cells, Pt.slots] at X7 l7 y7 z7 st7 hQ7
  subst l7 y7 z7
  obtain ⟨rfl, rfl, e7⟩ := hQ7
  replace N0 := Fr.app N0 (Fr.nil n0)
  refine Goes.step (T' := T7) (g' := (mkF m 4 #[.val (.ref a1), .val (.int (46 : Int32)), .val (.int (0 : Int32)), .val (.int (Int32.ofNat cs.length))] [(.int (1 : Int32))])) st7 ?_
  refine Goes.step (T' := T7) (g' := (mkF m 9 #[.val (.ref a1), .val (.int (46 : Int32)), .val (.int (0 : Int32)), .val (.int (Int32.ofNat cs.length))] [])) (fun _ kz => XS.ifYes X7.here hx rfl (pc0 := 4) (pc' := 9) rfl (hb hby d_jdk_43_method_22_4) rfl ((if0 _ _).trans (feq (by decide : ¬ ((1 : Int32) = (0 : Int32)))).2) (by decide) (by decide) kz) ?_
  refine Goes.step (T' := T7) (g' := (mkF m 10 #[.val (.ref a1), .val (.int (46 : Int32)), .val (.int (0 : Int32)), .val (.int (Int32.ofNat cs.length))] [(.int (0 : Int32))])) (fun _ kz => XS.iloadN X7.here hx rfl (hb hby d_jdk_43_method_22_9) rfl  kz) ?_
  refine Goes.step (T' := T7) (g' := (mkF m 11 #[.val (.ref a1), .val (.int (46 : Int32)), .val (.int (0 : Int32)), .val (.int (Int32.ofNat cs.length))] [(.int (0 : Int32)), (.int (0 : Int32))])) (fun _ kz => XS.iconst X7.here hx rfl (hb hby d_jdk_43_method_22_10) kz) ?_
  obtain ⟨_, _, ⟨T8, L8, k8, n8⟩, -, X8, ⟨Lc8, hQ8, l8, y8, z8⟩, st8⟩ := Jvm.LawKit.callS X7 hx (y := (⟨"java/lang/Math", "max", "(II)I"⟩ : MethodName)) hown (mvT hZ (hw _ (List.mem_of_getElem? (i := 73) rfl))) (mvT hZ (hw _ (List.mem_of_getElem? (i := 74) rfl))) (mvT hZ (hw _ (List.mem_of_getElem? (i := 75) rfl))) (mvT hZ (hw _ (List.mem_of_getElem? (i := 76) rfl))) (by decide) (backOf (W := 0) (rm_mathmax l Z a0 hw [] (0 : Int32) (0 : Int32) h0 n0 O0  ) hZ (hw _ (List.mem_of_getElem? (i := 76) rfl)) (hw _ (List.mem_of_getElem? (i := 75) rfl)) (by decide) (by decide)) (g := (mkF m 11 #[.val (.ref a1), .val (.int (46 : Int32)), .val (.int (0 : Int32)), .val (.int (Int32.ofNat cs.length))] [(.int (0 : Int32)), (.int (0 : Int32))])) rfl (by rw [hml]; rfl) (argsL := [(.int (0 : Int32)), (.int (0 : Int32))]) (rest := []) (lenOf pd_1 rfl) rfl (by show 2 * 0 + _ ≤ _; exact Nat.le_of_eq rfl) (hb hby d_jdk_43_method_22_11) (fun _ _ => ⟨rfl, e7, (by decide : 0 + 0 ≤ _), (by decide : 0 + 0 ≤ _)⟩)
  dsimp only [Pt.U, Pt.locs, Pt.cells, Pt.slots] at X8 l8 y8 z8 st8 hQ8
  subst l8 y8 z8
  obtain ⟨rfl, rfl, e8⟩ := hQ8
  replace N0 := Fr.app N0 (Fr.nil n0)
  refine Goes.step (T' := T8) (g' := (mkF m 14 #[.val (.ref a1), .val (.int (46 : Int32)), .val (.int (0 : Int32)), .val (.int (Int32.ofNat cs.length))] [(.int (if (0 : Int32) < (0 : Int32) then (0 : Int32) else (0 : Int32)))])) st8 ?_
  have hmx : (if (0 : Int32) < (0 : Int32) then (0 : Int32) else (0 : Int32)) = (0 : Int32) := by decide
  rw [hmx]
  refine Goes.step (T' := T8) (g' := (mkF m 15 #[.val (.ref a1), .val (.int (46 : Int32)), .val (.int (0 : Int32)), .val (.int (Int32.ofNat cs.length))] [])) (fun _ kz => XS.istoreN X8.here hx rfl (hb hby d_jdk_43_method_22_14) rfl (l' := #[.val (.ref a1), .val (.int (46 : Int32)), .val (.int (0 : Int32)), .val (.int (Int32.ofNat cs.length))]) rfl kz) ?_
  refine Goes.step (T' := T8) (g' := (mkF m 16 #[.val (.ref a1), .val (.int (46 : Int32)), .val (.int (0 : Int32)), .val (.int (Int32.ofNat cs.length))] [(.int (Int32.ofNat cs.length))])) (fun _ kz => XS.iloadN X8.here hx rfl (hb hby d_jdk_43_method_22_15) rfl  kz) ?_
  refine Goes.step (T' := T8) (g' := (mkF m 17 #[.val (.ref a1), .val (.int (46 : Int32)), .val (.int (0 : Int32)), .val (.int (Int32.ofNat cs.length))] [(.ref a1), (.int (Int32.ofNat cs.length))])) (fun _ kz => XS.aloadN X8.here hx rfl (hb hby d_jdk_43_method_22_16) rfl rfl kz) ?_
  obtain ⟨cl9, Ar9, q9, Sz9, Nn9, Hs9, Gs9⟩ := (id V_a1 : Arv Z h0 a1 kb .byte (Int32.ofNat cs.length) (cs.map fun c => Value.int (c.toInt8.toInt32)) (.int 0))
  have al9 := X8.arraylength hx (by rw [e8]; exact Ar9.1) (State.isArrayOf_alike hZ.alike Ar9.2.1) (g := (mkF m 17 #[.val (.ref a1), .val (.int (46 : Int32)), .val (.int (0 : Int32)), .val (.int (Int32.ofNat cs.length))] [(.ref a1), (.int (Int32.ofNat cs.length))])) rfl rfl (hb hby d_jdk_43_method_22_17)
  rw [len_of Sz9 Nn9] at al9
  refine Goes.step (T' := T8) (g' := (mkF m 18 #[.val (.ref a1), .val (.int (46 : Int32)), .val (.int (0 : Int32)), .val (.int (Int32.ofNat cs.length))] [(.int (Int32.ofNat cs.length)), (.int (Int32.ofNat cs.length))])) al9 ?_
  obtain ⟨_, _, ⟨T10, L10, k10, n10⟩, -, X10, ⟨Lc10, hQ10, l10, y10, z10⟩, st10⟩ := Jvm.LawKit.callS X8 hx (y := (⟨"java/lang/Math", "min", "(II)I"⟩ : MethodName)) hown (mvT hZ (hw _ (List.mem_of_getElem? (i := 77) rfl))) (mvT hZ (hw _ (List.mem_of_getElem? (i := 78) rfl))) (mvT hZ (hw _ (List.mem_of_getElem? (i := 75) rfl))) (mvT hZ (hw _ (List.mem_of_getElem? (i := 79) rfl))) (by decide) (backOf (W := 0) (rm_mathmin l Z a0 hw [] (Int32.ofNat cs.length) (Int32.ofNat cs.length) h0 n0 O0  ) hZ (hw _ (List.mem_of_getElem? (i := 79) rfl)) (hw _ (List.mem_of_getElem? (i := 75) rfl)) (by decide) (by decide)) (g := (mkF m 18 #[.val (.ref a1), .val (.int (46 : Int32)), .val (.int (0 : Int32)), .val (.int (Int32.ofNat cs.length))] [(.int (Int32.ofNat cs.length)), (.int (Int32.ofNat cs.length))])) rfl (by rw [hml]; rfl) (argsL := [(.int (Int32.ofNat cs.length)), (.int (Int32.ofNat cs.length))]) (rest := []) (lenOf pd_1 rfl) rfl (by show 2 * 0 + _ ≤ _; exact Nat.le_of_eq rfl) (hb hby d_jdk_43_method_22_18) (fun _ _ => ⟨rfl, e8, (by decide : 0 + 0 ≤ _), (by decide : 0 + 0 ≤ _)⟩)
  dsimp only [Pt.U, Pt.locs, Pt.cells, Pt.slots] at X10 l10 y10 z10 st10 hQ10
  subst l10 y10 z10
  obtain ⟨rfl, rfl, e10⟩ := hQ10
  replace N0 := Fr.app N0 (Fr.nil n0)
  refine Goes.step (T' := T10) (g' := (mkF m 21 #[.val (.ref a1), .val (.int (46 : Int32)), .val (.int (0 : Int32)), .val (.int (Int32.ofNat cs.length))] [(.int (if (Int32.ofNat cs.length) < (Int32.ofNat cs.length) then (Int32.ofNat cs.length) else (Int32.ofNat cs.length)))])) st10 ?_
  have hmi : (if (Int32.ofNat cs.length) < (Int32.ofNat cs.length) then (Int32.ofNat cs.length) else (Int32.ofNat cs.length)) = (Int32.ofNat cs.length) := by split <;> rfl
  rw [hmi]
  refine Goes.step (T' := T10) (g' := (mkF m 22 #[.val (.ref a1), .val (.int (46 : Int32)), .val (.int (0 : Int32)), .val (.int (Int32.ofNat cs.length))] [])) (fun _ kz => XS.istoreN X10.here hx rfl (hb hby d_jdk_43_method_22_21) rfl (l' := #[.val (.ref a1), .val (.int (46 : Int32)), .val (.int (0 : Int32)), .val (.int (Int32.ofNat cs.length))]) rfl kz) ?_
  refine Goes.step (T' := T10) (g' := (mkF m 23 #[.val (.ref a1), .val (.int (46 : Int32)), .val (.int (0 : Int32)), .val (.int (Int32.ofNat cs.length))] [(.int (0 : Int32))])) (fun _ kz => XS.iloadN X10.here hx rfl (hb hby d_jdk_43_method_22_22) rfl  kz) ?_
  refine Goes.step (T' := T10) (g' := (mkF m 24 #[.val (.ref a1), .val (.int (46 : Int32)), .val (.int (0 : Int32)), .val (.int (Int32.ofNat cs.length))] [(.int (Int32.ofNat cs.length)), (.int (0 : Int32))])) (fun _ kz => XS.iloadN X10.here hx rfl (hb hby d_jdk_43_method_22_23) rfl  kz) ?_
  by_cases hc24_11 : (0 : Int32) < (Int32.ofNat cs.length)
  ·
    refine Goes.step (T' := T10) (g' := (mkF m 29 #[.val (.ref a1), .val (.int (46 : Int32)), .val (.int (0 : Int32)), .val (.int (Int32.ofNat cs.length))] [])) (fun _ kz => XS.icmpYes X10.here hx rfl (pc0 := 24) (pc' := 29) rfl (hb hby d_jdk_43_method_22_24) rfl (tlt hc24_11).1 (by decide) (by decide) kz) ?_
    refine Goes.step (T' := T10) (g' := (mkF m 30 #[.val (.ref a1), .val (.int (46 : Int32)), .val (.int (0 : Int32)), .val (.int (Int32.ofNat cs.length))] [(.ref a1)])) (fun _ kz => XS.aloadN X10.here hx rfl (hb hby d_jdk_43_method_22_29) rfl rfl kz) ?_
    refine Goes.step (T' := T10) (g' := (mkF m 31 #[.val (.ref a1), .val (.int (46 : Int32)), .val (.int (0 : Int32)), .val (.int (Int32.ofNat cs.length))] [(.int (46 : Int32)), (.ref a1)])) (fun _ kz => XS.iloadN X10.here hx rfl (hb hby d_jdk_43_method_22_30) rfl  kz) ?_
    refine Goes.step (T' := T10) (g' := (mkF m 32 #[.val (.ref a1), .val (.int (46 : Int32)), .val (.int (0 : Int32)), .val (.int (Int32.ofNat cs.length))] [(.int (0 : Int32)), (.int (46 : Int32)), (.ref a1)])) (fun _ kz => XS.iloadN X10.here hx rfl (hb hby d_jdk_43_method_22_31) rfl  kz) ?_
    refine Goes.step (T' := T10) (g' := (mkF m 33 #[.val (.ref a1), .val (.int (46 : Int32)), .val (.int (0 : Int32)), .val (.int (Int32.ofNat cs.length))] [(.int (Int32.ofNat cs.length)), (.int (0 : Int32)), (.int (46 : Int32)), (.ref a1)])) (fun _ kz => XS.iloadN X10.here hx rfl (hb hby d_jdk_43_method_22_32) rfl  kz) ?_
    obtain ⟨_, _, ⟨T12, L12, k12, n12⟩, -, X12, ⟨Lc12, hQ12, l12, y12, z12⟩, st12⟩ := Jvm.LawKit.callS X10 hx (y := (⟨"java/lang/StringLatin1", "indexOfChar", "([BIII)I"⟩ : MethodName)) hown (mvT hZ (hw _ (List.mem_of_getElem? (i := 80) rfl))) (mvT hZ (hw _ (List.mem_of_getElem? (i := 81) rfl))) (mvT hZ (hw _ (List.mem_of_getElem? (i := 68) rfl))) (mvT hZ (hw _ (List.mem_of_getElem? (i := 82) rfl))) (by decide) (backOf (W := 0) (rm_ixChar l Z a0 hw [] a1 (kb) (cs) h0 n0 O0  V_a1 (by first | assumption | decide) (by first | assumption | decide)) hZ (hw _ (List.mem_of_getElem? (i := 82) rfl)) (hw _ (List.mem_of_getElem? (i := 68) rfl)) (by decide) (by decide)) (g := (mkF m 33 #[.val (.ref a1), .val (.int (46 : Int32)), .val (.int (0 : Int32)), .val (.int (Int32.ofNat cs.length))] [(.int (Int32.ofNat cs.length)), (.int (0 : Int32)), (.int (46 : Int32)), (.ref a1)])) rfl (by rw [hml]; rfl) (argsL := [(.ref a1), (.int (46 : Int32)), (.int (0 : Int32)), (.int (Int32.ofNat cs.length))]) (rest := []) (lenOf pd_2 rfl) rfl (by show 2 * 0 + _ ≤ _; exact Nat.le_of_eq rfl) (hb hby d_jdk_43_method_22_33) (fun _ _ => ⟨rfl, e10, (by decide : 0 + 0 ≤ _), (by decide : 0 + 0 ≤ _)⟩)
    dsimp only [Pt.U, Pt.locs, Pt.cells, Pt.slots] at X12 l12 y12 z12 st12 hQ12
    subst l12 y12 z12
    obtain ⟨rfl, rfl, e12⟩ := hQ12
    replace N0 := Fr.app N0 (Fr.nil n0)
    refine Goes.step (T' := T12) (g' := (mkF m 36 #[.val (.ref a1), .val (.int (46 : Int32)), .val (.int (0 : Int32)), .val (.int (Int32.ofNat cs.length))] [(.int (if IX cs = cs.length then -1 else Int32.ofNat (IX cs)))])) st12 ?_
    obtain ⟨fs, hr, hrun, hended, hW, hsame⟩ := X12.leave (v := some (.int (if IX cs = cs.length then -1 else Int32.ofNat (IX cs)))) (fun h => by rw [Bd.returns] at h; cases h)
    exact ⟨_, _, retOut X12 hx Bd.returns rfl (Or.inl ⟨rfl, Or.inl rfl, _, rfl⟩) (hb hby d_jdk_43_method_22_36) hr, hrun, hended, _, _, rfl, (by show Q_ixLat Z a1 kb cs h0 n0 _ T12.heap _; rw [e12]; exact ⟨rfl, rfl, rfl⟩), ⟨_, rfl⟩, hW, hsame.mono (by decide) (by decide)⟩
  ·
    refine Goes.step (T' := T10) (g' := (mkF m 27 #[.val (.ref a1), .val (.int (46 : Int32)), .val (.int (0 : Int32)), .val (.int (Int32.ofNat cs.length))] [])) (fun _ kz => XS.icmpNo X10.here hx rfl (hb hby d_jdk_43_method_22_24) rfl (flt hc24_11).1 kz) ?_
    refine Goes.step (T' := T10) (g' := (mkF m 28 #[.val (.ref a1), .val (.int (46 : Int32)), .val (.int (0 : Int32)), .val (.int (Int32.ofNat cs.length))] [(.int (-1 : Int32))])) (fun _ kz => XS.iconst X10.here hx rfl (hb hby d_jdk_43_method_22_27) kz) ?_
    obtain ⟨fs, hr, hrun, hended, hW, hsame⟩ := X10.leave (v := some (.int (-1 : Int32))) (fun h => by rw [Bd.returns] at h; cases h)
    exact ⟨_, _, retOut X10 hx Bd.returns rfl (Or.inl ⟨rfl, Or.inl rfl, _, rfl⟩) (hb hby d_jdk_43_method_22_28) hr, hrun, hended, _, _, rfl, (by show Q_ixLat Z a1 kb cs h0 n0 _ T10.heap _; rw [e10]; exact ⟨(by have hz : cs.length = 0 := (by have := mt (own_lt (a := 0) (by omega) hl).mpr (fun q => hc24_11 q); omega); rw [if_pos (by have := IX_le cs; omega)]), rfl, rfl⟩), ⟨_, rfl⟩, hW, hsame.mono (by decide) (by decide)⟩
theorem d_jdk_42_method_80_0 : decode jdk_42_method_80_code 0 = .ok (.aload_n 0, 1) := by decide +kernel
theorem d_jdk_42_method_80_1 : decode jdk_42_method_80_code 1 = .ok (.invokevirtual 492, 3) := by decide +kernel
theorem pd_3 : parseMethodDescriptor "()Z" = some ⟨[], some .boolean⟩ := by decide +kernel
theorem d_jdk_42_method_80_4 : decode jdk_42_method_80_code 4 = .ok (.ifCond .eq 19, 3) := by decide +kernel
theorem d_jdk_42_method_80_7 : decode jdk_42_method_80_code 7 = .ok (.aload_n 0, 1) := by decide +kernel
theorem d_jdk_42_method_80_8 : decode jdk_42_method_80_code 8 = .ok (.getfield 9, 3) := by decide +kernel
theorem d_jdk_42_method_80_11 : decode jdk_42_method_80_code 11 = .ok (.iload_n 1, 1) := by decide +kernel
theorem d_jdk_42_method_80_12 : decode jdk_42_method_80_code 12 = .ok (.iload_n 2, 1) := by decide +kernel
theorem d_jdk_42_method_80_13 : decode jdk_42_method_80_code 13 = .ok (.aload_n 0, 1) := by decide +kernel
theorem d_jdk_42_method_80_14 : decode jdk_42_method_80_code 14 = .ok (.invokevirtual 505, 3) := by decide +kernel
theorem pd_4 : parseMethodDescriptor "()I" = some ⟨[], some .int⟩ := by decide +kernel
theorem d_jdk_42_method_80_17 : decode jdk_42_method_80_code 17 = .ok (.invokestatic 637, 3) := by decide +kernel
theorem d_jdk_42_method_80_20 : decode jdk_42_method_80_code 20 = .ok (.goto 16, 3) := by decide +kernel
theorem d_jdk_42_method_80_36 : decode jdk_42_method_80_code 36 = .ok (.ireturn, 1) := by decide +kernel
theorem ef_ix2 (m : MethodId) (a1 : Addr) : entryFrame m #[(.ref a1), (.int (46 : Int32)), (.int (0 : Int32))] 3 = mkF m 0 #[.val (.ref a1), .val (.int (46 : Int32)), .val (.int (0 : Int32))] [] := by first | (simp [entryFrame, mkF, argsToLocals, Value.category, maxLocals]; done) | rfl
def Q_ix2 (Z : State) (a1 : Addr) (cs : List Int32) (h0 : Heap) (n0 : Nat) (v : Option Value) (h : Heap) (L : List Loc) : Prop := (v = some (.int (if IX cs = cs.length then -1 else Int32.ofNat (IX cs)))) ∧ (L = []) ∧ (h = h0)
set_option maxRecDepth 65536 in
set_option maxHeartbeats 40000000 in
theorem rm_ix2 (l : Launch) (Z : State) (a0 : Array Value) (hw : ∀ d ∈ tables_1, d.before a0 Z = true) (ws : List Jvm.Cond) (a1 : Addr) (cs : List Int32) (h0 : Heap) (n0 : Nat) (O0 : Old Z n0 h0) (zcs : Int32) (Scs : Sta Z Z.heap "java/lang/String" "COMPACT_STRINGS" "Z" (.int zcs)) (hz_Scs : ¬ zcs = 0) (E_a1 : Exa Z h0 a1 "java/lang/String") (G_a1 : SX Z h0 a1 cs) (hl : cs.length ≤ 4000) :
    MetFree l (⟨"java/lang/String", "indexOf", "(II)I"⟩ : MethodName) (head1 ((Jvm.Cond.code (⟨"java/lang/String", "indexOf", "(II)I"⟩ : MethodName) jdk_42_method_80_code 3 (some .int)) :: ws) ({ frames := 2, cells := 0, slots := 0, locals := 32 } : Room)) (fun a U => a = #[(.ref a1), (.int (46 : Int32)), (.int (0 : Int32))] ∧ Z.Warmed39 U.vm ∧ U.heap = h0) (fun _ _ _ _ _ => True) (fun _ U o U' => ∃ v L, o = .returned v ∧ Q_ix2 Z a1 cs h0 n0 v U'.heap L ∧ FrameEnd U o U' L ({ frames := 2, cells := 0, slots := 0, locals := 32 } : Room).cells ({ frames := 2, cells := 0, slots := 0, locals := 32 } : Room).slots) := by
  refine MetFree.of_bodySF (plainFor_of_name pn_1) hisR ?_
  intro p e s m args below meth c s₁ Bd hml0 hP hK
  obtain ⟨rfl, hZ, hh⟩ := hP
  have hx := Bd.exec
  have hby := Bd.bytes
  have hml : c.maxLocals = 3 := hml0
  have hown : s.vm.findClass "java/lang/String" = some m.cls := findClass_of_methodNamed Bd.named
  have hnm := (name_of_methodNamed Bd.named Bd.method).1
  have X0 : Stand p l e ({ frames := 2, cells := 0, slots := 0, locals := 32 } : Room) s m #[(.ref a1), (.int (46 : Int32)), (.int (0 : Int32))] below meth c s₁ [] 0 0 := Stand.of_body Bd
  have e0 : s₁.heap = h0 := by rw [← hh, Bd.state]; rfl
  have N0 := Fr.nil n0
  have K0 : Keep h0 h0 [] := Keep.refl _ _
  suffices hG : Goes p e below (fun o U' => ∃ v L, o = .returned v ∧ Q_ix2 Z a1 cs h0 n0 v U'.heap L ∧ FrameEnd s o U' L ({ frames := 2, cells := 0, slots := 0, locals := 32 } : Room).cells ({ frames := 2, cells := 0, slots := 0, locals := 32 } : Room).slots) s₁ (mkF m 0 #[.val (.ref a1), .val (.int (46 : Int32)), .val (.int (0 : Int32))] []) by
    obtain ⟨t, o, h1, h2⟩ := hG; exact ⟨t, o, castTop (ef_ix2 m a1) h1, h2⟩
  obtain ⟨E_a1, F_a1_coder, hb_a1, t_a1, kb_a1, F_a1_value, V_t_a1⟩ := (id G_a1 : SX Z h0 a1 cs)
  refine Goes.step (T' := s₁) (g' := (mkF m 1 #[.val (.ref a1), .val (.int (46 : Int32)), .val (.int (0 : Int32))] [(.ref a1)])) (fun _ kz => XS.aloadN X0.here hx rfl (hb hby d_jdk_42_method_80_0) rfl rfl kz) ?_
  obtain ⟨cq13, kq13, qa13, qb13, qc13⟩ := isOf hZ e0 E_a1
  obtain ⟨_, _, ⟨T13, L13, k13, n13⟩, -, X13, ⟨Lc13, hQ13, l13, y13, z13⟩, st13⟩ := X0.virtualBack hx (y := (⟨"java/lang/String", "isLatin1", "()Z"⟩ : MethodName)) (z := (⟨"java/lang/String", "isLatin1", "()Z"⟩ : MethodName)) hown (mvT hZ (hw _ (List.mem_of_getElem? (i := 51) rfl))) (mvT hZ (hw _ (List.mem_of_getElem? (i := 52) rfl))) (notFace_of_selects (args := #[]) (mvT hZ (hw _ (List.mem_of_getElem? (i := 54) rfl)))) (mvT hZ (hw _ (List.mem_of_getElem? (i := 54) rfl))) (mvT hZ (hw _ (List.mem_of_getElem? (i := 53) rfl))) (by decide) (backOf (W := 0) (rm_isLat l Z a0 hw [] a1 h0 n0 O0 zcs Scs hz_Scs F_a1_coder) hZ (hw _ (List.mem_of_getElem? (i := 55) rfl)) (hw _ (List.mem_of_getElem? (i := 7) rfl)) (by decide) (by decide)) qa13 qc13 (g := (mkF m 1 #[.val (.ref a1), .val (.int (46 : Int32)), .val (.int (0 : Int32))] [(.ref a1)])) rfl (by rw [hml]; rfl) (Steps.refl _) (argsL := []) (rest := []) (lenOf pd_3 rfl) rfl (by show 2 * 0 + _ ≤ _; exact Nat.le_of_eq rfl) (hb hby d_jdk_42_method_80_1) (fun _ _ => ⟨rfl, e0, (by decide : 0 + 0 ≤ _), (by decide : 0 + 0 ≤ _)⟩)
  dsimp only [Pt.U, Pt.locs, Pt.cells, Pt.slots] at X13 l13 y13 z13 st13 hQ13
  subst l13 y13 z13
  obtain ⟨rfl, rfl, e13⟩ := hQ13
  replace N0 := Fr.app N0 (Fr.nil n0)
  refine Goes.run (T' := T13) (g' := (mkF m 4 #[.val (.ref a1), .val (.int (46 : Int32)), .val (.int (0 : Int32))] [(.int (1 : Int32))])) st13 ?_
  refine Goes.step (T' := T13) (g' := (mkF m 7 #[.val (.ref a1), .val (.int (46 : Int32)), .val (.int (0 : Int32))] [])) (fun _ kz => XS.ifNo X13.here hx rfl (hb hby d_jdk_42_method_80_4) rfl ((if0 _ _).trans (feq (by decide : ¬ ((1 : Int32) = (0 : Int32)))).1) kz) ?_
  refine Goes.step (T' := T13) (g' := (mkF m 8 #[.val (.ref a1), .val (.int (46 : Int32)), .val (.int (0 : Int32))] [(.ref a1)])) (fun _ kz => XS.aloadN X13.here hx rfl (hb hby d_jdk_42_method_80_7) rfl rfl kz) ?_
  obtain ⟨T14, X14, e14, st14⟩ := getF X13 hx hZ hown (host := "") (Or.inl (hw _ (List.mem_of_getElem? (i := 32) rfl))) Via.refl e13 F_a1_value (g := (mkF m 8 #[.val (.ref a1), .val (.int (46 : Int32)), .val (.int (0 : Int32))] [(.ref a1)])) rfl rfl (hb hby d_jdk_42_method_80_8)
  refine Goes.step (T' := T14) (g' := (mkF m 11 #[.val (.ref a1), .val (.int (46 : Int32)), .val (.int (0 : Int32))] [(.ref t_a1)])) st14 ?_
  refine Goes.step (T' := T14) (g' := (mkF m 12 #[.val (.ref a1), .val (.int (46 : Int32)), .val (.int (0 : Int32))] [(.int (46 : Int32)), (.ref t_a1)])) (fun _ kz => XS.iloadN X14.here hx rfl (hb hby d_jdk_42_method_80_11) rfl  kz) ?_
  refine Goes.step (T' := T14) (g' := (mkF m 13 #[.val (.ref a1), .val (.int (46 : Int32)), .val (.int (0 : Int32))] [(.int (0 : Int32)), (.int (46 : Int32)), (.ref t_a1)])) (fun _ kz => XS.iloadN X14.here hx rfl (hb hby d_jdk_42_method_80_12) rfl  kz) ?_
  refine Goes.step (T' := T14) (g' := (mkF m 14 #[.val (.ref a1), .val (.int (46 : Int32)), .val (.int (0 : Int32))] [(.ref a1), (.int (0 : Int32)), (.int (46 : Int32)), (.ref t_a1)])) (fun _ kz => XS.aloadN X14.here hx rfl (hb hby d_jdk_42_method_80_13) rfl rfl kz) ?_
  obtain ⟨cq15, kq15, qa15, qb15, qc15⟩ := isOf hZ e14 E_a1
  obtain ⟨_, _, ⟨T15, L15, k15, n15⟩, -, X15, ⟨Lc15, hQ15, l15, y15, z15⟩, st15⟩ := X14.virtualBack hx (y := (⟨"java/lang/String", "length", "()I"⟩ : MethodName)) (z := (⟨"java/lang/String", "length", "()I"⟩ : MethodName)) hown (mvT hZ (hw _ (List.mem_of_getElem? (i := 56) rfl))) (mvT hZ (hw _ (List.mem_of_getElem? (i := 57) rfl))) (notFace_of_selects (args := #[]) (mvT hZ (hw _ (List.mem_of_getElem? (i := 59) rfl)))) (mvT hZ (hw _ (List.mem_of_getElem? (i := 59) rfl))) (mvT hZ (hw _ (List.mem_of_getElem? (i := 58) rfl))) (by decide) (own_lenW (W := 3) hZ hw (hw _ (List.mem_of_getElem? (i := 6) rfl)) G_a1 (hl) (Scs.ext O0.2) hz_Scs (by decide) (by decide)) qa15 qc15 (g := (mkF m 14 #[.val (.ref a1), .val (.int (46 : Int32)), .val (.int (0 : Int32))] [(.ref a1), (.int (0 : Int32)), (.int (46 : Int32)), (.ref t_a1)])) rfl (by rw [hml]; rfl) (Steps.refl _) (argsL := []) (rest := [(.int (0 : Int32)), (.int (46 : Int32)), (.ref t_a1)]) (lenOf pd_4 rfl) rfl (by show 2 * 0 + _ ≤ _; exact Nat.le_of_eq rfl) (hb hby d_jdk_42_method_80_14) (fun _ _ => ⟨rfl, e14, (by decide : 0 + 0 ≤ _), (by decide : 0 + 0 ≤ _)⟩)
  dsimp only [Pt.U, Pt.locs, Pt.cells, Pt.slots] at X15 l15 y15 z15 st15 hQ15
  subst l15 y15 z15
  obtain ⟨rfl, rfl, e15⟩ := hQ15
  replace N0 := Fr.app N0 (Fr.nil n0)
  refine Goes.run (T' := T15) (g' := (mkF m 17 #[.val (.ref a1), .val (.int (46 : Int32)), .val (.int (0 : Int32))] [(.int (Int32.ofNat cs.length)), (.int (0 : Int32)), (.int (46 : Int32)), (.ref t_a1)])) st15 ?_
  obtain ⟨_, _, ⟨T16, L16, k16, n16⟩, -, X16, ⟨Lc16, hQ16, l16, y16, z16⟩, st16⟩ := Jvm.LawKit.callS X15 hx (y := (⟨"java/lang/StringLatin1", "indexOf", "([BIII)I"⟩ : MethodName)) hown (mvT hZ (hw _ (List.mem_of_getElem? (i := 66) rfl))) (mvT hZ (hw _ (List.mem_of_getElem? (i := 67) rfl))) (mvT hZ (hw _ (List.mem_of_getElem? (i := 68) rfl))) (mvT hZ (hw _ (List.mem_of_getElem? (i := 69) rfl))) (by decide) (backOf (W := 0) (rm_ixLat l Z a0 hw [] t_a1 (kb_a1) (cs) h0 n0 O0  V_t_a1 (by first | assumption | decide) hb_a1) hZ (hw _ (List.mem_of_getElem? (i := 69) rfl)) (hw _ (List.mem_of_getElem? (i := 68) rfl)) (by decide) (by decide)) (g := (mkF m 17 #[.val (.ref a1), .val (.int (46 : Int32)), .val (.int (0 : Int32))] [(.int (Int32.ofNat cs.length)), (.int (0 : Int32)), (.int (46 : Int32)), (.ref t_a1)])) rfl (by rw [hml]; rfl) (argsL := [(.ref t_a1), (.int (46 : Int32)), (.int (0 : Int32)), (.int (Int32.ofNat cs.length))]) (rest := []) (lenOf pd_2 rfl) rfl (by show 2 * 0 + _ ≤ _; exact Nat.le_of_eq rfl) (hb hby d_jdk_42_method_80_17) (fun _ _ => ⟨rfl, e15, (by decide : 0 + 0 ≤ _), (by decide : 0 + 0 ≤ _)⟩)
  dsimp only [Pt.U, Pt.locs, Pt.cells, Pt.slots] at X16 l16 y16 z16 st16 hQ16
  subst l16 y16 z16
  obtain ⟨rfl, rfl, e16⟩ := hQ16
  replace N0 := Fr.app N0 (Fr.nil n0)
  refine Goes.step (T' := T16) (g' := (mkF m 20 #[.val (.ref a1), .val (.int (46 : Int32)), .val (.int (0 : Int32))] [(.int (if IX cs = cs.length then -1 else Int32.ofNat (IX cs)))])) st16 ?_
  refine Goes.step (T' := T16) (g' := (mkF m 36 #[.val (.ref a1), .val (.int (46 : Int32)), .val (.int (0 : Int32))] [(.int (if IX cs = cs.length then -1 else Int32.ofNat (IX cs)))])) (fun _ kz => XS.goto X16.here hx rfl (pc0 := 20) (pc' := 36) rfl (hb hby d_jdk_42_method_80_20) (by decide) (by decide) kz) ?_
  obtain ⟨fs, hr, hrun, hended, hW, hsame⟩ := X16.leave (v := some (.int (if IX cs = cs.length then -1 else Int32.ofNat (IX cs)))) (fun h => by rw [Bd.returns] at h; cases h)
  exact ⟨_, _, retOut X16 hx Bd.returns rfl (Or.inl ⟨rfl, Or.inl rfl, _, rfl⟩) (hb hby d_jdk_42_method_80_36) hr, hrun, hended, _, _, rfl, (by show Q_ix2 Z a1 cs h0 n0 _ T16.heap _; rw [e16]; exact ⟨rfl, rfl, rfl⟩), ⟨_, rfl⟩, hW, hsame.mono (by decide) (by decide)⟩
theorem d_jdk_42_method_79_0 : decode jdk_42_method_79_code 0 = .ok (.aload_n 0, 1) := by decide +kernel
theorem d_jdk_42_method_79_1 : decode jdk_42_method_79_code 1 = .ok (.iload_n 1, 1) := by decide +kernel
theorem d_jdk_42_method_79_2 : decode jdk_42_method_79_code 2 = .ok (.iconst 0, 1) := by decide +kernel
theorem d_jdk_42_method_79_3 : decode jdk_42_method_79_code 3 = .ok (.invokevirtual 633, 3) := by decide +kernel
theorem d_jdk_42_method_79_6 : decode jdk_42_method_79_code 6 = .ok (.ireturn, 1) := by decide +kernel
theorem ef_ix1 (m : MethodId) (a1 : Addr) : entryFrame m #[(.ref a1), (.int (46 : Int32))] 2 = mkF m 0 #[.val (.ref a1), .val (.int (46 : Int32))] [] := by first | (simp [entryFrame, mkF, argsToLocals, Value.category, maxLocals]; done) | rfl
def Q_ix1 (Z : State) (a1 : Addr) (cs : List Int32) (h0 : Heap) (n0 : Nat) (v : Option Value) (h : Heap) (L : List Loc) : Prop := (v = some (.int (if IX cs = cs.length then -1 else Int32.ofNat (IX cs)))) ∧ (L = []) ∧ (h = h0)
set_option maxRecDepth 65536 in
set_option maxHeartbeats 40000000 in
theorem rm_ix1 (l : Launch) (Z : State) (a0 : Array Value) (hw : ∀ d ∈ tables_1, d.before a0 Z = true) (ws : List Jvm.Cond) (a1 : Addr) (cs : List Int32) (h0 : Heap) (n0 : Nat) (O0 : Old Z n0 h0) (zcs : Int32) (Scs : Sta Z Z.heap "java/lang/String" "COMPACT_STRINGS" "Z" (.int zcs)) (hz_Scs : ¬ zcs = 0) (E_a1 : Exa Z h0 a1 "java/lang/String") (G_a1 : SX Z h0 a1 cs) (hl : cs.length ≤ 4000) :
    MetFree l (⟨"java/lang/String", "indexOf", "(I)I"⟩ : MethodName) (head1 ((Jvm.Cond.code (⟨"java/lang/String", "indexOf", "(I)I"⟩ : MethodName) jdk_42_method_79_code 2 (some .int)) :: ws) ({ frames := 3, cells := 0, slots := 0, locals := 46 } : Room)) (fun a U => a = #[(.ref a1), (.int (46 : Int32))] ∧ Z.Warmed39 U.vm ∧ U.heap = h0) (fun _ _ _ _ _ => True) (fun _ U o U' => ∃ v L, o = .returned v ∧ Q_ix1 Z a1 cs h0 n0 v U'.heap L ∧ FrameEnd U o U' L ({ frames := 3, cells := 0, slots := 0, locals := 46 } : Room).cells ({ frames := 3, cells := 0, slots := 0, locals := 46 } : Room).slots) := by
  refine MetFree.of_bodySF (plainFor_of_name pn_1) hisR ?_
  intro p e s m args below meth c s₁ Bd hml0 hP hK
  obtain ⟨rfl, hZ, hh⟩ := hP
  have hx := Bd.exec
  have hby := Bd.bytes
  have hml : c.maxLocals = 2 := hml0
  have hown : s.vm.findClass "java/lang/String" = some m.cls := findClass_of_methodNamed Bd.named
  have hnm := (name_of_methodNamed Bd.named Bd.method).1
  have X0 : Stand p l e ({ frames := 3, cells := 0, slots := 0, locals := 46 } : Room) s m #[(.ref a1), (.int (46 : Int32))] below meth c s₁ [] 0 0 := Stand.of_body Bd
  have e0 : s₁.heap = h0 := by rw [← hh, Bd.state]; rfl
  have N0 := Fr.nil n0
  have K0 : Keep h0 h0 [] := Keep.refl _ _
  suffices hG : Goes p e below (fun o U' => ∃ v L, o = .returned v ∧ Q_ix1 Z a1 cs h0 n0 v U'.heap L ∧ FrameEnd s o U' L ({ frames := 3, cells := 0, slots := 0, locals := 46 } : Room).cells ({ frames := 3, cells := 0, slots := 0, locals := 46 } : Room).slots) s₁ (mkF m 0 #[.val (.ref a1), .val (.int (46 : Int32))] []) by
    obtain ⟨t, o, h1, h2⟩ := hG; exact ⟨t, o, castTop (ef_ix1 m a1) h1, h2⟩
  refine Goes.step (T' := s₁) (g' := (mkF m 1 #[.val (.ref a1), .val (.int (46 : Int32))] [(.ref a1)])) (fun _ kz => XS.aloadN X0.here hx rfl (hb hby d_jdk_42_method_79_0) rfl rfl kz) ?_
  refine Goes.step (T' := s₁) (g' := (mkF m 2 #[.val (.ref a1), .val (.int (46 : Int32))] [(.int (46 : Int32)), (.ref a1)])) (fun _ kz => XS.iloadN X0.here hx rfl (hb hby d_jdk_42_method_79_1) rfl  kz) ?_
  refine Goes.step (T' := s₁) (g' := (mkF m 3 #[.val (.ref a1), .val (.int (46 : Int32))] [(.int (0 : Int32)), (.int (46 : Int32)), (.ref a1)])) (fun _ kz => XS.iconst X0.here hx rfl (hb hby d_jdk_42_method_79_2) kz) ?_
  obtain ⟨cq17, kq17, qa17, qb17, qc17⟩ := isOf hZ e0 E_a1
  obtain ⟨_, _, ⟨T17, L17, k17, n17⟩, -, X17, ⟨Lc17, hQ17, l17, y17, z17⟩, st17⟩ := X0.virtualBack hx (y := (⟨"java/lang/String", "indexOf", "(II)I"⟩ : MethodName)) (z := (⟨"java/lang/String", "indexOf", "(II)I"⟩ : MethodName)) hown (mvT hZ (hw _ (List.mem_of_getElem? (i := 46) rfl))) (mvT hZ (hw _ (List.mem_of_getElem? (i := 47) rfl))) (notFace_of_selects (args := #[]) (mvT hZ (hw _ (List.mem_of_getElem? (i := 49) rfl)))) (mvT hZ (hw _ (List.mem_of_getElem? (i := 49) rfl))) (mvT hZ (hw _ (List.mem_of_getElem? (i := 48) rfl))) (by decide) (backOf (W := 0) (rm_ix2 l Z a0 hw [] a1 (cs) h0 n0 O0 zcs Scs hz_Scs E_a1 G_a1 (by first | assumption | decide)) hZ (hw _ (List.mem_of_getElem? (i := 50) rfl)) (hw _ (List.mem_of_getElem? (i := 7) rfl)) (by decide) (by decide)) qa17 qc17 (g := (mkF m 3 #[.val (.ref a1), .val (.int (46 : Int32))] [(.int (0 : Int32)), (.int (46 : Int32)), (.ref a1)])) rfl (by rw [hml]; rfl) (Steps.refl _) (argsL := [(.int (46 : Int32)), (.int (0 : Int32))]) (rest := []) (lenOf pd_1 rfl) rfl (by show 2 * 0 + _ ≤ _; exact Nat.le_of_eq rfl) (hb hby d_jdk_42_method_79_3) (fun _ _ => ⟨rfl, e0, (by decide : 0 + 0 ≤ _), (by decide : 0 + 0 ≤ _)⟩)
  dsimp only [Pt.U, Pt.locs, Pt.cells, Pt.slots] at X17 l17 y17 z17 st17 hQ17
  subst l17 y17 z17
  obtain ⟨rfl, rfl, e17⟩ := hQ17
  replace N0 := Fr.app N0 (Fr.nil n0)
  refine Goes.run (T' := T17) (g' := (mkF m 6 #[.val (.ref a1), .val (.int (46 : Int32))] [(.int (if IX cs = cs.length then -1 else Int32.ofNat (IX cs)))])) st17 ?_
  obtain ⟨fs, hr, hrun, hended, hW, hsame⟩ := X17.leave (v := some (.int (if IX cs = cs.length then -1 else Int32.ofNat (IX cs)))) (fun h => by rw [Bd.returns] at h; cases h)
  exact ⟨_, _, retOut X17 hx Bd.returns rfl (Or.inl ⟨rfl, Or.inl rfl, _, rfl⟩) (hb hby d_jdk_42_method_79_6) hr, hrun, hended, _, _, rfl, (by show Q_ix1 Z a1 cs h0 n0 _ T17.heap _; rw [e17]; exact ⟨rfl, rfl, rfl⟩), ⟨_, rfl⟩, hW, hsame.mono (by decide) (by decide)⟩
theorem d_prog_15_method_9_0 : decode prog_15_method_9_code 0 = .ok (.aload_n 0, 1) := by decide +kernel
theorem d_prog_15_method_9_1 : decode prog_15_method_9_code 1 = .ok (.bipush 46, 2) := by decide +kernel
theorem d_prog_15_method_9_3 : decode prog_15_method_9_code 3 = .ok (.invokevirtual 83, 3) := by decide +kernel
theorem pd_5 : parseMethodDescriptor "(I)I" = some ⟨[.int], some .int⟩ := by decide +kernel
theorem d_prog_15_method_9_6 : decode prog_15_method_9_code 6 = .ok (.istore_n 1, 1) := by decide +kernel
theorem d_prog_15_method_9_7 : decode prog_15_method_9_code 7 = .ok (.iload_n 1, 1) := by decide +kernel
theorem d_prog_15_method_9_8 : decode prog_15_method_9_code 8 = .ok (.ifCond .ge 10, 3) := by decide +kernel
theorem d_prog_15_method_9_11 : decode prog_15_method_9_code 11 = .ok (.aload_n 0, 1) := by decide +kernel
theorem d_prog_15_method_9_12 : decode prog_15_method_9_code 12 = .ok (.invokevirtual 35, 3) := by decide +kernel
theorem d_prog_15_method_9_15 : decode prog_15_method_9_code 15 = .ok (.goto 4, 3) := by decide +kernel
theorem d_prog_15_method_9_19 : decode prog_15_method_9_code 19 = .ok (.ireturn, 1) := by decide +kernel
theorem d_prog_15_method_9_18 : decode prog_15_method_9_code 18 = .ok (.iload_n 1, 1) := by decide +kernel
theorem pn_2 : plainName "com/example/tariff/tariff/core/decimal/PlainDecimal" = true := by first | (simp [plainName, overriddenIn]; done) | decide +kernel
theorem ef_ptIx (m : MethodId) (a1 : Addr) : entryFrame m #[(.ref a1)] 2 = mkF m 0 #[.val (.ref a1), .unset] [] := by first | (simp [entryFrame, mkF, argsToLocals, Value.category, maxLocals]; done) | rfl
def Q_ptIx (Z : State) (a1 : Addr) (cs : List Int32) (h0 : Heap) (n0 : Nat) (v : Option Value) (h : Heap) (L : List Loc) : Prop := (v = some (.int (Int32.ofNat (IX cs)))) ∧ (L = []) ∧ (h = h0)
set_option maxRecDepth 65536 in
set_option maxHeartbeats 40000000 in
theorem rm_ptIx (l : Launch) (Z : State) (a0 : Array Value) (hw : ∀ d ∈ tables_1, d.before a0 Z = true) (ws : List Jvm.Cond) (a1 : Addr) (cs : List Int32) (h0 : Heap) (n0 : Nat) (O0 : Old Z n0 h0) (zcs : Int32) (Scs : Sta Z Z.heap "java/lang/String" "COMPACT_STRINGS" "Z" (.int zcs)) (hz_Scs : ¬ zcs = 0) (E_a1 : Exa Z h0 a1 "java/lang/String") (G_a1 : SX Z h0 a1 cs) (hl : cs.length ≤ 4000) :
    MetFree l (⟨"com/example/tariff/tariff/core/decimal/PlainDecimal", "pointIndex", "(Ljava/lang/String;)I"⟩ : MethodName) (head1 ((Jvm.Cond.code (⟨"com/example/tariff/tariff/core/decimal/PlainDecimal", "pointIndex", "(Ljava/lang/String;)I"⟩ : MethodName) prog_15_method_9_code 2 (some .int)) :: ws) ({ frames := 4, cells := 0, slots := 0, locals := 59 } : Room)) (fun a U => a = #[(.ref a1)] ∧ Z.Warmed39 U.vm ∧ U.heap = h0) (fun _ _ _ _ _ => True) (fun _ U o U' => ∃ v L, o = .returned v ∧ Q_ptIx Z a1 cs h0 n0 v U'.heap L ∧ FrameEnd U o U' L ({ frames := 4, cells := 0, slots := 0, locals := 59 } : Room).cells ({ frames := 4, cells := 0, slots := 0, locals := 59 } : Room).slots) := by
  refine MetFree.of_bodySF (plainFor_of_name pn_2) hisR ?_
  intro p e s m args below meth c s₁ Bd hml0 hP hK
  obtain ⟨rfl, hZ, hh⟩ := hP
  have hx := Bd.exec
  have hby := Bd.bytes
  have hml : c.maxLocals = 2 := hml0
  have hown : s.vm.findClass "com/example/tariff/tariff/core/decimal/PlainDecimal" = some m.cls := findClass_of_methodNamed Bd.named
  have hnm := (name_of_methodNamed Bd.named Bd.method).1
  have X0 : Stand p l e ({ frames := 4, cells := 0, slots := 0, locals := 59 } : Room) s m #[(.ref a1)] below meth c s₁ [] 0 0 := Stand.of_body Bd
  have e0 : s₁.heap = h0 := by rw [← hh, Bd.state]; rfl
  have N0 := Fr.nil n0
  have K0 : Keep h0 h0 [] := Keep.refl _ _
  suffices hG : Goes p e below (fun o U' => ∃ v L, o = .returned v ∧ Q_ptIx Z a1 cs h0 n0 v U'.heap L ∧ FrameEnd s o U' L ({ frames := 4, cells := 0, slots := 0, locals := 59 } : Room).cells ({ frames := 4, cells := 0, slots := 0, locals := 59 } : Room).slots) s₁ (mkF m 0 #[.val (.ref a1), .unset] []) by
    obtain ⟨t, o, h1, h2⟩ := hG; exact ⟨t, o, castTop (ef_ptIx m a1) h1, h2⟩
  refine Goes.step (T' := s₁) (g' := (mkF m 1 #[.val (.ref a1), .unset] [(.ref a1)])) (fun _ kz => XS.aloadN X0.here hx rfl (hb hby d_prog_15_method_9_0) rfl rfl kz) ?_
  refine Goes.step (T' := s₁) (g' := (mkF m 3 #[.val (.ref a1), .unset] [(.int (46 : Int32)), (.ref a1)])) (fun _ kz => XS.bipush X0.here hx rfl (hb hby d_prog_15_method_9_1) kz) ?_
  obtain ⟨cq18, kq18, qa18, qb18, qc18⟩ := isOf hZ e0 E_a1
  obtain ⟨_, _, ⟨T18, L18, k18, n18⟩, -, X18, ⟨Lc18, hQ18, l18, y18, z18⟩, st18⟩ := X0.virtualBack hx (y := (⟨"java/lang/String", "indexOf", "(I)I"⟩ : MethodName)) (z := (⟨"java/lang/String", "indexOf", "(I)I"⟩ : MethodName)) hown (mvT hZ (hw _ (List.mem_of_getElem? (i := 41) rfl))) (mvT hZ (hw _ (List.mem_of_getElem? (i := 42) rfl))) (notFace_of_selects (args := #[]) (mvT hZ (hw _ (List.mem_of_getElem? (i := 44) rfl)))) (mvT hZ (hw _ (List.mem_of_getElem? (i := 44) rfl))) (mvT hZ (hw _ (List.mem_of_getElem? (i := 43) rfl))) (by decide) (backOf (W := 0) (rm_ix1 l Z a0 hw [] a1 (cs) h0 n0 O0 zcs Scs hz_Scs E_a1 G_a1 (by first | assumption | decide)) hZ (hw _ (List.mem_of_getElem? (i := 45) rfl)) (hw _ (List.mem_of_getElem? (i := 7) rfl)) (by decide) (by decide)) qa18 qc18 (g := (mkF m 3 #[.val (.ref a1), .unset] [(.int (46 : Int32)), (.ref a1)])) rfl (by rw [hml]; rfl) (Steps.refl _) (argsL := [(.int (46 : Int32))]) (rest := []) (lenOf pd_5 rfl) rfl (by show 2 * 0 + _ ≤ _; exact Nat.le_of_eq rfl) (hb hby d_prog_15_method_9_3) (fun _ _ => ⟨rfl, e0, (by decide : 0 + 0 ≤ _), (by decide : 0 + 0 ≤ _)⟩)
  dsimp only [Pt.U, Pt.locs, Pt.cells, Pt.slots] at X18 l18 y18 z18 st18 hQ18
  subst l18 y18 z18
  obtain ⟨rfl, rfl, e18⟩ := hQ18
  replace N0 := Fr.app N0 (Fr.nil n0)
  refine Goes.run (T' := T18) (g' := (mkF m 6 #[.val (.ref a1), .unset] [(.int (if IX cs = cs.length then -1 else Int32.ofNat (IX cs)))])) st18 ?_
  refine Goes.step (T' := T18) (g' := (mkF m 7 #[.val (.ref a1), .val (.int (if IX cs = cs.length then -1 else Int32.ofNat (IX cs)))] [])) (fun _ kz => XS.istoreN X18.here hx rfl (hb hby d_prog_15_method_9_6) rfl (l' := #[.val (.ref a1), .val (.int (if IX cs = cs.length then -1 else Int32.ofNat (IX cs)))]) rfl kz) ?_
  refine Goes.step (T' := T18) (g' := (mkF m 8 #[.val (.ref a1), .val (.int (if IX cs = cs.length then -1 else Int32.ofNat (IX cs)))] [(.int (if IX cs = cs.length then -1 else Int32.ofNat (IX cs)))])) (fun _ kz => XS.iloadN X18.here hx rfl (hb hby d_prog_15_method_9_7) rfl  kz) ?_
  by_cases hc8_19 : (if IX cs = cs.length then -1 else Int32.ofNat (IX cs)) < (0 : Int32)
  ·
    refine Goes.step (T' := T18) (g' := (mkF m 11 #[.val (.ref a1), .val (.int (if IX cs = cs.length then -1 else Int32.ofNat (IX cs)))] [])) (fun _ kz => XS.ifNo X18.here hx rfl (hb hby d_prog_15_method_9_8) rfl ((if0 _ _).trans (tlt hc8_19).2.1) kz) ?_
    refine Goes.step (T' := T18) (g' := (mkF m 12 #[.val (.ref a1), .val (.int (if IX cs = cs.length then -1 else Int32.ofNat (IX cs)))] [(.ref a1)])) (fun _ kz => XS.aloadN X18.here hx rfl (hb hby d_prog_15_method_9_11) rfl rfl kz) ?_
    obtain ⟨cq20, kq20, qa20, qb20, qc20⟩ := isOf hZ e18 E_a1
    obtain ⟨_, _, ⟨T20, L20, k20, n20⟩, -, X20, ⟨Lc20, hQ20, l20, y20, z20⟩, st20⟩ := X18.virtualBack hx (y := (⟨"java/lang/String", "length", "()I"⟩ : MethodName)) (z := (⟨"java/lang/String", "length", "()I"⟩ : MethodName)) hown (mvT hZ (hw _ (List.mem_of_getElem? (i := 83) rfl))) (mvT hZ (hw _ (List.mem_of_getElem? (i := 57) rfl))) (notFace_of_selects (args := #[]) (mvT hZ (hw _ (List.mem_of_getElem? (i := 59) rfl)))) (mvT hZ (hw _ (List.mem_of_getElem? (i := 59) rfl))) (mvT hZ (hw _ (List.mem_of_getElem? (i := 58) rfl))) (by decide) (own_lenW (W := 0) hZ hw (hw _ (List.mem_of_getElem? (i := 6) rfl)) G_a1 (hl) (Scs.ext O0.2) hz_Scs (by decide) (by decide)) qa20 qc20 (g := (mkF m 12 #[.val (.ref a1), .val (.int (if IX cs = cs.length then -1 else Int32.ofNat (IX cs)))] [(.ref a1)])) rfl (by rw [hml]; rfl) (Steps.refl _) (argsL := []) (rest := []) (lenOf pd_4 rfl) rfl (by show 2 * 0 + _ ≤ _; exact Nat.le_of_eq rfl) (hb hby d_prog_15_method_9_12) (fun _ _ => ⟨rfl, e18, (by decide : 0 + 0 ≤ _), (by decide : 0 + 0 ≤ _)⟩)
    dsimp only [Pt.U, Pt.locs, Pt.cells, Pt.slots] at X20 l20 y20 z20 st20 hQ20
    subst l20 y20 z20
    obtain ⟨rfl, rfl, e20⟩ := hQ20
    replace N0 := Fr.app N0 (Fr.nil n0)
    refine Goes.run (T' := T20) (g' := (mkF m 15 #[.val (.ref a1), .val (.int (if IX cs = cs.length then -1 else Int32.ofNat (IX cs)))] [(.int (Int32.ofNat cs.length))])) st20 ?_
    refine Goes.step (T' := T20) (g' := (mkF m 19 #[.val (.ref a1), .val (.int (if IX cs = cs.length then -1 else Int32.ofNat (IX cs)))] [(.int (Int32.ofNat cs.length))])) (fun _ kz => XS.goto X20.here hx rfl (pc0 := 15) (pc' := 19) rfl (hb hby d_prog_15_method_9_15) (by decide) (by decide) kz) ?_
    obtain ⟨fs, hr, hrun, hended, hW, hsame⟩ := X20.leave (v := some (.int (Int32.ofNat cs.length))) (fun h => by rw [Bd.returns] at h; cases h)
    exact ⟨_, _, retOut X20 hx Bd.returns rfl (Or.inl ⟨rfl, Or.inl rfl, _, rfl⟩) (hb hby d_prog_15_method_9_19) hr, hrun, hended, _, _, rfl, (by show Q_ptIx Z a1 cs h0 n0 _ T20.heap _; rw [e20]; exact ⟨(by by_cases q : IX cs = cs.length; rw [q]; rw [if_neg q] at hc8_19; exact absurd hc8_19 (own_nn (by have := IX_le cs; omega))), rfl, rfl⟩), ⟨_, rfl⟩, hW, hsame.mono (by decide) (by decide)⟩
  ·
    refine Goes.step (T' := T18) (g' := (mkF m 18 #[.val (.ref a1), .val (.int (if IX cs = cs.length then -1 else Int32.ofNat (IX cs)))] [])) (fun _ kz => XS.ifYes X18.here hx rfl (pc0 := 8) (pc' := 18) rfl (hb hby d_prog_15_method_9_8) rfl ((if0 _ _).trans (flt hc8_19).2.1) (by decide) (by decide) kz) ?_
    refine Goes.step (T' := T18) (g' := (mkF m 19 #[.val (.ref a1), .val (.int (if IX cs = cs.length then -1 else Int32.ofNat (IX cs)))] [(.int (if IX cs = cs.length then -1 else Int32.ofNat (IX cs)))])) (fun _ kz => XS.iloadN X18.here hx rfl (hb hby d_prog_15_method_9_18) rfl  kz) ?_
    obtain ⟨fs, hr, hrun, hended, hW, hsame⟩ := X18.leave (v := some (.int (if IX cs = cs.length then -1 else Int32.ofNat (IX cs)))) (fun h => by rw [Bd.returns] at h; cases h)
    exact ⟨_, _, retOut X18 hx Bd.returns rfl (Or.inl ⟨rfl, Or.inl rfl, _, rfl⟩) (hb hby d_prog_15_method_9_19) hr, hrun, hended, _, _, rfl, (by show Q_ptIx Z a1 cs h0 n0 _ T18.heap _; rw [e18]; exact ⟨(by by_cases q : IX cs = cs.length; rw [if_pos q] at hc8_19; exact absurd (by decide) hc8_19; rw [if_neg q]), rfl, rfl⟩), ⟨_, rfl⟩, hW, hsame.mono (by decide) (by decide)⟩
theorem d_prog_15_method_4_0 : decode prog_15_method_4_code 0 = .ok (.aload_n 0, 1) := by decide +kernel
theorem d_prog_15_method_4_1 : decode prog_15_method_4_code 1 = .ok (.invokestatic 25, 3) := by decide +kernel
theorem pd_6 : parseMethodDescriptor "(Ljava/lang/String;)I" = some ⟨[(.object "java/lang/String")], some .int⟩ := by decide +kernel
theorem d_prog_15_method_4_4 : decode prog_15_method_4_code 4 = .ok (.istore_n 1, 1) := by decide +kernel
theorem d_prog_15_method_4_5 : decode prog_15_method_4_code 5 = .ok (.iload_n 1, 1) := by decide +kernel
theorem d_prog_15_method_4_6 : decode prog_15_method_4_code 6 = .ok (.aload_n 0, 1) := by decide +kernel
theorem d_prog_15_method_4_7 : decode prog_15_method_4_code 7 = .ok (.invokevirtual 35, 3) := by decide +kernel
theorem d_prog_15_method_4_10 : decode prog_15_method_4_code 10 = .ok (.if_icmp .ne 7, 3) := by decide +kernel
theorem d_prog_15_method_4_13 : decode prog_15_method_4_code 13 = .ok (.iconst 0, 1) := by decide +kernel
theorem d_prog_15_method_4_14 : decode prog_15_method_4_code 14 = .ok (.goto 11, 3) := by decide +kernel
theorem d_prog_15_method_4_25 : decode prog_15_method_4_code 25 = .ok (.ireturn, 1) := by decide +kernel
theorem d_prog_15_method_4_17 : decode prog_15_method_4_code 17 = .ok (.aload_n 0, 1) := by decide +kernel
theorem d_prog_15_method_4_18 : decode prog_15_method_4_code 18 = .ok (.invokevirtual 35, 3) := by decide +kernel
theorem d_prog_15_method_4_21 : decode prog_15_method_4_code 21 = .ok (.iload_n 1, 1) := by decide +kernel
theorem d_prog_15_method_4_22 : decode prog_15_method_4_code 22 = .ok (.isub, 1) := by decide +kernel
theorem d_prog_15_method_4_23 : decode prog_15_method_4_code 23 = .ok (.iconst 1, 1) := by decide +kernel
theorem d_prog_15_method_4_24 : decode prog_15_method_4_code 24 = .ok (.isub, 1) := by decide +kernel
theorem ef_fracD (m : MethodId) (a1 : Addr) : entryFrame m #[(.ref a1)] 2 = mkF m 0 #[.val (.ref a1), .unset] [] := by first | (simp [entryFrame, mkF, argsToLocals, Value.category, maxLocals]; done) | rfl
def Q_fracD (Z : State) (a1 : Addr) (cs : List Int32) (h0 : Heap) (n0 : Nat) (v : Option Value) (h : Heap) (L : List Loc) : Prop := (v = some (.int (if IX cs = cs.length then 0 else Int32.ofNat cs.length - Int32.ofNat (IX cs) - 1))) ∧ (L = []) ∧ (h = h0)
set_option maxRecDepth 65536 in
set_option maxHeartbeats 40000000 in
theorem rm_fracD (l : Launch) (Z : State) (a0 : Array Value) (hw : ∀ d ∈ tables_1, d.before a0 Z = true) (ws : List Jvm.Cond) (a1 : Addr) (cs : List Int32) (h0 : Heap) (n0 : Nat) (O0 : Old Z n0 h0) (zcs : Int32) (Scs : Sta Z Z.heap "java/lang/String" "COMPACT_STRINGS" "Z" (.int zcs)) (hz_Scs : ¬ zcs = 0) (E_a1 : Exa Z h0 a1 "java/lang/String") (G_a1 : SX Z h0 a1 cs) (hl : cs.length ≤ 4000) :
    MetFree l (⟨"com/example/tariff/tariff/core/decimal/PlainDecimal", "fractionDigits", "(Ljava/lang/String;)I"⟩ : MethodName) (head1 ((Jvm.Cond.code (⟨"com/example/tariff/tariff/core/decimal/PlainDecimal", "fractionDigits", "(Ljava/lang/String;)I"⟩ : MethodName) prog_15_method_4_code 2 (some .int)) :: ws) ({ frames := 5, cells := 0, slots := 0, locals := 72 } : Room)) (fun a U => a = #[(.ref a1)] ∧ Z.Warmed39 U.vm ∧ U.heap = h0) (fun _ _ _ _ _ => True) (fun _ U o U' => ∃ v L, o = .returned v ∧ Q_fracD Z a1 cs h0 n0 v U'.heap L ∧ FrameEnd U o U' L ({ frames := 5, cells := 0, slots := 0, locals := 72 } : Room).cells ({ frames := 5, cells := 0, slots := 0, locals := 72 } : Room).slots) := by
  refine MetFree.of_bodySF (plainFor_of_name pn_2) hisR ?_
  intro p e s m args below meth c s₁ Bd hml0 hP hK
  obtain ⟨rfl, hZ, hh⟩ := hP
  have hx := Bd.exec
  have hby := Bd.bytes
  have hml : c.maxLocals = 2 := hml0
  have hown : s.vm.findClass "com/example/tariff/tariff/core/decimal/PlainDecimal" = some m.cls := findClass_of_methodNamed Bd.named
  have hnm := (name_of_methodNamed Bd.named Bd.method).1
  have X0 : Stand p l e ({ frames := 5, cells := 0, slots := 0, locals := 72 } : Room) s m #[(.ref a1)] below meth c s₁ [] 0 0 := Stand.of_body Bd
  have e0 : s₁.heap = h0 := by rw [← hh, Bd.state]; rfl
  have N0 := Fr.nil n0
  have K0 : Keep h0 h0 [] := Keep.refl _ _
  suffices hG : Goes p e below (fun o U' => ∃ v L, o = .returned v ∧ Q_fracD Z a1 cs h0 n0 v U'.heap L ∧ FrameEnd s o U' L ({ frames := 5, cells := 0, slots := 0, locals := 72 } : Room).cells ({ frames := 5, cells := 0, slots := 0, locals := 72 } : Room).slots) s₁ (mkF m 0 #[.val (.ref a1), .unset] []) by
    obtain ⟨t, o, h1, h2⟩ := hG; exact ⟨t, o, castTop (ef_fracD m a1) h1, h2⟩
  refine Goes.step (T' := s₁) (g' := (mkF m 1 #[.val (.ref a1), .unset] [(.ref a1)])) (fun _ kz => XS.aloadN X0.here hx rfl (hb hby d_prog_15_method_4_0) rfl rfl kz) ?_
  obtain ⟨_, _, ⟨T21, L21, k21, n21⟩, -, X21, ⟨Lc21, hQ21, l21, y21, z21⟩, st21⟩ := Jvm.LawKit.callS X0 hx (y := (⟨"com/example/tariff/tariff/core/decimal/PlainDecimal", "pointIndex", "(Ljava/lang/String;)I"⟩ : MethodName)) hown (mvT hZ (hw _ (List.mem_of_getElem? (i := 38) rfl))) (mvT hZ (hw _ (List.mem_of_getElem? (i := 39) rfl))) (mvT hZ (hw _ (List.mem_of_getElem? (i := 36) rfl))) (mvT hZ (hw _ (List.mem_of_getElem? (i := 40) rfl))) (by decide) (backOf (W := 0) (rm_ptIx l Z a0 hw [] a1 (cs) h0 n0 O0 zcs Scs hz_Scs E_a1 G_a1 (by first | assumption | decide)) hZ (hw _ (List.mem_of_getElem? (i := 40) rfl)) (hw _ (List.mem_of_getElem? (i := 36) rfl)) (by decide) (by decide)) (g := (mkF m 1 #[.val (.ref a1), .unset] [(.ref a1)])) rfl (by rw [hml]; rfl) (argsL := [(.ref a1)]) (rest := []) (lenOf pd_6 rfl) rfl (by show 2 * 0 + _ ≤ _; exact Nat.le_of_eq rfl) (hb hby d_prog_15_method_4_1) (fun _ _ => ⟨rfl, e0, (by decide : 0 + 0 ≤ _), (by decide : 0 + 0 ≤ _)⟩)
  dsimp only [Pt.U, Pt.locs, Pt.cells, Pt.slots] at X21 l21 y21 z21 st21 hQ21
  subst l21 y21 z21
  obtain ⟨rfl, rfl, e21⟩ := hQ21
  replace N0 := Fr.app N0 (Fr.nil n0)
  refine Goes.step (T' := T21) (g' := (mkF m 4 #[.val (.ref a1), .unset] [(.int (Int32.ofNat (IX cs)))])) st21 ?_
  refine Goes.step (T' := T21) (g' := (mkF m 5 #[.val (.ref a1), .val (.int (Int32.ofNat (IX cs)))] [])) (fun _ kz => XS.istoreN X21.here hx rfl (hb hby d_prog_15_method_4_4) rfl (l' := #[.val (.ref a1), .val (.int (Int32.ofNat (IX cs)))]) rfl kz) ?_
  refine Goes.step (T' := T21) (g' := (mkF m 6 #[.val (.ref a1), .val (.int (Int32.ofNat (IX cs)))] [(.int (Int32.ofNat (IX cs)))])) (fun _ kz => XS.iloadN X21.here hx rfl (hb hby d_prog_15_method_4_5) rfl  kz) ?_
  refine Goes.step (T' := T21) (g' := (mkF m 7 #[.val (.ref a1), .val (.int (Int32.ofNat (IX cs)))] [(.ref a1), (.int (Int32.ofNat (IX cs)))])) (fun _ kz => XS.aloadN X21.here hx rfl (hb hby d_prog_15_method_4_6) rfl rfl kz) ?_
  obtain ⟨cq22, kq22, qa22, qb22, qc22⟩ := isOf hZ e21 E_a1
  obtain ⟨_, _, ⟨T22, L22, k22, n22⟩, -, X22, ⟨Lc22, hQ22, l22, y22, z22⟩, st22⟩ := X21.virtualBack hx (y := (⟨"java/lang/String", "length", "()I"⟩ : MethodName)) (z := (⟨"java/lang/String", "length", "()I"⟩ : MethodName)) hown (mvT hZ (hw _ (List.mem_of_getElem? (i := 83) rfl))) (mvT hZ (hw _ (List.mem_of_getElem? (i := 57) rfl))) (notFace_of_selects (args := #[]) (mvT hZ (hw _ (List.mem_of_getElem? (i := 59) rfl)))) (mvT hZ (hw _ (List.mem_of_getElem? (i := 59) rfl))) (mvT hZ (hw _ (List.mem_of_getElem? (i := 58) rfl))) (by decide) (own_lenW (W := 1) hZ hw (hw _ (List.mem_of_getElem? (i := 6) rfl)) G_a1 (hl) (Scs.ext O0.2) hz_Scs (by decide) (by decide)) qa22 qc22 (g := (mkF m 7 #[.val (.ref a1), .val (.int (Int32.ofNat (IX cs)))] [(.ref a1), (.int (Int32.ofNat (IX cs)))])) rfl (by rw [hml]; rfl) (Steps.refl _) (argsL := []) (rest := [(.int (Int32.ofNat (IX cs)))]) (lenOf pd_4 rfl) rfl (by show 2 * 0 + _ ≤ _; exact Nat.le_of_eq rfl) (hb hby d_prog_15_method_4_7) (fun _ _ => ⟨rfl, e21, (by decide : 0 + 0 ≤ _), (by decide : 0 + 0 ≤ _)⟩)
  dsimp only [Pt.U, Pt.locs, Pt.cells, Pt.slots] at X22 l22 y22 z22 st22 hQ22
  subst l22 y22 z22
  obtain ⟨rfl, rfl, e22⟩ := hQ22
  replace N0 := Fr.app N0 (Fr.nil n0)
  refine Goes.run (T' := T22) (g' := (mkF m 10 #[.val (.ref a1), .val (.int (Int32.ofNat (IX cs)))] [(.int (Int32.ofNat cs.length)), (.int (Int32.ofNat (IX cs)))])) st22 ?_
  by_cases hc10_23 : (Int32.ofNat (IX cs)) = (Int32.ofNat cs.length)
  ·
    refine Goes.step (T' := T22) (g' := (mkF m 13 #[.val (.ref a1), .val (.int (Int32.ofNat (IX cs)))] [])) (fun _ kz => XS.icmpNo X22.here hx rfl (hb hby d_prog_15_method_4_10) rfl (teq hc10_23).2 kz) ?_
    refine Goes.step (T' := T22) (g' := (mkF m 14 #[.val (.ref a1), .val (.int (Int32.ofNat (IX cs)))] [(.int (0 : Int32))])) (fun _ kz => XS.iconst X22.here hx rfl (hb hby d_prog_15_method_4_13) kz) ?_
    refine Goes.step (T' := T22) (g' := (mkF m 25 #[.val (.ref a1), .val (.int (Int32.ofNat (IX cs)))] [(.int (0 : Int32))])) (fun _ kz => XS.goto X22.here hx rfl (pc0 := 14) (pc' := 25) rfl (hb hby d_prog_15_method_4_14) (by decide) (by decide) kz) ?_
    obtain ⟨fs, hr, hrun, hended, hW, hsame⟩ := X22.leave (v := some (.int (0 : Int32))) (fun h => by rw [Bd.returns] at h; cases h)
    exact ⟨_, _, retOut X22 hx Bd.returns rfl (Or.inl ⟨rfl, Or.inl rfl, _, rfl⟩) (hb hby d_prog_15_method_4_25) hr, hrun, hended, _, _, rfl, (by show Q_fracD Z a1 cs h0 n0 _ T22.heap _; rw [e22]; exact ⟨(by rw [if_pos ((own_eq (by have := IX_le cs; omega) hl).mp hc10_23)]), rfl, rfl⟩), ⟨_, rfl⟩, hW, hsame.mono (by decide) (by decide)⟩
  ·
    refine Goes.step (T' := T22) (g' := (mkF m 17 #[.val (.ref a1), .val (.int (Int32.ofNat (IX cs)))] [])) (fun _ kz => XS.icmpYes X22.here hx rfl (pc0 := 10) (pc' := 17) rfl (hb hby d_prog_15_method_4_10) rfl (feq hc10_23).2 (by decide) (by decide) kz) ?_
    refine Goes.step (T' := T22) (g' := (mkF m 18 #[.val (.ref a1), .val (.int (Int32.ofNat (IX cs)))] [(.ref a1)])) (fun _ kz => XS.aloadN X22.here hx rfl (hb hby d_prog_15_method_4_17) rfl rfl kz) ?_
    obtain ⟨cq24, kq24, qa24, qb24, qc24⟩ := isOf hZ e22 E_a1
    obtain ⟨_, _, ⟨T24, L24, k24, n24⟩, -, X24, ⟨Lc24, hQ24, l24, y24, z24⟩, st24⟩ := X22.virtualBack hx (y := (⟨"java/lang/String", "length", "()I"⟩ : MethodName)) (z := (⟨"java/lang/String", "length", "()I"⟩ : MethodName)) hown (mvT hZ (hw _ (List.mem_of_getElem? (i := 83) rfl))) (mvT hZ (hw _ (List.mem_of_getElem? (i := 57) rfl))) (notFace_of_selects (args := #[]) (mvT hZ (hw _ (List.mem_of_getElem? (i := 59) rfl)))) (mvT hZ (hw _ (List.mem_of_getElem? (i := 59) rfl))) (mvT hZ (hw _ (List.mem_of_getElem? (i := 58) rfl))) (by decide) (own_lenW (W := 0) hZ hw (hw _ (List.mem_of_getElem? (i := 6) rfl)) G_a1 (hl) (Scs.ext O0.2) hz_Scs (by decide) (by decide)) qa24 qc24 (g := (mkF m 18 #[.val (.ref a1), .val (.int (Int32.ofNat (IX cs)))] [(.ref a1)])) rfl (by rw [hml]; rfl) (Steps.refl _) (argsL := []) (rest := []) (lenOf pd_4 rfl) rfl (by show 2 * 0 + _ ≤ _; exact Nat.le_of_eq rfl) (hb hby d_prog_15_method_4_18) (fun _ _ => ⟨rfl, e22, (by decide : 0 + 0 ≤ _), (by decide : 0 + 0 ≤ _)⟩)
    dsimp only [Pt.U, Pt.locs, Pt.cells, Pt.slots] at X24 l24 y24 z24 st24 hQ24
    subst l24 y24 z24
    obtain ⟨rfl, rfl, e24⟩ := hQ24
    replace N0 := Fr.app N0 (Fr.nil n0)
    refine Goes.run (T' := T24) (g' := (mkF m 21 #[.val (.ref a1), .val (.int (Int32.ofNat (IX cs)))] [(.int (Int32.ofNat cs.length))])) st24 ?_
    refine Goes.step (T' := T24) (g' := (mkF m 22 #[.val (.ref a1), .val (.int (Int32.ofNat (IX cs)))] [(.int (Int32.ofNat (IX cs))), (.int (Int32.ofNat cs.length))])) (fun _ kz => XS.iloadN X24.here hx rfl (hb hby d_prog_15_method_4_21) rfl  kz) ?_
    refine Goes.step (T' := T24) (g' := (mkF m 23 #[.val (.ref a1), .val (.int (Int32.ofNat (IX cs)))] [(.int ((Int32.ofNat cs.length) - (Int32.ofNat (IX cs))))])) (fun _ kz => XS.isub X24.here hx rfl (hb hby d_prog_15_method_4_22) rfl kz) ?_
    refine Goes.step (T' := T24) (g' := (mkF m 24 #[.val (.ref a1), .val (.int (Int32.ofNat (IX cs)))] [(.int (1 : Int32)), (.int ((Int32.ofNat cs.length) - (Int32.ofNat (IX cs))))])) (fun _ kz => XS.iconst X24.here hx rfl (hb hby d_prog_15_method_4_23) kz) ?_
    refine Goes.step (T' := T24) (g' := (mkF m 25 #[.val (.ref a1), .val (.int (Int32.ofNat (IX cs)))] [(.int (((Int32.ofNat cs.length) - (Int32.ofNat (IX cs))) - (1 : Int32)))])) (fun _ kz => XS.isub X24.here hx rfl (hb hby d_prog_15_method_4_24) rfl kz) ?_
    obtain ⟨fs, hr, hrun, hended, hW, hsame⟩ := X24.leave (v := some (.int (((Int32.ofNat cs.length) - (Int32.ofNat (IX cs))) - (1 : Int32)))) (fun h => by rw [Bd.returns] at h; cases h)
    exact ⟨_, _, retOut X24 hx Bd.returns rfl (Or.inl ⟨rfl, Or.inl rfl, _, rfl⟩) (hb hby d_prog_15_method_4_25) hr, hrun, hended, _, _, rfl, (by show Q_fracD Z a1 cs h0 n0 _ T24.heap _; rw [e24]; exact ⟨(by rw [if_neg (fun q => hc10_23 ((own_eq (by have := IX_le cs; omega) hl).mpr q))]), rfl, rfl⟩), ⟨_, rfl⟩, hW, hsame.mono (by decide) (by decide)⟩
theorem d_method_2_0 : decode method_2_code 0 = .ok (.bipush 48, 2) := by decide +kernel
theorem d_method_2_2 : decode method_2_code 2 = .ok (.lload_n 0, 1) := by decide +kernel
theorem d_method_2_3 : decode method_2_code 3 = .ok (.iconst 4, 1) := by decide +kernel
theorem d_method_2_4 : decode method_2_code 4 = .ok (.iload_n 2, 1) := by decide +kernel
theorem d_method_2_5 : decode method_2_code 5 = .ok (.imul, 1) := by decide +kernel
theorem d_method_2_6 : decode method_2_code 6 = .ok (.lushr, 1) := by decide +kernel
theorem d_method_2_7 : decode method_2_code 7 = .ok (.l2i, 1) := by decide +kernel
theorem d_method_2_8 : decode method_2_code 8 = .ok (.bipush 15, 2) := by decide +kernel
theorem d_method_2_10 : decode method_2_code 10 = .ok (.iand, 1) := by decide +kernel
theorem d_method_2_11 : decode method_2_code 11 = .ok (.bipush 10, 2) := by decide +kernel
theorem d_method_2_13 : decode method_2_code 13 = .ok (.irem, 1) := by decide +kernel
theorem d_method_2_14 : decode method_2_code 14 = .ok (.iadd, 1) := by decide +kernel
theorem d_method_2_15 : decode method_2_code 15 = .ok (.i2c, 1) := by decide +kernel
theorem d_method_2_16 : decode method_2_code 16 = .ok (.ireturn, 1) := by decide +kernel
theorem pn_3 : plainName "com/example/tariff/tariff/core/decimal/PlainDecimalFractionDigitsPinLaw" = true := by first | (simp [plainName, overriddenIn]; done) | decide +kernel
theorem ef_digit (m : MethodId) (q1 : Int64) (p2 : Int32) : entryFrame m #[(.long q1), (.int p2)] 3 = mkF m 0 #[.val (.long q1), .second, .val (.int p2)] [] := by first | (simp [entryFrame, mkF, argsToLocals, Value.category, maxLocals]; done) | rfl
def Q_digit (Z : State) (q1 : Int64) (p2 : Int32) (h0 : Heap) (n0 : Nat) (v : Option Value) (h : Heap) (L : List Loc) : Prop := (v = some (.int (DG q1 p2))) ∧ (L = []) ∧ (h = h0)
set_option maxRecDepth 65536 in
set_option maxHeartbeats 40000000 in
theorem rm_digit (l : Launch) (Z : State) (a0 : Array Value) (hw : ∀ d ∈ tables_1, d.before a0 Z = true) (ws : List Jvm.Cond) (q1 : Int64) (p2 : Int32) (h0 : Heap) (n0 : Nat) (O0 : Old Z n0 h0)   :
    MetFree l (⟨"com/example/tariff/tariff/core/decimal/PlainDecimalFractionDigitsPinLaw", "digit", "(JI)C"⟩ : MethodName) (head1 ((Jvm.Cond.code (⟨"com/example/tariff/tariff/core/decimal/PlainDecimalFractionDigitsPinLaw", "digit", "(JI)C"⟩ : MethodName) method_2_code 3 (some .char)) :: ws) ({ frames := 0, cells := 0, slots := 0, locals := 0 } : Room)) (fun a U => a = #[(.long q1), (.int p2)] ∧ Z.Warmed39 U.vm ∧ U.heap = h0) (fun _ _ _ _ _ => True) (fun _ U o U' => ∃ v L, o = .returned v ∧ Q_digit Z q1 p2 h0 n0 v U'.heap L ∧ FrameEnd U o U' L ({ frames := 0, cells := 0, slots := 0, locals := 0 } : Room).cells ({ frames := 0, cells := 0, slots := 0, locals := 0 } : Room).slots) := by
  refine MetFree.of_bodySF (plainFor_of_name pn_3) hisR ?_
  intro p e s m args below meth c s₁ Bd hml0 hP hK
  obtain ⟨rfl, hZ, hh⟩ := hP
  have hx := Bd.exec
  have hby := Bd.bytes
  have hml : c.maxLocals = 3 := hml0
  have hown : s.vm.findClass "com/example/tariff/tariff/core/decimal/PlainDecimalFractionDigitsPinLaw" = some m.cls := findClass_of_methodNamed Bd.named
  have hnm := (name_of_methodNamed Bd.named Bd.method).1
  have X0 : Stand p l e ({ frames := 0, cells := 0, slots := 0, locals := 0 } : Room) s m #[(.long q1), (.int p2)] below meth c s₁ [] 0 0 := Stand.of_body Bd
  have e0 : s₁.heap = h0 := by rw [← hh, Bd.state]; rfl
  have N0 := Fr.nil n0
  have K0 : Keep h0 h0 [] := Keep.refl _ _
  suffices hG : Goes p e below (fun o U' => ∃ v L, o = .returned v ∧ Q_digit Z q1 p2 h0 n0 v U'.heap L ∧ FrameEnd s o U' L ({ frames := 0, cells := 0, slots := 0, locals := 0 } : Room).cells ({ frames := 0, cells := 0, slots := 0, locals := 0 } : Room).slots) s₁ (mkF m 0 #[.val (.long q1), .second, .val (.int p2)] []) by
    obtain ⟨t, o, h1, h2⟩ := hG; exact ⟨t, o, castTop (ef_digit m q1 p2) h1, h2⟩
  refine Goes.step (T' := s₁) (g' := (mkF m 2 #[.val (.long q1), .second, .val (.int p2)] [(.int (48 : Int32))])) (fun _ kz => XS.bipush X0.here hx rfl (hb hby d_method_2_0) kz) ?_
  refine Goes.step (T' := s₁) (g' := (mkF m 3 #[.val (.long q1), .second, .val (.int p2)] [(.long q1), (.int (48 : Int32))])) (fun _ kz => XS.lloadN X0.here hx rfl (hb hby d_method_2_2) rfl  kz) ?_
  refine Goes.step (T' := s₁) (g' := (mkF m 4 #[.val (.long q1), .second, .val (.int p2)] [(.int (4 : Int32)), (.long q1), (.int (48 : Int32))])) (fun _ kz => XS.iconst X0.here hx rfl (hb hby d_method_2_3) kz) ?_
  refine Goes.step (T' := s₁) (g' := (mkF m 5 #[.val (.long q1), .second, .val (.int p2)] [(.int p2), (.int (4 : Int32)), (.long q1), (.int (48 : Int32))])) (fun _ kz => XS.iloadN X0.here hx rfl (hb hby d_method_2_4) rfl  kz) ?_
  refine Goes.step (T' := s₁) (g' := (mkF m 6 #[.val (.long q1), .second, .val (.int p2)] [(.int ((4 : Int32) * p2)), (.long q1), (.int (48 : Int32))])) (fun _ kz => XS.imul X0.here hx rfl (hb hby d_method_2_5) rfl kz) ?_
  refine Goes.step (T' := s₁) (g' := (mkF m 7 #[.val (.long q1), .second, .val (.int p2)] [(.long ((q1.toUInt64 >>> (((4 : Int32) * p2) &&& 0x3f).toInt64.toUInt64).toInt64)), (.int (48 : Int32))])) (fun _ kz => XS.lushr X0.here hx rfl (hb hby d_method_2_6) rfl kz) ?_
  refine Goes.step (T' := s₁) (g' := (mkF m 8 #[.val (.long q1), .second, .val (.int p2)] [(.int (((q1.toUInt64 >>> (((4 : Int32) * p2) &&& 0x3f).toInt64.toUInt64).toInt64).toInt32)), (.int (48 : Int32))])) (fun _ kz => XS.l2i X0.here hx rfl (hb hby d_method_2_7) rfl kz) ?_
  refine Goes.step (T' := s₁) (g' := (mkF m 10 #[.val (.long q1), .second, .val (.int p2)] [(.int (15 : Int32)), (.int (((q1.toUInt64 >>> (((4 : Int32) * p2) &&& 0x3f).toInt64.toUInt64).toInt64).toInt32)), (.int (48 : Int32))])) (fun _ kz => XS.bipush X0.here hx rfl (hb hby d_method_2_8) kz) ?_
  refine Goes.step (T' := s₁) (g' := (mkF m 11 #[.val (.long q1), .second, .val (.int p2)] [(.int ((((q1.toUInt64 >>> (((4 : Int32) * p2) &&& 0x3f).toInt64.toUInt64).toInt64).toInt32) &&& (15 : Int32))), (.int (48 : Int32))])) (fun _ kz => XS.iand X0.here hx rfl (hb hby d_method_2_10) rfl kz) ?_
  refine Goes.step (T' := s₁) (g' := (mkF m 13 #[.val (.long q1), .second, .val (.int p2)] [(.int (10 : Int32)), (.int ((((q1.toUInt64 >>> (((4 : Int32) * p2) &&& 0x3f).toInt64.toUInt64).toInt64).toInt32) &&& (15 : Int32))), (.int (48 : Int32))])) (fun _ kz => XS.bipush X0.here hx rfl (hb hby d_method_2_11) kz) ?_
  refine Goes.step (T' := s₁) (g' := (mkF m 14 #[.val (.long q1), .second, .val (.int p2)] [(.int (((((q1.toUInt64 >>> (((4 : Int32) * p2) &&& 0x3f).toInt64.toUInt64).toInt64).toInt32) &&& (15 : Int32)) % (10 : Int32))), (.int (48 : Int32))])) (fun _ kz => iremM X0 hx rfl (hb hby d_method_2_13) rfl (by decide) kz) ?_
  refine Goes.step (T' := s₁) (g' := (mkF m 15 #[.val (.long q1), .second, .val (.int p2)] [(.int ((48 : Int32) + (((((q1.toUInt64 >>> (((4 : Int32) * p2) &&& 0x3f).toInt64.toUInt64).toInt64).toInt32) &&& (15 : Int32)) % (10 : Int32))))])) (fun _ kz => XS.iadd X0.here hx rfl (hb hby d_method_2_14) rfl kz) ?_
  refine Goes.step (T' := s₁) (g' := (mkF m 16 #[.val (.long q1), .second, .val (.int p2)] [(.int (((48 : Int32) + (((((q1.toUInt64 >>> (((4 : Int32) * p2) &&& 0x3f).toInt64.toUInt64).toInt64).toInt32) &&& (15 : Int32)) % (10 : Int32))).toUInt32.toUInt16.toUInt32.toInt32))])) (fun _ kz => XS.i2c X0.here hx rfl (hb hby d_method_2_15) rfl kz) ?_
  obtain ⟨fs, hr, hrun, hended, hW, hsame⟩ := X0.leave (v := some (.int (nar .char (((48 : Int32) + (((((q1.toUInt64 >>> (((4 : Int32) * p2) &&& 0x3f).toInt64.toUInt64).toInt64).toInt32) &&& (15 : Int32)) % (10 : Int32))).toUInt32.toUInt16.toUInt32.toInt32)))) (fun h => by rw [Bd.returns] at h; cases h)
  exact ⟨_, _, retN X0 hx (t := .char) Bd.returns (by simp) (hb hby d_method_2_16) hr, hrun, hended, _, _, rfl, (by show Q_digit Z q1 p2 h0 n0 _ s₁.heap _; rw [e0]; exact ⟨rfl, rfl, rfl⟩), ⟨_, rfl⟩, hW, hsame.mono (by decide) (by decide)⟩
theorem pd_7 : parseMethodDescriptor "(JI)C" = some ⟨[.long, .int], some .char⟩ := by decide +kernel
theorem pd_8 : parseMethodDescriptor "([C)V" = some ⟨[(.array .char)], none⟩ := by decide +kernel
theorem ef_law (m : MethodId) (p0 : Int32) (p1 : Int32) (p2 : Int32) (q3 : Int64) : entryFrame m #[(.int p0), (.int p1), (.int p2), (.long q3)] maxLocals = mkF m 0 #[.val (.int p0), .val (.int p1), .val (.int p2), .val (.long q3), .second, .unset, .unset, .unset, .unset, .unset, .unset] [] := by first | (simp [entryFrame, mkF, argsToLocals, Value.category, maxLocals]; done) | rfl
def Q_law (Z : State) (p0 : Int32) (p1 : Int32) (p2 : Int32) (q3 : Int64) (h0 : Heap) (n0 : Nat) (v : Option Value) (h : Heap) (L : List Loc) : Prop := (v = some (.int (1 : Int32))) ∧ (Fr n0 L) ∧ (Keep h0 h [])
set_option maxRecDepth 65536 in
set_option maxHeartbeats 40000000 in
theorem rm_law (l : Launch) (Z : State) (a0 : Array Value) (hw : ∀ d ∈ tables_1, d.before a0 Z = true) (ws : List Jvm.Cond) (p0 : Int32) (p1 : Int32) (p2 : Int32) (q3 : Int64) (h0 : Heap) (n0 : Nat) (O0 : Old Z n0 h0) (zcs : Int32) (Scs : Sta Z Z.heap "java/lang/String" "COMPACT_STRINGS" "Z" (.int zcs)) (hz_Scs : ¬ zcs = 0)  :
    MetFree l x (head1 ((Jvm.Cond.code x code maxLocals ret) :: ws) room_1) (fun a U => a = #[(.int p0), (.int p1), (.int p2), (.long q3)] ∧ Z.Warmed39 U.vm ∧ U.heap = h0) (fun _ _ _ _ _ => True) (fun _ U o U' => ∃ v L, o = .returned v ∧ Q_law Z p0 p1 p2 q3 h0 n0 v U'.heap L ∧ FrameEnd U o U' L 16 128) := by
  refine MetFree.of_bodySF (plainFor_of_name pn_3) hisR ?_
  intro p e s m args below meth c s₁ Bd hml0 hP hK
  obtain ⟨rfl, hZ, hh⟩ := hP
  have hx := Bd.exec
  have hby := Bd.bytes
  have hml : c.maxLocals = 11 := hml0
  have hown : s.vm.findClass "com/example/tariff/tariff/core/decimal/PlainDecimalFractionDigitsPinLaw" = some m.cls := findClass_of_methodNamed Bd.named
  have hnm := (name_of_methodNamed Bd.named Bd.method).1
  have X0 : Stand p l e room_1 s m #[(.int p0), (.int p1), (.int p2), (.long q3)] below meth c s₁ [] 0 0 := Stand.of_body Bd
  have e0 : s₁.heap = h0 := by rw [← hh, Bd.state]; rfl
  have N0 := Fr.nil n0
  have K0 : Keep h0 h0 [] := Keep.refl _ _
  suffices hG : Goes p e below (fun o U' => ∃ v L, o = .returned v ∧ Q_law Z p0 p1 p2 q3 h0 n0 v U'.heap L ∧ FrameEnd s o U' L 16 128) s₁ (mkF m 0 #[.val (.int p0), .val (.int p1), .val (.int p2), .val (.long q3), .second, .unset, .unset, .unset, .unset, .unset, .unset] []) by
    obtain ⟨t, o, h1, h2⟩ := hG; exact ⟨t, o, castTop (ef_law m p0 p1 p2 q3) h1, h2⟩
  refine Goes.step (T' := s₁) (g' := (mkF m 1 #[.val (.int p0), .val (.int p1), .val (.int p2), .val (.long q3), .second, .unset, .unset, .unset, .unset, .unset, .unset] [(.int (1 : Int32))])) (fun _ kz => XS.iconst X0.here hx rfl (hb hby at_0) kz) ?_
  refine Goes.step (T' := s₁) (g' := (mkF m 2 #[.val (.int p0), .val (.int p1), .val (.int p2), .val (.long q3), .second, .unset, .unset, .unset, .unset, .unset, .unset] [(.int p0), (.int (1 : Int32))])) (fun _ kz => XS.iloadN X0.here hx rfl (hb hby at_1) rfl  kz) ?_
  refine Goes.step (T' := s₁) (g' := (mkF m 4 #[.val (.int p0), .val (.int p1), .val (.int p2), .val (.long q3), .second, .unset, .unset, .unset, .unset, .unset, .unset] [(.int (7 : Int32)), (.int p0), (.int (1 : Int32))])) (fun _ kz => XS.bipush X0.here hx rfl (hb hby at_2) kz) ?_
  refine Goes.step (T' := s₁) (g' := (mkF m 5 #[.val (.int p0), .val (.int p1), .val (.int p2), .val (.long q3), .second, .unset, .unset, .unset, .unset, .unset, .unset] [(.int (p0 &&& (7 : Int32))), (.int (1 : Int32))])) (fun _ kz => XS.iand X0.here hx rfl (hb hby at_4) rfl kz) ?_
  refine Goes.step (T' := s₁) (g' := (mkF m 6 #[.val (.int p0), .val (.int p1), .val (.int p2), .val (.long q3), .second, .unset, .unset, .unset, .unset, .unset, .unset] [(.int ((1 : Int32) + (p0 &&& (7 : Int32))))])) (fun _ kz => XS.iadd X0.here hx rfl (hb hby at_5) rfl kz) ?_
  refine Goes.step (T' := s₁) (g' := (mkF m 8 #[.val (.int p0), .val (.int p1), .val (.int p2), .val (.long q3), .second, .val (.int ((1 : Int32) + (p0 &&& (7 : Int32)))), .unset, .unset, .unset, .unset, .unset] [])) (fun _ kz => XS.istore X0.here hx rfl (hb hby at_6) rfl (l' := #[.val (.int p0), .val (.int p1), .val (.int p2), .val (.long q3), .second, .val (.int ((1 : Int32) + (p0 &&& (7 : Int32)))), .unset, .unset, .unset, .unset, .unset]) rfl kz) ?_
  obtain ⟨k, hk1, hk8, hkn⟩ := own_and7 p0
  rw [hkn]
  suffices J1 : ∀ (hp : Int32) (pt : Int32) (H1 : Chosen k hp pt) (T25 : State) (h25 : Heap) (locs25 : List Loc) (X25 : Stand p l e room_1 s m #[(.int p0), (.int p1), (.int p2), (.long q3)] below meth c T25 locs25 0 0) (e25 : T25.heap = h25) (N0 : Fr n0 locs25) (K0 : Keep h0 h25 []) (O0 : Old Z n0 h25) , Goes p e below (fun o U' => ∃ v L, o = .returned v ∧ Q_law Z p0 p1 p2 q3 h0 n0 v U'.heap L ∧ FrameEnd s o U' L 16 128) T25 (mkF m 50 #[.val (.int p0), .val (.int p1), .val (.int p2), .val (.long q3), .second, .val (.int (Int32.ofNat k)), .val (.int hp), .val (.int pt), .unset, .unset, .unset] []) by
    refine Goes.step (T' := s₁) (g' := (mkF m 9 #[.val (.int p0), .val (.int p1), .val (.int p2), .val (.long q3), .second, .val (.int (Int32.ofNat k)), .unset, .unset, .unset, .unset, .unset] [(.int p2)])) (fun _ kz => XS.iloadN X0.here hx rfl (hb hby at_8) rfl  kz) ?_
    refine Goes.step (T' := s₁) (g' := (mkF m 10 #[.val (.int p0), .val (.int p1), .val (.int p2), .val (.long q3), .second, .val (.int (Int32.ofNat k)), .unset, .unset, .unset, .unset, .unset] [(.int (1 : Int32)), (.int p2)])) (fun _ kz => XS.iconst X0.here hx rfl (hb hby at_9) kz) ?_
    refine Goes.step (T' := s₁) (g' := (mkF m 11 #[.val (.int p0), .val (.int p1), .val (.int p2), .val (.long q3), .second, .val (.int (Int32.ofNat k)), .unset, .unset, .unset, .unset, .unset] [(.int (p2 &&& (1 : Int32)))])) (fun _ kz => XS.iand X0.here hx rfl (hb hby at_10) rfl kz) ?_
    by_cases hc11_26 : (p2 &&& (1 : Int32)) = (0 : Int32)
    ·
      refine Goes.step (T' := s₁) (g' := (mkF m 24 #[.val (.int p0), .val (.int p1), .val (.int p2), .val (.long q3), .second, .val (.int (Int32.ofNat k)), .unset, .unset, .unset, .unset, .unset] [])) (fun _ kz => XS.ifYes X0.here hx rfl (pc0 := 11) (pc' := 24) rfl (hb hby at_11) rfl ((if0 _ _).trans (teq hc11_26).1) (by decide) (by decide) kz) ?_
      refine Goes.step (T' := s₁) (g' := (mkF m 25 #[.val (.int p0), .val (.int p1), .val (.int p2), .val (.long q3), .second, .val (.int (Int32.ofNat k)), .unset, .unset, .unset, .unset, .unset] [(.int (0 : Int32))])) (fun _ kz => XS.iconst X0.here hx rfl (hb hby at_24) kz) ?_
      refine Goes.step (T' := s₁) (g' := (mkF m 27 #[.val (.int p0), .val (.int p1), .val (.int p2), .val (.long q3), .second, .val (.int (Int32.ofNat k)), .val (.int (0 : Int32)), .unset, .unset, .unset, .unset] [])) (fun _ kz => XS.istore X0.here hx rfl (hb hby at_25) rfl (l' := #[.val (.int p0), .val (.int p1), .val (.int p2), .val (.long q3), .second, .val (.int (Int32.ofNat k)), .val (.int (0 : Int32)), .unset, .unset, .unset, .unset]) rfl kz) ?_
      refine Goes.step (T' := s₁) (g' := (mkF m 29 #[.val (.int p0), .val (.int p1), .val (.int p2), .val (.long q3), .second, .val (.int (Int32.ofNat k)), .val (.int (0 : Int32)), .unset, .unset, .unset, .unset] [(.int (0 : Int32))])) (fun _ kz => XS.iload X0.here hx rfl (hb hby at_27) rfl  kz) ?_
      refine Goes.step (T' := s₁) (g' := (mkF m 46 #[.val (.int p0), .val (.int p1), .val (.int p2), .val (.long q3), .second, .val (.int (Int32.ofNat k)), .val (.int (0 : Int32)), .unset, .unset, .unset, .unset] [])) (fun _ kz => XS.ifYes X0.here hx rfl (pc0 := 29) (pc' := 46) rfl (hb hby at_29) rfl ((if0 _ _).trans (teq (by decide : ((0 : Int32) = (0 : Int32)))).1) (by decide) (by decide) kz) ?_
      refine Goes.step (T' := s₁) (g' := (mkF m 48 #[.val (.int p0), .val (.int p1), .val (.int p2), .val (.long q3), .second, .val (.int (Int32.ofNat k)), .val (.int (0 : Int32)), .unset, .unset, .unset, .unset] [(.int (Int32.ofNat k))])) (fun _ kz => XS.iload X0.here hx rfl (hb hby at_46) rfl  kz) ?_
      refine Goes.step (T' := s₁) (g' := (mkF m 50 #[.val (.int p0), .val (.int p1), .val (.int p2), .val (.long q3), .second, .val (.int (Int32.ofNat k)), .val (.int (0 : Int32)), .val (.int (Int32.ofNat k)), .unset, .unset, .unset] [])) (fun _ kz => XS.istore X0.here hx rfl (hb hby at_48) rfl (l' := #[.val (.int p0), .val (.int p1), .val (.int p2), .val (.long q3), .second, .val (.int (Int32.ofNat k)), .val (.int (0 : Int32)), .val (.int (Int32.ofNat k)), .unset, .unset, .unset]) rfl kz) ?_
      exact J1 ((0 : Int32)) ((Int32.ofNat k)) (Or.inl ⟨rfl, rfl⟩) _ _ _ (X0.mono (by decide) (by decide)) e0 N0 K0 O0 
    ·
      refine Goes.step (T' := s₁) (g' := (mkF m 14 #[.val (.int p0), .val (.int p1), .val (.int p2), .val (.long q3), .second, .val (.int (Int32.ofNat k)), .unset, .unset, .unset, .unset, .unset] [])) (fun _ kz => XS.ifNo X0.here hx rfl (hb hby at_11) rfl ((if0 _ _).trans (feq hc11_26).1) kz) ?_
      refine Goes.step (T' := s₁) (g' := (mkF m 16 #[.val (.int p0), .val (.int p1), .val (.int p2), .val (.long q3), .second, .val (.int (Int32.ofNat k)), .unset, .unset, .unset, .unset, .unset] [(.int (Int32.ofNat k))])) (fun _ kz => XS.iload X0.here hx rfl (hb hby at_14) rfl  kz) ?_
      refine Goes.step (T' := s₁) (g' := (mkF m 17 #[.val (.int p0), .val (.int p1), .val (.int p2), .val (.long q3), .second, .val (.int (Int32.ofNat k)), .unset, .unset, .unset, .unset, .unset] [(.int (3 : Int32)), (.int (Int32.ofNat k))])) (fun _ kz => XS.iconst X0.here hx rfl (hb hby at_16) kz) ?_
      by_cases hc17_27 : (Int32.ofNat k) < (3 : Int32)
      ·
        refine Goes.step (T' := s₁) (g' := (mkF m 24 #[.val (.int p0), .val (.int p1), .val (.int p2), .val (.long q3), .second, .val (.int (Int32.ofNat k)), .unset, .unset, .unset, .unset, .unset] [])) (fun _ kz => XS.icmpYes X0.here hx rfl (pc0 := 17) (pc' := 24) rfl (hb hby at_17) rfl (tlt hc17_27).1 (by decide) (by decide) kz) ?_
        refine Goes.step (T' := s₁) (g' := (mkF m 25 #[.val (.int p0), .val (.int p1), .val (.int p2), .val (.long q3), .second, .val (.int (Int32.ofNat k)), .unset, .unset, .unset, .unset, .unset] [(.int (0 : Int32))])) (fun _ kz => XS.iconst X0.here hx rfl (hb hby at_24) kz) ?_
        refine Goes.step (T' := s₁) (g' := (mkF m 27 #[.val (.int p0), .val (.int p1), .val (.int p2), .val (.long q3), .second, .val (.int (Int32.ofNat k)), .val (.int (0 : Int32)), .unset, .unset, .unset, .unset] [])) (fun _ kz => XS.istore X0.here hx rfl (hb hby at_25) rfl (l' := #[.val (.int p0), .val (.int p1), .val (.int p2), .val (.long q3), .second, .val (.int (Int32.ofNat k)), .val (.int (0 : Int32)), .unset, .unset, .unset, .unset]) rfl kz) ?_
        refine Goes.step (T' := s₁) (g' := (mkF m 29 #[.val (.int p0), .val (.int p1), .val (.int p2), .val (.long q3), .second, .val (.int (Int32.ofNat k)), .val (.int (0 : Int32)), .unset, .unset, .unset, .unset] [(.int (0 : Int32))])) (fun _ kz => XS.iload X0.here hx rfl (hb hby at_27) rfl  kz) ?_
        refine Goes.step (T' := s₁) (g' := (mkF m 46 #[.val (.int p0), .val (.int p1), .val (.int p2), .val (.long q3), .second, .val (.int (Int32.ofNat k)), .val (.int (0 : Int32)), .unset, .unset, .unset, .unset] [])) (fun _ kz => XS.ifYes X0.here hx rfl (pc0 := 29) (pc' := 46) rfl (hb hby at_29) rfl ((if0 _ _).trans (teq (by decide : ((0 : Int32) = (0 : Int32)))).1) (by decide) (by decide) kz) ?_
        refine Goes.step (T' := s₁) (g' := (mkF m 48 #[.val (.int p0), .val (.int p1), .val (.int p2), .val (.long q3), .second, .val (.int (Int32.ofNat k)), .val (.int (0 : Int32)), .unset, .unset, .unset, .unset] [(.int (Int32.ofNat k))])) (fun _ kz => XS.iload X0.here hx rfl (hb hby at_46) rfl  kz) ?_
        refine Goes.step (T' := s₁) (g' := (mkF m 50 #[.val (.int p0), .val (.int p1), .val (.int p2), .val (.long q3), .second, .val (.int (Int32.ofNat k)), .val (.int (0 : Int32)), .val (.int (Int32.ofNat k)), .unset, .unset, .unset] [])) (fun _ kz => XS.istore X0.here hx rfl (hb hby at_48) rfl (l' := #[.val (.int p0), .val (.int p1), .val (.int p2), .val (.long q3), .second, .val (.int (Int32.ofNat k)), .val (.int (0 : Int32)), .val (.int (Int32.ofNat k)), .unset, .unset, .unset]) rfl kz) ?_
        exact J1 ((0 : Int32)) ((Int32.ofNat k)) (Or.inl ⟨rfl, rfl⟩) _ _ _ (X0.mono (by decide) (by decide)) e0 N0 K0 O0 
      ·
        refine Goes.step (T' := s₁) (g' := (mkF m 20 #[.val (.int p0), .val (.int p1), .val (.int p2), .val (.long q3), .second, .val (.int (Int32.ofNat k)), .unset, .unset, .unset, .unset, .unset] [])) (fun _ kz => XS.icmpNo X0.here hx rfl (hb hby at_17) rfl (flt hc17_27).1 kz) ?_
        refine Goes.step (T' := s₁) (g' := (mkF m 21 #[.val (.int p0), .val (.int p1), .val (.int p2), .val (.long q3), .second, .val (.int (Int32.ofNat k)), .unset, .unset, .unset, .unset, .unset] [(.int (1 : Int32))])) (fun _ kz => XS.iconst X0.here hx rfl (hb hby at_20) kz) ?_
        refine Goes.step (T' := s₁) (g' := (mkF m 25 #[.val (.int p0), .val (.int p1), .val (.int p2), .val (.long q3), .second, .val (.int (Int32.ofNat k)), .unset, .unset, .unset, .unset, .unset] [(.int (1 : Int32))])) (fun _ kz => XS.goto X0.here hx rfl (pc0 := 21) (pc' := 25) rfl (hb hby at_21) (by decide) (by decide) kz) ?_
        refine Goes.step (T' := s₁) (g' := (mkF m 27 #[.val (.int p0), .val (.int p1), .val (.int p2), .val (.long q3), .second, .val (.int (Int32.ofNat k)), .val (.int (1 : Int32)), .unset, .unset, .unset, .unset] [])) (fun _ kz => XS.istore X0.here hx rfl (hb hby at_25) rfl (l' := #[.val (.int p0), .val (.int p1), .val (.int p2), .val (.long q3), .second, .val (.int (Int32.ofNat k)), .val (.int (1 : Int32)), .unset, .unset, .unset, .unset]) rfl kz) ?_
        refine Goes.step (T' := s₁) (g' := (mkF m 29 #[.val (.int p0), .val (.int p1), .val (.int p2), .val (.long q3), .second, .val (.int (Int32.ofNat k)), .val (.int (1 : Int32)), .unset, .unset, .unset, .unset] [(.int (1 : Int32))])) (fun _ kz => XS.iload X0.here hx rfl (hb hby at_27) rfl  kz) ?_
        refine Goes.step (T' := s₁) (g' := (mkF m 32 #[.val (.int p0), .val (.int p1), .val (.int p2), .val (.long q3), .second, .val (.int (Int32.ofNat k)), .val (.int (1 : Int32)), .unset, .unset, .unset, .unset] [])) (fun _ kz => XS.ifNo X0.here hx rfl (hb hby at_29) rfl ((if0 _ _).trans (feq (by decide : ¬ ((1 : Int32) = (0 : Int32)))).1) kz) ?_
        refine Goes.step (T' := s₁) (g' := (mkF m 33 #[.val (.int p0), .val (.int p1), .val (.int p2), .val (.long q3), .second, .val (.int (Int32.ofNat k)), .val (.int (1 : Int32)), .unset, .unset, .unset, .unset] [(.int (1 : Int32))])) (fun _ kz => XS.iconst X0.here hx rfl (hb hby at_32) kz) ?_
        refine Goes.step (T' := s₁) (g' := (mkF m 34 #[.val (.int p0), .val (.int p1), .val (.int p2), .val (.long q3), .second, .val (.int (Int32.ofNat k)), .val (.int (1 : Int32)), .unset, .unset, .unset, .unset] [(.int p1), (.int (1 : Int32))])) (fun _ kz => XS.iloadN X0.here hx rfl (hb hby at_33) rfl  kz) ?_
        refine Goes.step (T' := s₁) (g' := (mkF m 36 #[.val (.int p0), .val (.int p1), .val (.int p2), .val (.long q3), .second, .val (.int (Int32.ofNat k)), .val (.int (1 : Int32)), .unset, .unset, .unset, .unset] [(.int (2147483647 : Int32)), (.int p1), (.int (1 : Int32))])) (X0.ldcInt hx hown (mvT hZ (hw _ (List.mem_of_getElem? (i := 84) rfl))) (g := (mkF m 34 #[.val (.int p0), .val (.int p1), .val (.int p2), .val (.long q3), .second, .val (.int (Int32.ofNat k)), .val (.int (1 : Int32)), .unset, .unset, .unset, .unset] [(.int p1), (.int (1 : Int32))])) rfl (hb hby at_34)) ?_
        refine Goes.step (T' := s₁) (g' := (mkF m 37 #[.val (.int p0), .val (.int p1), .val (.int p2), .val (.long q3), .second, .val (.int (Int32.ofNat k)), .val (.int (1 : Int32)), .unset, .unset, .unset, .unset] [(.int (p1 &&& (2147483647 : Int32))), (.int (1 : Int32))])) (fun _ kz => XS.iand X0.here hx rfl (hb hby at_36) rfl kz) ?_
        refine Goes.step (T' := s₁) (g' := (mkF m 39 #[.val (.int p0), .val (.int p1), .val (.int p2), .val (.long q3), .second, .val (.int (Int32.ofNat k)), .val (.int (1 : Int32)), .unset, .unset, .unset, .unset] [(.int (Int32.ofNat k)), (.int (p1 &&& (2147483647 : Int32))), (.int (1 : Int32))])) (fun _ kz => XS.iload X0.here hx rfl (hb hby at_37) rfl  kz) ?_
        refine Goes.step (T' := s₁) (g' := (mkF m 40 #[.val (.int p0), .val (.int p1), .val (.int p2), .val (.long q3), .second, .val (.int (Int32.ofNat k)), .val (.int (1 : Int32)), .unset, .unset, .unset, .unset] [(.int (2 : Int32)), (.int (Int32.ofNat k)), (.int (p1 &&& (2147483647 : Int32))), (.int (1 : Int32))])) (fun _ kz => XS.iconst X0.here hx rfl (hb hby at_39) kz) ?_
        refine Goes.step (T' := s₁) (g' := (mkF m 41 #[.val (.int p0), .val (.int p1), .val (.int p2), .val (.long q3), .second, .val (.int (Int32.ofNat k)), .val (.int (1 : Int32)), .unset, .unset, .unset, .unset] [(.int ((Int32.ofNat k) - (2 : Int32))), (.int (p1 &&& (2147483647 : Int32))), (.int (1 : Int32))])) (fun _ kz => XS.isub X0.here hx rfl (hb hby at_40) rfl kz) ?_
        refine Goes.step (T' := s₁) (g' := (mkF m 42 #[.val (.int p0), .val (.int p1), .val (.int p2), .val (.long q3), .second, .val (.int (Int32.ofNat k)), .val (.int (1 : Int32)), .unset, .unset, .unset, .unset] [(.int ((p1 &&& (2147483647 : Int32)) % ((Int32.ofNat k) - (2 : Int32)))), (.int (1 : Int32))])) (fun _ kz => iremM X0 hx rfl (hb hby at_41) rfl (own_nz (own_k3 hk8 hc17_27) hk8) kz) ?_
        refine Goes.step (T' := s₁) (g' := (mkF m 43 #[.val (.int p0), .val (.int p1), .val (.int p2), .val (.long q3), .second, .val (.int (Int32.ofNat k)), .val (.int (1 : Int32)), .unset, .unset, .unset, .unset] [(.int ((1 : Int32) + ((p1 &&& (2147483647 : Int32)) % ((Int32.ofNat k) - (2 : Int32)))))])) (fun _ kz => XS.iadd X0.here hx rfl (hb hby at_42) rfl kz) ?_
        refine Goes.step (T' := s₁) (g' := (mkF m 48 #[.val (.int p0), .val (.int p1), .val (.int p2), .val (.long q3), .second, .val (.int (Int32.ofNat k)), .val (.int (1 : Int32)), .unset, .unset, .unset, .unset] [(.int ((1 : Int32) + ((p1 &&& (2147483647 : Int32)) % ((Int32.ofNat k) - (2 : Int32)))))])) (fun _ kz => XS.goto X0.here hx rfl (pc0 := 43) (pc' := 48) rfl (hb hby at_43) (by decide) (by decide) kz) ?_
        refine Goes.step (T' := s₁) (g' := (mkF m 50 #[.val (.int p0), .val (.int p1), .val (.int p2), .val (.long q3), .second, .val (.int (Int32.ofNat k)), .val (.int (1 : Int32)), .val (.int ((1 : Int32) + ((p1 &&& (2147483647 : Int32)) % ((Int32.ofNat k) - (2 : Int32))))), .unset, .unset, .unset] [])) (fun _ kz => XS.istore X0.here hx rfl (hb hby at_48) rfl (l' := #[.val (.int p0), .val (.int p1), .val (.int p2), .val (.long q3), .second, .val (.int (Int32.ofNat k)), .val (.int (1 : Int32)), .val (.int ((1 : Int32) + ((p1 &&& (2147483647 : Int32)) % ((Int32.ofNat k) - (2 : Int32))))), .unset, .unset, .unset]) rfl kz) ?_
        exact J1 ((1 : Int32)) (((1 : Int32) + ((p1 &&& (2147483647 : Int32)) % ((Int32.ofNat k) - (2 : Int32))))) (chosen (own_k3 hk8 hc17_27) hk8 p1) _ _ _ (X0.mono (by decide) (by decide)) e0 N0 K0 O0 
  clear N0 K0 O0
  intro hp pt H1 T25 h25 locs25 X25 e25 N0 K0 O0 
  refine Goes.step (T' := T25) (g' := (mkF m 52 #[.val (.int p0), .val (.int p1), .val (.int p2), .val (.long q3), .second, .val (.int (Int32.ofNat k)), .val (.int hp), .val (.int pt), .unset, .unset, .unset] [(.int (Int32.ofNat k))])) (fun _ kz => XS.iload X25.here hx rfl (hb hby at_50) rfl  kz) ?_
  obtain ⟨T28, h28, kc28, X28, e28, Ex28, A28, st28⟩ := newP X25 hx hZ (hw _ (List.mem_of_getElem? (i := 0) rfl)) e25 (g := (mkF m 52 #[.val (.int p0), .val (.int p1), .val (.int p2), .val (.long q3), .second, .val (.int (Int32.ofNat k)), .val (.int hp), .val (.int pt), .unset, .unset, .unset] [(.int (Int32.ofNat k))])) rfl (hb hby at_52) rfl (own_nn (by omega)) (cap := 8) (by rw [own_clamp (by omega)]; exact hk8) (by decide) (by decide) (by decide)
  obtain ⟨b28, gg28⟩ : ∃ z, z = h25.size := ⟨_, rfl⟩
  rw [← gg28] at A28 st28
  have g_b28 : n0 ≤ b28 := Nat.le_trans (own_n0 O0) (Nat.le_of_eq gg28.symm)
  have sz_b28 : h0.size ≤ b28 := Nat.le_trans K0.1 (Nat.le_of_eq gg28.symm)
  replace O0 := O0.ext Ex28
  replace K0 := K0.ext Ex28
  have V_b28 : Arv Z h28 b28 kc28 .char (Int32.ofNat k) [] (.int (0 : Int32)) := Arv.new A28 (own_nn (by omega))
  refine Goes.step (T' := T28) (g' := (mkF m 54 #[.val (.int p0), .val (.int p1), .val (.int p2), .val (.long q3), .second, .val (.int (Int32.ofNat k)), .val (.int hp), .val (.int pt), .unset, .unset, .unset] [(.ref b28)])) st28 ?_
  replace V_b28 : Arv Z h28 b28 kc28 .char (Int32.ofNat k) [(.int (0 : Int32)), (.int (0 : Int32)), (.int (0 : Int32)), (.int (0 : Int32)), (.int (0 : Int32)), (.int (0 : Int32)), (.int (0 : Int32)), (.int (0 : Int32))] (.int (0 : Int32)) := V_b28.pad (pad_rep [] (.int (0 : Int32)) 8)
  refine Goes.step (T' := T28) (g' := (mkF m 56 #[.val (.int p0), .val (.int p1), .val (.int p2), .val (.long q3), .second, .val (.int (Int32.ofNat k)), .val (.int hp), .val (.int pt), .val (.ref b28), .unset, .unset] [])) (fun _ kz => XS.astore X28.here hx rfl (hb hby at_54) rfl rfl (l' := #[.val (.int p0), .val (.int p1), .val (.int p2), .val (.long q3), .second, .val (.int (Int32.ofNat k)), .val (.int hp), .val (.int pt), .val (.ref b28), .unset, .unset]) rfl kz) ?_
  refine Goes.step (T' := T28) (g' := (mkF m 58 #[.val (.int p0), .val (.int p1), .val (.int p2), .val (.long q3), .second, .val (.int (Int32.ofNat k)), .val (.int hp), .val (.int pt), .val (.ref b28), .unset, .unset] [(.ref b28)])) (fun _ kz => XS.aload X28.here hx rfl (hb hby at_56) rfl rfl kz) ?_
  refine Goes.step (T' := T28) (g' := (mkF m 59 #[.val (.int p0), .val (.int p1), .val (.int p2), .val (.long q3), .second, .val (.int (Int32.ofNat k)), .val (.int hp), .val (.int pt), .val (.ref b28), .unset, .unset] [(.int (0 : Int32)), (.ref b28)])) (fun _ kz => XS.iconst X28.here hx rfl (hb hby at_58) kz) ?_
  refine Goes.step (T' := T28) (g' := (mkF m 60 #[.val (.int p0), .val (.int p1), .val (.int p2), .val (.long q3), .second, .val (.int (Int32.ofNat k)), .val (.int hp), .val (.int pt), .val (.ref b28), .unset, .unset] [(.long q3), (.int (0 : Int32)), (.ref b28)])) (fun _ kz => XS.lloadN X28.here hx rfl (hb hby at_59) rfl  kz) ?_
  refine Goes.step (T' := T28) (g' := (mkF m 61 #[.val (.int p0), .val (.int p1), .val (.int p2), .val (.long q3), .second, .val (.int (Int32.ofNat k)), .val (.int hp), .val (.int pt), .val (.ref b28), .unset, .unset] [(.int (0 : Int32)), (.long q3), (.int (0 : Int32)), (.ref b28)])) (fun _ kz => XS.iconst X28.here hx rfl (hb hby at_60) kz) ?_
  obtain ⟨_, _, ⟨T29, L29, k29, n29⟩, -, X29, ⟨Lc29, hQ29, l29, y29, z29⟩, st29⟩ := Jvm.LawKit.callS X28 hx (y := (⟨"com/example/tariff/tariff/core/decimal/PlainDecimalFractionDigitsPinLaw", "digit", "(JI)C"⟩ : MethodName)) hown (mvT hZ (hw _ (List.mem_of_getElem? (i := 1) rfl))) (mvT hZ (hw _ (List.mem_of_getElem? (i := 2) rfl))) (mvT hZ (hw _ (List.mem_of_getElem? (i := 3) rfl))) (mvT hZ (hw _ (List.mem_of_getElem? (i := 4) rfl))) (by decide) (backOf (W := 2) (rm_digit l Z a0 hw [] q3 (0 : Int32) h28 n0 O0  ) hZ (hw _ (List.mem_of_getElem? (i := 4) rfl)) (hw _ (List.mem_of_getElem? (i := 3) rfl)) (by decide) (by decide)) (g := (mkF m 61 #[.val (.int p0), .val (.int p1), .val (.int p2), .val (.long q3), .second, .val (.int (Int32.ofNat k)), .val (.int hp), .val (.int pt), .val (.ref b28), .unset, .unset] [(.int (0 : Int32)), (.long q3), (.int (0 : Int32)), (.ref b28)])) rfl (by rw [hml]; rfl) (argsL := [(.long q3), (.int (0 : Int32))]) (rest := [(.int (0 : Int32)), (.ref b28)]) (lenOf pd_7 rfl) rfl (by show 2 * 0 + _ ≤ _; exact Nat.le_of_eq rfl) (hb hby at_61) (fun _ _ => ⟨rfl, e28, (by decide : 1 + 0 ≤ _), (by decide : 8 + 0 ≤ _)⟩)
  dsimp only [Pt.U, Pt.locs, Pt.cells, Pt.slots] at X29 l29 y29 z29 st29 hQ29
  subst l29 y29 z29
  obtain ⟨rfl, rfl, e29⟩ := hQ29
  replace N0 := Fr.app N0 (Fr.nil n0)
  refine Goes.step (T' := T29) (g' := (mkF m 64 #[.val (.int p0), .val (.int p1), .val (.int p2), .val (.long q3), .second, .val (.int (Int32.ofNat k)), .val (.int hp), .val (.int pt), .val (.ref b28), .unset, .unset] [(.int (DG q3 (0 : Int32))), (.int (0 : Int32)), (.ref b28)])) st29 ?_
  obtain ⟨cl30, Ar30, q30, Sz30, Nn30, Hs30, Gs30⟩ := (id V_b28 : Arv Z h28 b28 kc28 .char (Int32.ofNat k) [(.int (0 : Int32)), (.int (0 : Int32)), (.int (0 : Int32)), (.int (0 : Int32)), (.int (0 : Int32)), (.int (0 : Int32)), (.int (0 : Int32)), (.int (0 : Int32))] (.int (0 : Int32)))
  obtain ⟨T30, h30, X30, e30, W30, st30⟩ := stC X29 hx hZ e29 Ar30 (j := (0 : Int32)) (inb_of Sz30 ⟨by decide, ((own_lt (a := 0) (by omega) (by omega)).mpr (by omega))⟩) (g := (mkF m 64 #[.val (.int p0), .val (.int p1), .val (.int p2), .val (.long q3), .second, .val (.int (Int32.ofNat k)), .val (.int hp), .val (.int pt), .val (.ref b28), .unset, .unset] [(.int (DG q3 (0 : Int32))), (.int (0 : Int32)), (.ref b28)])) rfl rfl (hb hby at_64)
  replace V_b28 : Arv Z h30 b28 kc28 .char (Int32.ofNat k) [(.int (nar .char (DG q3 (0 : Int32)))), (.int (0 : Int32)), (.int (0 : Int32)), (.int (0 : Int32)), (.int (0 : Int32)), (.int (0 : Int32)), (.int (0 : Int32)), (.int (0 : Int32))] (.int (0 : Int32)) := Arv.set Ar30 q30 Sz30 Nn30 Hs30 Gs30 (fits_nar_char _) W30 0 rfl (Nat.le_of_ble_eq_true rfl)
  replace N0 := Fr.snoc X30 N0 g_b28
  replace O0 := O0.wr W30 g_b28
  replace K0 := K0.wr W30 (Or.inr sz_b28)
  refine Goes.step (T' := T30) (g' := (mkF m 65 #[.val (.int p0), .val (.int p1), .val (.int p2), .val (.long q3), .second, .val (.int (Int32.ofNat k)), .val (.int hp), .val (.int pt), .val (.ref b28), .unset, .unset] [])) st30 ?_
  suffices J2 : ∀  (T31 : State) (h31 : Heap) (locs31 : List Loc) (X31 : Stand p l e room_1 s m #[(.int p0), (.int p1), (.int p2), (.long q3)] below meth c T31 locs31 1 8) (e31 : T31.heap = h31) (N0 : Fr n0 locs31) (K0 : Keep h0 h31 []) (O0 : Old Z n0 h31) (V_b28 : Arv Z h31 b28 kc28 .char (Int32.ofNat k) [(.int (nar .char (DG q3 (0 : Int32)))), (.int (nar .char (DG q3 (1 : Int32)))), (.int (0 : Int32)), (.int (0 : Int32)), (.int (0 : Int32)), (.int (0 : Int32)), (.int (0 : Int32)), (.int (0 : Int32))] (.int (0 : Int32))), Goes p e below (fun o U' => ∃ v L, o = .returned v ∧ Q_law Z p0 p1 p2 q3 h0 n0 v U'.heap L ∧ FrameEnd s o U' L 16 128) T31 (mkF m 80 #[.val (.int p0), .val (.int p1), .val (.int p2), .val (.long q3), .second, .val (.int (Int32.ofNat k)), .val (.int hp), .val (.int pt), .val (.ref b28), .unset, .unset] []) by
    refine Goes.step (T' := T30) (g' := (mkF m 66 #[.val (.int p0), .val (.int p1), .val (.int p2), .val (.long q3), .second, .val (.int (Int32.ofNat k)), .val (.int hp), .val (.int pt), .val (.ref b28), .unset, .unset] [(.int (1 : Int32))])) (fun _ kz => XS.iconst X30.here hx rfl (hb hby at_65) kz) ?_
    refine Goes.step (T' := T30) (g' := (mkF m 68 #[.val (.int p0), .val (.int p1), .val (.int p2), .val (.long q3), .second, .val (.int (Int32.ofNat k)), .val (.int hp), .val (.int pt), .val (.ref b28), .unset, .unset] [(.int (Int32.ofNat k)), (.int (1 : Int32))])) (fun _ kz => XS.iload X30.here hx rfl (hb hby at_66) rfl  kz) ?_
    by_cases hc68_32 : (1 : Int32) < (Int32.ofNat k)
    ·
      refine Goes.step (T' := T30) (g' := (mkF m 71 #[.val (.int p0), .val (.int p1), .val (.int p2), .val (.long q3), .second, .val (.int (Int32.ofNat k)), .val (.int hp), .val (.int pt), .val (.ref b28), .unset, .unset] [])) (fun _ kz => XS.icmpNo X30.here hx rfl (hb hby at_68) rfl (tlt hc68_32).2.1 kz) ?_
      refine Goes.step (T' := T30) (g' := (mkF m 73 #[.val (.int p0), .val (.int p1), .val (.int p2), .val (.long q3), .second, .val (.int (Int32.ofNat k)), .val (.int hp), .val (.int pt), .val (.ref b28), .unset, .unset] [(.ref b28)])) (fun _ kz => XS.aload X30.here hx rfl (hb hby at_71) rfl rfl kz) ?_
      refine Goes.step (T' := T30) (g' := (mkF m 74 #[.val (.int p0), .val (.int p1), .val (.int p2), .val (.long q3), .second, .val (.int (Int32.ofNat k)), .val (.int hp), .val (.int pt), .val (.ref b28), .unset, .unset] [(.int (1 : Int32)), (.ref b28)])) (fun _ kz => XS.iconst X30.here hx rfl (hb hby at_73) kz) ?_
      refine Goes.step (T' := T30) (g' := (mkF m 75 #[.val (.int p0), .val (.int p1), .val (.int p2), .val (.long q3), .second, .val (.int (Int32.ofNat k)), .val (.int hp), .val (.int pt), .val (.ref b28), .unset, .unset] [(.long q3), (.int (1 : Int32)), (.ref b28)])) (fun _ kz => XS.lloadN X30.here hx rfl (hb hby at_74) rfl  kz) ?_
      refine Goes.step (T' := T30) (g' := (mkF m 76 #[.val (.int p0), .val (.int p1), .val (.int p2), .val (.long q3), .second, .val (.int (Int32.ofNat k)), .val (.int hp), .val (.int pt), .val (.ref b28), .unset, .unset] [(.int (1 : Int32)), (.long q3), (.int (1 : Int32)), (.ref b28)])) (fun _ kz => XS.iconst X30.here hx rfl (hb hby at_75) kz) ?_
      obtain ⟨_, _, ⟨T33, L33, k33, n33⟩, -, X33, ⟨Lc33, hQ33, l33, y33, z33⟩, st33⟩ := Jvm.LawKit.callS X30 hx (y := (⟨"com/example/tariff/tariff/core/decimal/PlainDecimalFractionDigitsPinLaw", "digit", "(JI)C"⟩ : MethodName)) hown (mvT hZ (hw _ (List.mem_of_getElem? (i := 1) rfl))) (mvT hZ (hw _ (List.mem_of_getElem? (i := 2) rfl))) (mvT hZ (hw _ (List.mem_of_getElem? (i := 3) rfl))) (mvT hZ (hw _ (List.mem_of_getElem? (i := 4) rfl))) (by decide) (backOf (W := 2) (rm_digit l Z a0 hw [] q3 (1 : Int32) h30 n0 O0  ) hZ (hw _ (List.mem_of_getElem? (i := 4) rfl)) (hw _ (List.mem_of_getElem? (i := 3) rfl)) (by decide) (by decide)) (g := (mkF m 76 #[.val (.int p0), .val (.int p1), .val (.int p2), .val (.long q3), .second, .val (.int (Int32.ofNat k)), .val (.int hp), .val (.int pt), .val (.ref b28), .unset, .unset] [(.int (1 : Int32)), (.long q3), (.int (1 : Int32)), (.ref b28)])) rfl (by rw [hml]; rfl) (argsL := [(.long q3), (.int (1 : Int32))]) (rest := [(.int (1 : Int32)), (.ref b28)]) (lenOf pd_7 rfl) rfl (by show 2 * 0 + _ ≤ _; exact Nat.le_of_eq rfl) (hb hby at_76) (fun _ _ => ⟨rfl, e30, (by decide : 1 + 0 ≤ _), (by decide : 8 + 0 ≤ _)⟩)
      dsimp only [Pt.U, Pt.locs, Pt.cells, Pt.slots] at X33 l33 y33 z33 st33 hQ33
      subst l33 y33 z33
      obtain ⟨rfl, rfl, e33⟩ := hQ33
      replace N0 := Fr.app N0 (Fr.nil n0)
      refine Goes.step (T' := T33) (g' := (mkF m 79 #[.val (.int p0), .val (.int p1), .val (.int p2), .val (.long q3), .second, .val (.int (Int32.ofNat k)), .val (.int hp), .val (.int pt), .val (.ref b28), .unset, .unset] [(.int (DG q3 (1 : Int32))), (.int (1 : Int32)), (.ref b28)])) st33 ?_
      obtain ⟨cl34, Ar34, q34, Sz34, Nn34, Hs34, Gs34⟩ := (id V_b28 : Arv Z h30 b28 kc28 .char (Int32.ofNat k) [(.int (nar .char (DG q3 (0 : Int32)))), (.int (0 : Int32)), (.int (0 : Int32)), (.int (0 : Int32)), (.int (0 : Int32)), (.int (0 : Int32)), (.int (0 : Int32)), (.int (0 : Int32))] (.int (0 : Int32)))
      obtain ⟨T34, h34, X34, e34, W34, st34⟩ := stC X33 hx hZ e33 Ar34 (j := (1 : Int32)) (inb_of Sz34 ⟨by decide, hc68_32⟩) (g := (mkF m 79 #[.val (.int p0), .val (.int p1), .val (.int p2), .val (.long q3), .second, .val (.int (Int32.ofNat k)), .val (.int hp), .val (.int pt), .val (.ref b28), .unset, .unset] [(.int (DG q3 (1 : Int32))), (.int (1 : Int32)), (.ref b28)])) rfl rfl (hb hby at_79)
      replace V_b28 : Arv Z h34 b28 kc28 .char (Int32.ofNat k) [(.int (nar .char (DG q3 (0 : Int32)))), (.int (nar .char (DG q3 (1 : Int32)))), (.int (0 : Int32)), (.int (0 : Int32)), (.int (0 : Int32)), (.int (0 : Int32)), (.int (0 : Int32)), (.int (0 : Int32))] (.int (0 : Int32)) := Arv.set Ar34 q34 Sz34 Nn34 Hs34 Gs34 (fits_nar_char _) W34 1 rfl (Nat.le_of_ble_eq_true rfl)
      replace N0 := Fr.snoc X34 N0 g_b28
      replace O0 := O0.wr W34 g_b28
      replace K0 := K0.wr W34 (Or.inr sz_b28)
      refine Goes.step (T' := T34) (g' := (mkF m 80 #[.val (.int p0), .val (.int p1), .val (.int p2), .val (.long q3), .second, .val (.int (Int32.ofNat k)), .val (.int hp), .val (.int pt), .val (.ref b28), .unset, .unset] [])) st34 ?_
      exact J2  _ _ _ (X34.mono (by decide) (by decide)) e34 N0 K0 O0 V_b28
    ·
      refine Goes.step (T' := T30) (g' := (mkF m 80 #[.val (.int p0), .val (.int p1), .val (.int p2), .val (.long q3), .second, .val (.int (Int32.ofNat k)), .val (.int hp), .val (.int pt), .val (.ref b28), .unset, .unset] [])) (fun _ kz => XS.icmpYes X30.here hx rfl (pc0 := 68) (pc' := 80) rfl (hb hby at_68) rfl (flt hc68_32).2.1 (by decide) (by decide) kz) ?_
      have hge : k ≤ 1 := by have := mt (own_lt (a := 1) (b := k) (by omega) (by omega)).mpr hc68_32; omega
      exact J2  _ _ _ (X30.mono (by decide) (by decide)) e30 N0 K0 O0 (own_skip V_b28 1 (by rw [own_clamp (by omega)]; exact hge) (.int (nar .char (DG q3 (1 : Int32)))))
  clear N0 K0 O0 V_b28
  intro  T31 h31 locs31 X31 e31 N0 K0 O0 V_b28
  suffices J3 : ∀  (T35 : State) (h35 : Heap) (locs35 : List Loc) (X35 : Stand p l e room_1 s m #[(.int p0), (.int p1), (.int p2), (.long q3)] below meth c T35 locs35 1 8) (e35 : T35.heap = h35) (N0 : Fr n0 locs35) (K0 : Keep h0 h35 []) (O0 : Old Z n0 h35) (V_b28 : Arv Z h35 b28 kc28 .char (Int32.ofNat k) [(.int (nar .char (DG q3 (0 : Int32)))), (.int (nar .char (DG q3 (1 : Int32)))), (.int (nar .char (DG q3 (2 : Int32)))), (.int (0 : Int32)), (.int (0 : Int32)), (.int (0 : Int32)), (.int (0 : Int32)), (.int (0 : Int32))] (.int (0 : Int32))), Goes p e below (fun o U' => ∃ v L, o = .returned v ∧ Q_law Z p0 p1 p2 q3 h0 n0 v U'.heap L ∧ FrameEnd s o U' L 16 128) T35 (mkF m 95 #[.val (.int p0), .val (.int p1), .val (.int p2), .val (.long q3), .second, .val (.int (Int32.ofNat k)), .val (.int hp), .val (.int pt), .val (.ref b28), .unset, .unset] []) by
    refine Goes.step (T' := T31) (g' := (mkF m 81 #[.val (.int p0), .val (.int p1), .val (.int p2), .val (.long q3), .second, .val (.int (Int32.ofNat k)), .val (.int hp), .val (.int pt), .val (.ref b28), .unset, .unset] [(.int (2 : Int32))])) (fun _ kz => XS.iconst X31.here hx rfl (hb hby at_80) kz) ?_
    refine Goes.step (T' := T31) (g' := (mkF m 83 #[.val (.int p0), .val (.int p1), .val (.int p2), .val (.long q3), .second, .val (.int (Int32.ofNat k)), .val (.int hp), .val (.int pt), .val (.ref b28), .unset, .unset] [(.int (Int32.ofNat k)), (.int (2 : Int32))])) (fun _ kz => XS.iload X31.here hx rfl (hb hby at_81) rfl  kz) ?_
    by_cases hc83_36 : (2 : Int32) < (Int32.ofNat k)
    ·
      refine Goes.step (T' := T31) (g' := (mkF m 86 #[.val (.int p0), .val (.int p1), .val (.int p2), .val (.long q3), .second, .val (.int (Int32.ofNat k)), .val (.int hp), .val (.int pt), .val (.ref b28), .unset, .unset] [])) (fun _ kz => XS.icmpNo X31.here hx rfl (hb hby at_83) rfl (tlt hc83_36).2.1 kz) ?_
      refine Goes.step (T' := T31) (g' := (mkF m 88 #[.val (.int p0), .val (.int p1), .val (.int p2), .val (.long q3), .second, .val (.int (Int32.ofNat k)), .val (.int hp), .val (.int pt), .val (.ref b28), .unset, .unset] [(.ref b28)])) (fun _ kz => XS.aload X31.here hx rfl (hb hby at_86) rfl rfl kz) ?_
      refine Goes.step (T' := T31) (g' := (mkF m 89 #[.val (.int p0), .val (.int p1), .val (.int p2), .val (.long q3), .second, .val (.int (Int32.ofNat k)), .val (.int hp), .val (.int pt), .val (.ref b28), .unset, .unset] [(.int (2 : Int32)), (.ref b28)])) (fun _ kz => XS.iconst X31.here hx rfl (hb hby at_88) kz) ?_
      refine Goes.step (T' := T31) (g' := (mkF m 90 #[.val (.int p0), .val (.int p1), .val (.int p2), .val (.long q3), .second, .val (.int (Int32.ofNat k)), .val (.int hp), .val (.int pt), .val (.ref b28), .unset, .unset] [(.long q3), (.int (2 : Int32)), (.ref b28)])) (fun _ kz => XS.lloadN X31.here hx rfl (hb hby at_89) rfl  kz) ?_
      refine Goes.step (T' := T31) (g' := (mkF m 91 #[.val (.int p0), .val (.int p1), .val (.int p2), .val (.long q3), .second, .val (.int (Int32.ofNat k)), .val (.int hp), .val (.int pt), .val (.ref b28), .unset, .unset] [(.int (2 : Int32)), (.long q3), (.int (2 : Int32)), (.ref b28)])) (fun _ kz => XS.iconst X31.here hx rfl (hb hby at_90) kz) ?_
      obtain ⟨_, _, ⟨T37, L37, k37, n37⟩, -, X37, ⟨Lc37, hQ37, l37, y37, z37⟩, st37⟩ := Jvm.LawKit.callS X31 hx (y := (⟨"com/example/tariff/tariff/core/decimal/PlainDecimalFractionDigitsPinLaw", "digit", "(JI)C"⟩ : MethodName)) hown (mvT hZ (hw _ (List.mem_of_getElem? (i := 1) rfl))) (mvT hZ (hw _ (List.mem_of_getElem? (i := 2) rfl))) (mvT hZ (hw _ (List.mem_of_getElem? (i := 3) rfl))) (mvT hZ (hw _ (List.mem_of_getElem? (i := 4) rfl))) (by decide) (backOf (W := 2) (rm_digit l Z a0 hw [] q3 (2 : Int32) h31 n0 O0  ) hZ (hw _ (List.mem_of_getElem? (i := 4) rfl)) (hw _ (List.mem_of_getElem? (i := 3) rfl)) (by decide) (by decide)) (g := (mkF m 91 #[.val (.int p0), .val (.int p1), .val (.int p2), .val (.long q3), .second, .val (.int (Int32.ofNat k)), .val (.int hp), .val (.int pt), .val (.ref b28), .unset, .unset] [(.int (2 : Int32)), (.long q3), (.int (2 : Int32)), (.ref b28)])) rfl (by rw [hml]; rfl) (argsL := [(.long q3), (.int (2 : Int32))]) (rest := [(.int (2 : Int32)), (.ref b28)]) (lenOf pd_7 rfl) rfl (by show 2 * 0 + _ ≤ _; exact Nat.le_of_eq rfl) (hb hby at_91) (fun _ _ => ⟨rfl, e31, (by decide : 1 + 0 ≤ _), (by decide : 8 + 0 ≤ _)⟩)
      dsimp only [Pt.U, Pt.locs, Pt.cells, Pt.slots] at X37 l37 y37 z37 st37 hQ37
      subst l37 y37 z37
      obtain ⟨rfl, rfl, e37⟩ := hQ37
      replace N0 := Fr.app N0 (Fr.nil n0)
      refine Goes.step (T' := T37) (g' := (mkF m 94 #[.val (.int p0), .val (.int p1), .val (.int p2), .val (.long q3), .second, .val (.int (Int32.ofNat k)), .val (.int hp), .val (.int pt), .val (.ref b28), .unset, .unset] [(.int (DG q3 (2 : Int32))), (.int (2 : Int32)), (.ref b28)])) st37 ?_
      obtain ⟨cl38, Ar38, q38, Sz38, Nn38, Hs38, Gs38⟩ := (id V_b28 : Arv Z h31 b28 kc28 .char (Int32.ofNat k) [(.int (nar .char (DG q3 (0 : Int32)))), (.int (nar .char (DG q3 (1 : Int32)))), (.int (0 : Int32)), (.int (0 : Int32)), (.int (0 : Int32)), (.int (0 : Int32)), (.int (0 : Int32)), (.int (0 : Int32))] (.int (0 : Int32)))
      obtain ⟨T38, h38, X38, e38, W38, st38⟩ := stC X37 hx hZ e37 Ar38 (j := (2 : Int32)) (inb_of Sz38 ⟨by decide, hc83_36⟩) (g := (mkF m 94 #[.val (.int p0), .val (.int p1), .val (.int p2), .val (.long q3), .second, .val (.int (Int32.ofNat k)), .val (.int hp), .val (.int pt), .val (.ref b28), .unset, .unset] [(.int (DG q3 (2 : Int32))), (.int (2 : Int32)), (.ref b28)])) rfl rfl (hb hby at_94)
      replace V_b28 : Arv Z h38 b28 kc28 .char (Int32.ofNat k) [(.int (nar .char (DG q3 (0 : Int32)))), (.int (nar .char (DG q3 (1 : Int32)))), (.int (nar .char (DG q3 (2 : Int32)))), (.int (0 : Int32)), (.int (0 : Int32)), (.int (0 : Int32)), (.int (0 : Int32)), (.int (0 : Int32))] (.int (0 : Int32)) := Arv.set Ar38 q38 Sz38 Nn38 Hs38 Gs38 (fits_nar_char _) W38 2 rfl (Nat.le_of_ble_eq_true rfl)
      replace N0 := Fr.snoc X38 N0 g_b28
      replace O0 := O0.wr W38 g_b28
      replace K0 := K0.wr W38 (Or.inr sz_b28)
      refine Goes.step (T' := T38) (g' := (mkF m 95 #[.val (.int p0), .val (.int p1), .val (.int p2), .val (.long q3), .second, .val (.int (Int32.ofNat k)), .val (.int hp), .val (.int pt), .val (.ref b28), .unset, .unset] [])) st38 ?_
      exact J3  _ _ _ (X38.mono (by decide) (by decide)) e38 N0 K0 O0 V_b28
    ·
      refine Goes.step (T' := T31) (g' := (mkF m 95 #[.val (.int p0), .val (.int p1), .val (.int p2), .val (.long q3), .second, .val (.int (Int32.ofNat k)), .val (.int hp), .val (.int pt), .val (.ref b28), .unset, .unset] [])) (fun _ kz => XS.icmpYes X31.here hx rfl (pc0 := 83) (pc' := 95) rfl (hb hby at_83) rfl (flt hc83_36).2.1 (by decide) (by decide) kz) ?_
      have hge : k ≤ 2 := by have := mt (own_lt (a := 2) (b := k) (by omega) (by omega)).mpr hc83_36; omega
      exact J3  _ _ _ (X31.mono (by decide) (by decide)) e31 N0 K0 O0 (own_skip V_b28 2 (by rw [own_clamp (by omega)]; exact hge) (.int (nar .char (DG q3 (2 : Int32)))))
  clear N0 K0 O0 V_b28
  intro  T35 h35 locs35 X35 e35 N0 K0 O0 V_b28
  suffices J4 : ∀  (T39 : State) (h39 : Heap) (locs39 : List Loc) (X39 : Stand p l e room_1 s m #[(.int p0), (.int p1), (.int p2), (.long q3)] below meth c T39 locs39 1 8) (e39 : T39.heap = h39) (N0 : Fr n0 locs39) (K0 : Keep h0 h39 []) (O0 : Old Z n0 h39) (V_b28 : Arv Z h39 b28 kc28 .char (Int32.ofNat k) [(.int (nar .char (DG q3 (0 : Int32)))), (.int (nar .char (DG q3 (1 : Int32)))), (.int (nar .char (DG q3 (2 : Int32)))), (.int (nar .char (DG q3 (3 : Int32)))), (.int (0 : Int32)), (.int (0 : Int32)), (.int (0 : Int32)), (.int (0 : Int32))] (.int (0 : Int32))), Goes p e below (fun o U' => ∃ v L, o = .returned v ∧ Q_law Z p0 p1 p2 q3 h0 n0 v U'.heap L ∧ FrameEnd s o U' L 16 128) T39 (mkF m 110 #[.val (.int p0), .val (.int p1), .val (.int p2), .val (.long q3), .second, .val (.int (Int32.ofNat k)), .val (.int hp), .val (.int pt), .val (.ref b28), .unset, .unset] []) by
    refine Goes.step (T' := T35) (g' := (mkF m 96 #[.val (.int p0), .val (.int p1), .val (.int p2), .val (.long q3), .second, .val (.int (Int32.ofNat k)), .val (.int hp), .val (.int pt), .val (.ref b28), .unset, .unset] [(.int (3 : Int32))])) (fun _ kz => XS.iconst X35.here hx rfl (hb hby at_95) kz) ?_
    refine Goes.step (T' := T35) (g' := (mkF m 98 #[.val (.int p0), .val (.int p1), .val (.int p2), .val (.long q3), .second, .val (.int (Int32.ofNat k)), .val (.int hp), .val (.int pt), .val (.ref b28), .unset, .unset] [(.int (Int32.ofNat k)), (.int (3 : Int32))])) (fun _ kz => XS.iload X35.here hx rfl (hb hby at_96) rfl  kz) ?_
    by_cases hc98_40 : (3 : Int32) < (Int32.ofNat k)
    ·
      refine Goes.step (T' := T35) (g' := (mkF m 101 #[.val (.int p0), .val (.int p1), .val (.int p2), .val (.long q3), .second, .val (.int (Int32.ofNat k)), .val (.int hp), .val (.int pt), .val (.ref b28), .unset, .unset] [])) (fun _ kz => XS.icmpNo X35.here hx rfl (hb hby at_98) rfl (tlt hc98_40).2.1 kz) ?_
      refine Goes.step (T' := T35) (g' := (mkF m 103 #[.val (.int p0), .val (.int p1), .val (.int p2), .val (.long q3), .second, .val (.int (Int32.ofNat k)), .val (.int hp), .val (.int pt), .val (.ref b28), .unset, .unset] [(.ref b28)])) (fun _ kz => XS.aload X35.here hx rfl (hb hby at_101) rfl rfl kz) ?_
      refine Goes.step (T' := T35) (g' := (mkF m 104 #[.val (.int p0), .val (.int p1), .val (.int p2), .val (.long q3), .second, .val (.int (Int32.ofNat k)), .val (.int hp), .val (.int pt), .val (.ref b28), .unset, .unset] [(.int (3 : Int32)), (.ref b28)])) (fun _ kz => XS.iconst X35.here hx rfl (hb hby at_103) kz) ?_
      refine Goes.step (T' := T35) (g' := (mkF m 105 #[.val (.int p0), .val (.int p1), .val (.int p2), .val (.long q3), .second, .val (.int (Int32.ofNat k)), .val (.int hp), .val (.int pt), .val (.ref b28), .unset, .unset] [(.long q3), (.int (3 : Int32)), (.ref b28)])) (fun _ kz => XS.lloadN X35.here hx rfl (hb hby at_104) rfl  kz) ?_
      refine Goes.step (T' := T35) (g' := (mkF m 106 #[.val (.int p0), .val (.int p1), .val (.int p2), .val (.long q3), .second, .val (.int (Int32.ofNat k)), .val (.int hp), .val (.int pt), .val (.ref b28), .unset, .unset] [(.int (3 : Int32)), (.long q3), (.int (3 : Int32)), (.ref b28)])) (fun _ kz => XS.iconst X35.here hx rfl (hb hby at_105) kz) ?_
      obtain ⟨_, _, ⟨T41, L41, k41, n41⟩, -, X41, ⟨Lc41, hQ41, l41, y41, z41⟩, st41⟩ := Jvm.LawKit.callS X35 hx (y := (⟨"com/example/tariff/tariff/core/decimal/PlainDecimalFractionDigitsPinLaw", "digit", "(JI)C"⟩ : MethodName)) hown (mvT hZ (hw _ (List.mem_of_getElem? (i := 1) rfl))) (mvT hZ (hw _ (List.mem_of_getElem? (i := 2) rfl))) (mvT hZ (hw _ (List.mem_of_getElem? (i := 3) rfl))) (mvT hZ (hw _ (List.mem_of_getElem? (i := 4) rfl))) (by decide) (backOf (W := 2) (rm_digit l Z a0 hw [] q3 (3 : Int32) h35 n0 O0  ) hZ (hw _ (List.mem_of_getElem? (i := 4) rfl)) (hw _ (List.mem_of_getElem? (i := 3) rfl)) (by decide) (by decide)) (g := (mkF m 106 #[.val (.int p0), .val (.int p1), .val (.int p2), .val (.long q3), .second, .val (.int (Int32.ofNat k)), .val (.int hp), .val (.int pt), .val (.ref b28), .unset, .unset] [(.int (3 : Int32)), (.long q3), (.int (3 : Int32)), (.ref b28)])) rfl (by rw [hml]; rfl) (argsL := [(.long q3), (.int (3 : Int32))]) (rest := [(.int (3 : Int32)), (.ref b28)]) (lenOf pd_7 rfl) rfl (by show 2 * 0 + _ ≤ _; exact Nat.le_of_eq rfl) (hb hby at_106) (fun _ _ => ⟨rfl, e35, (by decide : 1 + 0 ≤ _), (by decide : 8 + 0 ≤ _)⟩)
      dsimp only [Pt.U, Pt.locs, Pt.cells, Pt.slots] at X41 l41 y41 z41 st41 hQ41
      subst l41 y41 z41
      obtain ⟨rfl, rfl, e41⟩ := hQ41
      replace N0 := Fr.app N0 (Fr.nil n0)
      refine Goes.step (T' := T41) (g' := (mkF m 109 #[.val (.int p0), .val (.int p1), .val (.int p2), .val (.long q3), .second, .val (.int (Int32.ofNat k)), .val (.int hp), .val (.int pt), .val (.ref b28), .unset, .unset] [(.int (DG q3 (3 : Int32))), (.int (3 : Int32)), (.ref b28)])) st41 ?_
      obtain ⟨cl42, Ar42, q42, Sz42, Nn42, Hs42, Gs42⟩ := (id V_b28 : Arv Z h35 b28 kc28 .char (Int32.ofNat k) [(.int (nar .char (DG q3 (0 : Int32)))), (.int (nar .char (DG q3 (1 : Int32)))), (.int (nar .char (DG q3 (2 : Int32)))), (.int (0 : Int32)), (.int (0 : Int32)), (.int (0 : Int32)), (.int (0 : Int32)), (.int (0 : Int32))] (.int (0 : Int32)))
      obtain ⟨T42, h42, X42, e42, W42, st42⟩ := stC X41 hx hZ e41 Ar42 (j := (3 : Int32)) (inb_of Sz42 ⟨by decide, hc98_40⟩) (g := (mkF m 109 #[.val (.int p0), .val (.int p1), .val (.int p2), .val (.long q3), .second, .val (.int (Int32.ofNat k)), .val (.int hp), .val (.int pt), .val (.ref b28), .unset, .unset] [(.int (DG q3 (3 : Int32))), (.int (3 : Int32)), (.ref b28)])) rfl rfl (hb hby at_109)
      replace V_b28 : Arv Z h42 b28 kc28 .char (Int32.ofNat k) [(.int (nar .char (DG q3 (0 : Int32)))), (.int (nar .char (DG q3 (1 : Int32)))), (.int (nar .char (DG q3 (2 : Int32)))), (.int (nar .char (DG q3 (3 : Int32)))), (.int (0 : Int32)), (.int (0 : Int32)), (.int (0 : Int32)), (.int (0 : Int32))] (.int (0 : Int32)) := Arv.set Ar42 q42 Sz42 Nn42 Hs42 Gs42 (fits_nar_char _) W42 3 rfl (Nat.le_of_ble_eq_true rfl)
      replace N0 := Fr.snoc X42 N0 g_b28
      replace O0 := O0.wr W42 g_b28
      replace K0 := K0.wr W42 (Or.inr sz_b28)
      refine Goes.step (T' := T42) (g' := (mkF m 110 #[.val (.int p0), .val (.int p1), .val (.int p2), .val (.long q3), .second, .val (.int (Int32.ofNat k)), .val (.int hp), .val (.int pt), .val (.ref b28), .unset, .unset] [])) st42 ?_
      exact J4  _ _ _ (X42.mono (by decide) (by decide)) e42 N0 K0 O0 V_b28
    ·
      refine Goes.step (T' := T35) (g' := (mkF m 110 #[.val (.int p0), .val (.int p1), .val (.int p2), .val (.long q3), .second, .val (.int (Int32.ofNat k)), .val (.int hp), .val (.int pt), .val (.ref b28), .unset, .unset] [])) (fun _ kz => XS.icmpYes X35.here hx rfl (pc0 := 98) (pc' := 110) rfl (hb hby at_98) rfl (flt hc98_40).2.1 (by decide) (by decide) kz) ?_
      have hge : k ≤ 3 := by have := mt (own_lt (a := 3) (b := k) (by omega) (by omega)).mpr hc98_40; omega
      exact J4  _ _ _ (X35.mono (by decide) (by decide)) e35 N0 K0 O0 (own_skip V_b28 3 (by rw [own_clamp (by omega)]; exact hge) (.int (nar .char (DG q3 (3 : Int32)))))
  clear N0 K0 O0 V_b28
  intro  T39 h39 locs39 X39 e39 N0 K0 O0 V_b28
  suffices J5 : ∀  (T43 : State) (h43 : Heap) (locs43 : List Loc) (X43 : Stand p l e room_1 s m #[(.int p0), (.int p1), (.int p2), (.long q3)] below meth c T43 locs43 1 8) (e43 : T43.heap = h43) (N0 : Fr n0 locs43) (K0 : Keep h0 h43 []) (O0 : Old Z n0 h43) (V_b28 : Arv Z h43 b28 kc28 .char (Int32.ofNat k) [(.int (nar .char (DG q3 (0 : Int32)))), (.int (nar .char (DG q3 (1 : Int32)))), (.int (nar .char (DG q3 (2 : Int32)))), (.int (nar .char (DG q3 (3 : Int32)))), (.int (nar .char (DG q3 (4 : Int32)))), (.int (0 : Int32)), (.int (0 : Int32)), (.int (0 : Int32))] (.int (0 : Int32))), Goes p e below (fun o U' => ∃ v L, o = .returned v ∧ Q_law Z p0 p1 p2 q3 h0 n0 v U'.heap L ∧ FrameEnd s o U' L 16 128) T43 (mkF m 125 #[.val (.int p0), .val (.int p1), .val (.int p2), .val (.long q3), .second, .val (.int (Int32.ofNat k)), .val (.int hp), .val (.int pt), .val (.ref b28), .unset, .unset] []) by
    refine Goes.step (T' := T39) (g' := (mkF m 111 #[.val (.int p0), .val (.int p1), .val (.int p2), .val (.long q3), .second, .val (.int (Int32.ofNat k)), .val (.int hp), .val (.int pt), .val (.ref b28), .unset, .unset] [(.int (4 : Int32))])) (fun _ kz => XS.iconst X39.here hx rfl (hb hby at_110) kz) ?_
    refine Goes.step (T' := T39) (g' := (mkF m 113 #[.val (.int p0), .val (.int p1), .val (.int p2), .val (.long q3), .second, .val (.int (Int32.ofNat k)), .val (.int hp), .val (.int pt), .val (.ref b28), .unset, .unset] [(.int (Int32.ofNat k)), (.int (4 : Int32))])) (fun _ kz => XS.iload X39.here hx rfl (hb hby at_111) rfl  kz) ?_
    by_cases hc113_44 : (4 : Int32) < (Int32.ofNat k)
    ·
      refine Goes.step (T' := T39) (g' := (mkF m 116 #[.val (.int p0), .val (.int p1), .val (.int p2), .val (.long q3), .second, .val (.int (Int32.ofNat k)), .val (.int hp), .val (.int pt), .val (.ref b28), .unset, .unset] [])) (fun _ kz => XS.icmpNo X39.here hx rfl (hb hby at_113) rfl (tlt hc113_44).2.1 kz) ?_
      refine Goes.step (T' := T39) (g' := (mkF m 118 #[.val (.int p0), .val (.int p1), .val (.int p2), .val (.long q3), .second, .val (.int (Int32.ofNat k)), .val (.int hp), .val (.int pt), .val (.ref b28), .unset, .unset] [(.ref b28)])) (fun _ kz => XS.aload X39.here hx rfl (hb hby at_116) rfl rfl kz) ?_
      refine Goes.step (T' := T39) (g' := (mkF m 119 #[.val (.int p0), .val (.int p1), .val (.int p2), .val (.long q3), .second, .val (.int (Int32.ofNat k)), .val (.int hp), .val (.int pt), .val (.ref b28), .unset, .unset] [(.int (4 : Int32)), (.ref b28)])) (fun _ kz => XS.iconst X39.here hx rfl (hb hby at_118) kz) ?_
      refine Goes.step (T' := T39) (g' := (mkF m 120 #[.val (.int p0), .val (.int p1), .val (.int p2), .val (.long q3), .second, .val (.int (Int32.ofNat k)), .val (.int hp), .val (.int pt), .val (.ref b28), .unset, .unset] [(.long q3), (.int (4 : Int32)), (.ref b28)])) (fun _ kz => XS.lloadN X39.here hx rfl (hb hby at_119) rfl  kz) ?_
      refine Goes.step (T' := T39) (g' := (mkF m 121 #[.val (.int p0), .val (.int p1), .val (.int p2), .val (.long q3), .second, .val (.int (Int32.ofNat k)), .val (.int hp), .val (.int pt), .val (.ref b28), .unset, .unset] [(.int (4 : Int32)), (.long q3), (.int (4 : Int32)), (.ref b28)])) (fun _ kz => XS.iconst X39.here hx rfl (hb hby at_120) kz) ?_
      obtain ⟨_, _, ⟨T45, L45, k45, n45⟩, -, X45, ⟨Lc45, hQ45, l45, y45, z45⟩, st45⟩ := Jvm.LawKit.callS X39 hx (y := (⟨"com/example/tariff/tariff/core/decimal/PlainDecimalFractionDigitsPinLaw", "digit", "(JI)C"⟩ : MethodName)) hown (mvT hZ (hw _ (List.mem_of_getElem? (i := 1) rfl))) (mvT hZ (hw _ (List.mem_of_getElem? (i := 2) rfl))) (mvT hZ (hw _ (List.mem_of_getElem? (i := 3) rfl))) (mvT hZ (hw _ (List.mem_of_getElem? (i := 4) rfl))) (by decide) (backOf (W := 2) (rm_digit l Z a0 hw [] q3 (4 : Int32) h39 n0 O0  ) hZ (hw _ (List.mem_of_getElem? (i := 4) rfl)) (hw _ (List.mem_of_getElem? (i := 3) rfl)) (by decide) (by decide)) (g := (mkF m 121 #[.val (.int p0), .val (.int p1), .val (.int p2), .val (.long q3), .second, .val (.int (Int32.ofNat k)), .val (.int hp), .val (.int pt), .val (.ref b28), .unset, .unset] [(.int (4 : Int32)), (.long q3), (.int (4 : Int32)), (.ref b28)])) rfl (by rw [hml]; rfl) (argsL := [(.long q3), (.int (4 : Int32))]) (rest := [(.int (4 : Int32)), (.ref b28)]) (lenOf pd_7 rfl) rfl (by show 2 * 0 + _ ≤ _; exact Nat.le_of_eq rfl) (hb hby at_121) (fun _ _ => ⟨rfl, e39, (by decide : 1 + 0 ≤ _), (by decide : 8 + 0 ≤ _)⟩)
      dsimp only [Pt.U, Pt.locs, Pt.cells, Pt.slots] at X45 l45 y45 z45 st45 hQ45
      subst l45 y45 z45
      obtain ⟨rfl, rfl, e45⟩ := hQ45
      replace N0 := Fr.app N0 (Fr.nil n0)
      refine Goes.step (T' := T45) (g' := (mkF m 124 #[.val (.int p0), .val (.int p1), .val (.int p2), .val (.long q3), .second, .val (.int (Int32.ofNat k)), .val (.int hp), .val (.int pt), .val (.ref b28), .unset, .unset] [(.int (DG q3 (4 : Int32))), (.int (4 : Int32)), (.ref b28)])) st45 ?_
      obtain ⟨cl46, Ar46, q46, Sz46, Nn46, Hs46, Gs46⟩ := (id V_b28 : Arv Z h39 b28 kc28 .char (Int32.ofNat k) [(.int (nar .char (DG q3 (0 : Int32)))), (.int (nar .char (DG q3 (1 : Int32)))), (.int (nar .char (DG q3 (2 : Int32)))), (.int (nar .char (DG q3 (3 : Int32)))), (.int (0 : Int32)), (.int (0 : Int32)), (.int (0 : Int32)), (.int (0 : Int32))] (.int (0 : Int32)))
      obtain ⟨T46, h46, X46, e46, W46, st46⟩ := stC X45 hx hZ e45 Ar46 (j := (4 : Int32)) (inb_of Sz46 ⟨by decide, hc113_44⟩) (g := (mkF m 124 #[.val (.int p0), .val (.int p1), .val (.int p2), .val (.long q3), .second, .val (.int (Int32.ofNat k)), .val (.int hp), .val (.int pt), .val (.ref b28), .unset, .unset] [(.int (DG q3 (4 : Int32))), (.int (4 : Int32)), (.ref b28)])) rfl rfl (hb hby at_124)
      replace V_b28 : Arv Z h46 b28 kc28 .char (Int32.ofNat k) [(.int (nar .char (DG q3 (0 : Int32)))), (.int (nar .char (DG q3 (1 : Int32)))), (.int (nar .char (DG q3 (2 : Int32)))), (.int (nar .char (DG q3 (3 : Int32)))), (.int (nar .char (DG q3 (4 : Int32)))), (.int (0 : Int32)), (.int (0 : Int32)), (.int (0 : Int32))] (.int (0 : Int32)) := Arv.set Ar46 q46 Sz46 Nn46 Hs46 Gs46 (fits_nar_char _) W46 4 rfl (Nat.le_of_ble_eq_true rfl)
      replace N0 := Fr.snoc X46 N0 g_b28
      replace O0 := O0.wr W46 g_b28
      replace K0 := K0.wr W46 (Or.inr sz_b28)
      refine Goes.step (T' := T46) (g' := (mkF m 125 #[.val (.int p0), .val (.int p1), .val (.int p2), .val (.long q3), .second, .val (.int (Int32.ofNat k)), .val (.int hp), .val (.int pt), .val (.ref b28), .unset, .unset] [])) st46 ?_
      exact J5  _ _ _ (X46.mono (by decide) (by decide)) e46 N0 K0 O0 V_b28
    ·
      refine Goes.step (T' := T39) (g' := (mkF m 125 #[.val (.int p0), .val (.int p1), .val (.int p2), .val (.long q3), .second, .val (.int (Int32.ofNat k)), .val (.int hp), .val (.int pt), .val (.ref b28), .unset, .unset] [])) (fun _ kz => XS.icmpYes X39.here hx rfl (pc0 := 113) (pc' := 125) rfl (hb hby at_113) rfl (flt hc113_44).2.1 (by decide) (by decide) kz) ?_
      have hge : k ≤ 4 := by have := mt (own_lt (a := 4) (b := k) (by omega) (by omega)).mpr hc113_44; omega
      exact J5  _ _ _ (X39.mono (by decide) (by decide)) e39 N0 K0 O0 (own_skip V_b28 4 (by rw [own_clamp (by omega)]; exact hge) (.int (nar .char (DG q3 (4 : Int32)))))
  clear N0 K0 O0 V_b28
  intro  T43 h43 locs43 X43 e43 N0 K0 O0 V_b28
  suffices J6 : ∀  (T47 : State) (h47 : Heap) (locs47 : List Loc) (X47 : Stand p l e room_1 s m #[(.int p0), (.int p1), (.int p2), (.long q3)] below meth c T47 locs47 1 8) (e47 : T47.heap = h47) (N0 : Fr n0 locs47) (K0 : Keep h0 h47 []) (O0 : Old Z n0 h47) (V_b28 : Arv Z h47 b28 kc28 .char (Int32.ofNat k) [(.int (nar .char (DG q3 (0 : Int32)))), (.int (nar .char (DG q3 (1 : Int32)))), (.int (nar .char (DG q3 (2 : Int32)))), (.int (nar .char (DG q3 (3 : Int32)))), (.int (nar .char (DG q3 (4 : Int32)))), (.int (nar .char (DG q3 (5 : Int32)))), (.int (0 : Int32)), (.int (0 : Int32))] (.int (0 : Int32))), Goes p e below (fun o U' => ∃ v L, o = .returned v ∧ Q_law Z p0 p1 p2 q3 h0 n0 v U'.heap L ∧ FrameEnd s o U' L 16 128) T47 (mkF m 140 #[.val (.int p0), .val (.int p1), .val (.int p2), .val (.long q3), .second, .val (.int (Int32.ofNat k)), .val (.int hp), .val (.int pt), .val (.ref b28), .unset, .unset] []) by
    refine Goes.step (T' := T43) (g' := (mkF m 126 #[.val (.int p0), .val (.int p1), .val (.int p2), .val (.long q3), .second, .val (.int (Int32.ofNat k)), .val (.int hp), .val (.int pt), .val (.ref b28), .unset, .unset] [(.int (5 : Int32))])) (fun _ kz => XS.iconst X43.here hx rfl (hb hby at_125) kz) ?_
    refine Goes.step (T' := T43) (g' := (mkF m 128 #[.val (.int p0), .val (.int p1), .val (.int p2), .val (.long q3), .second, .val (.int (Int32.ofNat k)), .val (.int hp), .val (.int pt), .val (.ref b28), .unset, .unset] [(.int (Int32.ofNat k)), (.int (5 : Int32))])) (fun _ kz => XS.iload X43.here hx rfl (hb hby at_126) rfl  kz) ?_
    by_cases hc128_48 : (5 : Int32) < (Int32.ofNat k)
    ·
      refine Goes.step (T' := T43) (g' := (mkF m 131 #[.val (.int p0), .val (.int p1), .val (.int p2), .val (.long q3), .second, .val (.int (Int32.ofNat k)), .val (.int hp), .val (.int pt), .val (.ref b28), .unset, .unset] [])) (fun _ kz => XS.icmpNo X43.here hx rfl (hb hby at_128) rfl (tlt hc128_48).2.1 kz) ?_
      refine Goes.step (T' := T43) (g' := (mkF m 133 #[.val (.int p0), .val (.int p1), .val (.int p2), .val (.long q3), .second, .val (.int (Int32.ofNat k)), .val (.int hp), .val (.int pt), .val (.ref b28), .unset, .unset] [(.ref b28)])) (fun _ kz => XS.aload X43.here hx rfl (hb hby at_131) rfl rfl kz) ?_
      refine Goes.step (T' := T43) (g' := (mkF m 134 #[.val (.int p0), .val (.int p1), .val (.int p2), .val (.long q3), .second, .val (.int (Int32.ofNat k)), .val (.int hp), .val (.int pt), .val (.ref b28), .unset, .unset] [(.int (5 : Int32)), (.ref b28)])) (fun _ kz => XS.iconst X43.here hx rfl (hb hby at_133) kz) ?_
      refine Goes.step (T' := T43) (g' := (mkF m 135 #[.val (.int p0), .val (.int p1), .val (.int p2), .val (.long q3), .second, .val (.int (Int32.ofNat k)), .val (.int hp), .val (.int pt), .val (.ref b28), .unset, .unset] [(.long q3), (.int (5 : Int32)), (.ref b28)])) (fun _ kz => XS.lloadN X43.here hx rfl (hb hby at_134) rfl  kz) ?_
      refine Goes.step (T' := T43) (g' := (mkF m 136 #[.val (.int p0), .val (.int p1), .val (.int p2), .val (.long q3), .second, .val (.int (Int32.ofNat k)), .val (.int hp), .val (.int pt), .val (.ref b28), .unset, .unset] [(.int (5 : Int32)), (.long q3), (.int (5 : Int32)), (.ref b28)])) (fun _ kz => XS.iconst X43.here hx rfl (hb hby at_135) kz) ?_
      obtain ⟨_, _, ⟨T49, L49, k49, n49⟩, -, X49, ⟨Lc49, hQ49, l49, y49, z49⟩, st49⟩ := Jvm.LawKit.callS X43 hx (y := (⟨"com/example/tariff/tariff/core/decimal/PlainDecimalFractionDigitsPinLaw", "digit", "(JI)C"⟩ : MethodName)) hown (mvT hZ (hw _ (List.mem_of_getElem? (i := 1) rfl))) (mvT hZ (hw _ (List.mem_of_getElem? (i := 2) rfl))) (mvT hZ (hw _ (List.mem_of_getElem? (i := 3) rfl))) (mvT hZ (hw _ (List.mem_of_getElem? (i := 4) rfl))) (by decide) (backOf (W := 2) (rm_digit l Z a0 hw [] q3 (5 : Int32) h43 n0 O0  ) hZ (hw _ (List.mem_of_getElem? (i := 4) rfl)) (hw _ (List.mem_of_getElem? (i := 3) rfl)) (by decide) (by decide)) (g := (mkF m 136 #[.val (.int p0), .val (.int p1), .val (.int p2), .val (.long q3), .second, .val (.int (Int32.ofNat k)), .val (.int hp), .val (.int pt), .val (.ref b28), .unset, .unset] [(.int (5 : Int32)), (.long q3), (.int (5 : Int32)), (.ref b28)])) rfl (by rw [hml]; rfl) (argsL := [(.long q3), (.int (5 : Int32))]) (rest := [(.int (5 : Int32)), (.ref b28)]) (lenOf pd_7 rfl) rfl (by show 2 * 0 + _ ≤ _; exact Nat.le_of_eq rfl) (hb hby at_136) (fun _ _ => ⟨rfl, e43, (by decide : 1 + 0 ≤ _), (by decide : 8 + 0 ≤ _)⟩)
      dsimp only [Pt.U, Pt.locs, Pt.cells, Pt.slots] at X49 l49 y49 z49 st49 hQ49
      subst l49 y49 z49
      obtain ⟨rfl, rfl, e49⟩ := hQ49
      replace N0 := Fr.app N0 (Fr.nil n0)
      refine Goes.step (T' := T49) (g' := (mkF m 139 #[.val (.int p0), .val (.int p1), .val (.int p2), .val (.long q3), .second, .val (.int (Int32.ofNat k)), .val (.int hp), .val (.int pt), .val (.ref b28), .unset, .unset] [(.int (DG q3 (5 : Int32))), (.int (5 : Int32)), (.ref b28)])) st49 ?_
      obtain ⟨cl50, Ar50, q50, Sz50, Nn50, Hs50, Gs50⟩ := (id V_b28 : Arv Z h43 b28 kc28 .char (Int32.ofNat k) [(.int (nar .char (DG q3 (0 : Int32)))), (.int (nar .char (DG q3 (1 : Int32)))), (.int (nar .char (DG q3 (2 : Int32)))), (.int (nar .char (DG q3 (3 : Int32)))), (.int (nar .char (DG q3 (4 : Int32)))), (.int (0 : Int32)), (.int (0 : Int32)), (.int (0 : Int32))] (.int (0 : Int32)))
      obtain ⟨T50, h50, X50, e50, W50, st50⟩ := stC X49 hx hZ e49 Ar50 (j := (5 : Int32)) (inb_of Sz50 ⟨by decide, hc128_48⟩) (g := (mkF m 139 #[.val (.int p0), .val (.int p1), .val (.int p2), .val (.long q3), .second, .val (.int (Int32.ofNat k)), .val (.int hp), .val (.int pt), .val (.ref b28), .unset, .unset] [(.int (DG q3 (5 : Int32))), (.int (5 : Int32)), (.ref b28)])) rfl rfl (hb hby at_139)
      replace V_b28 : Arv Z h50 b28 kc28 .char (Int32.ofNat k) [(.int (nar .char (DG q3 (0 : Int32)))), (.int (nar .char (DG q3 (1 : Int32)))), (.int (nar .char (DG q3 (2 : Int32)))), (.int (nar .char (DG q3 (3 : Int32)))), (.int (nar .char (DG q3 (4 : Int32)))), (.int (nar .char (DG q3 (5 : Int32)))), (.int (0 : Int32)), (.int (0 : Int32))] (.int (0 : Int32)) := Arv.set Ar50 q50 Sz50 Nn50 Hs50 Gs50 (fits_nar_char _) W50 5 rfl (Nat.le_of_ble_eq_true rfl)
      replace N0 := Fr.snoc X50 N0 g_b28
      replace O0 := O0.wr W50 g_b28
      replace K0 := K0.wr W50 (Or.inr sz_b28)
      refine Goes.step (T' := T50) (g' := (mkF m 140 #[.val (.int p0), .val (.int p1), .val (.int p2), .val (.long q3), .second, .val (.int (Int32.ofNat k)), .val (.int hp), .val (.int pt), .val (.ref b28), .unset, .unset] [])) st50 ?_
      exact J6  _ _ _ (X50.mono (by decide) (by decide)) e50 N0 K0 O0 V_b28
    ·
      refine Goes.step (T' := T43) (g' := (mkF m 140 #[.val (.int p0), .val (.int p1), .val (.int p2), .val (.long q3), .second, .val (.int (Int32.ofNat k)), .val (.int hp), .val (.int pt), .val (.ref b28), .unset, .unset] [])) (fun _ kz => XS.icmpYes X43.here hx rfl (pc0 := 128) (pc' := 140) rfl (hb hby at_128) rfl (flt hc128_48).2.1 (by decide) (by decide) kz) ?_
      have hge : k ≤ 5 := by have := mt (own_lt (a := 5) (b := k) (by omega) (by omega)).mpr hc128_48; omega
      exact J6  _ _ _ (X43.mono (by decide) (by decide)) e43 N0 K0 O0 (own_skip V_b28 5 (by rw [own_clamp (by omega)]; exact hge) (.int (nar .char (DG q3 (5 : Int32)))))
  clear N0 K0 O0 V_b28
  intro  T47 h47 locs47 X47 e47 N0 K0 O0 V_b28
  suffices J7 : ∀  (T51 : State) (h51 : Heap) (locs51 : List Loc) (X51 : Stand p l e room_1 s m #[(.int p0), (.int p1), (.int p2), (.long q3)] below meth c T51 locs51 1 8) (e51 : T51.heap = h51) (N0 : Fr n0 locs51) (K0 : Keep h0 h51 []) (O0 : Old Z n0 h51) (V_b28 : Arv Z h51 b28 kc28 .char (Int32.ofNat k) [(.int (nar .char (DG q3 (0 : Int32)))), (.int (nar .char (DG q3 (1 : Int32)))), (.int (nar .char (DG q3 (2 : Int32)))), (.int (nar .char (DG q3 (3 : Int32)))), (.int (nar .char (DG q3 (4 : Int32)))), (.int (nar .char (DG q3 (5 : Int32)))), (.int (nar .char (DG q3 (6 : Int32)))), (.int (0 : Int32))] (.int (0 : Int32))), Goes p e below (fun o U' => ∃ v L, o = .returned v ∧ Q_law Z p0 p1 p2 q3 h0 n0 v U'.heap L ∧ FrameEnd s o U' L 16 128) T51 (mkF m 158 #[.val (.int p0), .val (.int p1), .val (.int p2), .val (.long q3), .second, .val (.int (Int32.ofNat k)), .val (.int hp), .val (.int pt), .val (.ref b28), .unset, .unset] []) by
    refine Goes.step (T' := T47) (g' := (mkF m 142 #[.val (.int p0), .val (.int p1), .val (.int p2), .val (.long q3), .second, .val (.int (Int32.ofNat k)), .val (.int hp), .val (.int pt), .val (.ref b28), .unset, .unset] [(.int (6 : Int32))])) (fun _ kz => XS.bipush X47.here hx rfl (hb hby at_140) kz) ?_
    refine Goes.step (T' := T47) (g' := (mkF m 144 #[.val (.int p0), .val (.int p1), .val (.int p2), .val (.long q3), .second, .val (.int (Int32.ofNat k)), .val (.int hp), .val (.int pt), .val (.ref b28), .unset, .unset] [(.int (Int32.ofNat k)), (.int (6 : Int32))])) (fun _ kz => XS.iload X47.here hx rfl (hb hby at_142) rfl  kz) ?_
    by_cases hc144_52 : (6 : Int32) < (Int32.ofNat k)
    ·
      refine Goes.step (T' := T47) (g' := (mkF m 147 #[.val (.int p0), .val (.int p1), .val (.int p2), .val (.long q3), .second, .val (.int (Int32.ofNat k)), .val (.int hp), .val (.int pt), .val (.ref b28), .unset, .unset] [])) (fun _ kz => XS.icmpNo X47.here hx rfl (hb hby at_144) rfl (tlt hc144_52).2.1 kz) ?_
      refine Goes.step (T' := T47) (g' := (mkF m 149 #[.val (.int p0), .val (.int p1), .val (.int p2), .val (.long q3), .second, .val (.int (Int32.ofNat k)), .val (.int hp), .val (.int pt), .val (.ref b28), .unset, .unset] [(.ref b28)])) (fun _ kz => XS.aload X47.here hx rfl (hb hby at_147) rfl rfl kz) ?_
      refine Goes.step (T' := T47) (g' := (mkF m 151 #[.val (.int p0), .val (.int p1), .val (.int p2), .val (.long q3), .second, .val (.int (Int32.ofNat k)), .val (.int hp), .val (.int pt), .val (.ref b28), .unset, .unset] [(.int (6 : Int32)), (.ref b28)])) (fun _ kz => XS.bipush X47.here hx rfl (hb hby at_149) kz) ?_
      refine Goes.step (T' := T47) (g' := (mkF m 152 #[.val (.int p0), .val (.int p1), .val (.int p2), .val (.long q3), .second, .val (.int (Int32.ofNat k)), .val (.int hp), .val (.int pt), .val (.ref b28), .unset, .unset] [(.long q3), (.int (6 : Int32)), (.ref b28)])) (fun _ kz => XS.lloadN X47.here hx rfl (hb hby at_151) rfl  kz) ?_
      refine Goes.step (T' := T47) (g' := (mkF m 154 #[.val (.int p0), .val (.int p1), .val (.int p2), .val (.long q3), .second, .val (.int (Int32.ofNat k)), .val (.int hp), .val (.int pt), .val (.ref b28), .unset, .unset] [(.int (6 : Int32)), (.long q3), (.int (6 : Int32)), (.ref b28)])) (fun _ kz => XS.bipush X47.here hx rfl (hb hby at_152) kz) ?_
      obtain ⟨_, _, ⟨T53, L53, k53, n53⟩, -, X53, ⟨Lc53, hQ53, l53, y53, z53⟩, st53⟩ := Jvm.LawKit.callS X47 hx (y := (⟨"com/example/tariff/tariff/core/decimal/PlainDecimalFractionDigitsPinLaw", "digit", "(JI)C"⟩ : MethodName)) hown (mvT hZ (hw _ (List.mem_of_getElem? (i := 1) rfl))) (mvT hZ (hw _ (List.mem_of_getElem? (i := 2) rfl))) (mvT hZ (hw _ (List.mem_of_getElem? (i := 3) rfl))) (mvT hZ (hw _ (List.mem_of_getElem? (i := 4) rfl))) (by decide) (backOf (W := 2) (rm_digit l Z a0 hw [] q3 (6 : Int32) h47 n0 O0  ) hZ (hw _ (List.mem_of_getElem? (i := 4) rfl)) (hw _ (List.mem_of_getElem? (i := 3) rfl)) (by decide) (by decide)) (g := (mkF m 154 #[.val (.int p0), .val (.int p1), .val (.int p2), .val (.long q3), .second, .val (.int (Int32.ofNat k)), .val (.int hp), .val (.int pt), .val (.ref b28), .unset, .unset] [(.int (6 : Int32)), (.long q3), (.int (6 : Int32)), (.ref b28)])) rfl (by rw [hml]; rfl) (argsL := [(.long q3), (.int (6 : Int32))]) (rest := [(.int (6 : Int32)), (.ref b28)]) (lenOf pd_7 rfl) rfl (by show 2 * 0 + _ ≤ _; exact Nat.le_of_eq rfl) (hb hby at_154) (fun _ _ => ⟨rfl, e47, (by decide : 1 + 0 ≤ _), (by decide : 8 + 0 ≤ _)⟩)
      dsimp only [Pt.U, Pt.locs, Pt.cells, Pt.slots] at X53 l53 y53 z53 st53 hQ53
      subst l53 y53 z53
      obtain ⟨rfl, rfl, e53⟩ := hQ53
      replace N0 := Fr.app N0 (Fr.nil n0)
      refine Goes.step (T' := T53) (g' := (mkF m 157 #[.val (.int p0), .val (.int p1), .val (.int p2), .val (.long q3), .second, .val (.int (Int32.ofNat k)), .val (.int hp), .val (.int pt), .val (.ref b28), .unset, .unset] [(.int (DG q3 (6 : Int32))), (.int (6 : Int32)), (.ref b28)])) st53 ?_
      obtain ⟨cl54, Ar54, q54, Sz54, Nn54, Hs54, Gs54⟩ := (id V_b28 : Arv Z h47 b28 kc28 .char (Int32.ofNat k) [(.int (nar .char (DG q3 (0 : Int32)))), (.int (nar .char (DG q3 (1 : Int32)))), (.int (nar .char (DG q3 (2 : Int32)))), (.int (nar .char (DG q3 (3 : Int32)))), (.int (nar .char (DG q3 (4 : Int32)))), (.int (nar .char (DG q3 (5 : Int32)))), (.int (0 : Int32)), (.int (0 : Int32))] (.int (0 : Int32)))
      obtain ⟨T54, h54, X54, e54, W54, st54⟩ := stC X53 hx hZ e53 Ar54 (j := (6 : Int32)) (inb_of Sz54 ⟨by decide, hc144_52⟩) (g := (mkF m 157 #[.val (.int p0), .val (.int p1), .val (.int p2), .val (.long q3), .second, .val (.int (Int32.ofNat k)), .val (.int hp), .val (.int pt), .val (.ref b28), .unset, .unset] [(.int (DG q3 (6 : Int32))), (.int (6 : Int32)), (.ref b28)])) rfl rfl (hb hby at_157)
      replace V_b28 : Arv Z h54 b28 kc28 .char (Int32.ofNat k) [(.int (nar .char (DG q3 (0 : Int32)))), (.int (nar .char (DG q3 (1 : Int32)))), (.int (nar .char (DG q3 (2 : Int32)))), (.int (nar .char (DG q3 (3 : Int32)))), (.int (nar .char (DG q3 (4 : Int32)))), (.int (nar .char (DG q3 (5 : Int32)))), (.int (nar .char (DG q3 (6 : Int32)))), (.int (0 : Int32))] (.int (0 : Int32)) := Arv.set Ar54 q54 Sz54 Nn54 Hs54 Gs54 (fits_nar_char _) W54 6 rfl (Nat.le_of_ble_eq_true rfl)
      replace N0 := Fr.snoc X54 N0 g_b28
      replace O0 := O0.wr W54 g_b28
      replace K0 := K0.wr W54 (Or.inr sz_b28)
      refine Goes.step (T' := T54) (g' := (mkF m 158 #[.val (.int p0), .val (.int p1), .val (.int p2), .val (.long q3), .second, .val (.int (Int32.ofNat k)), .val (.int hp), .val (.int pt), .val (.ref b28), .unset, .unset] [])) st54 ?_
      exact J7  _ _ _ (X54.mono (by decide) (by decide)) e54 N0 K0 O0 V_b28
    ·
      refine Goes.step (T' := T47) (g' := (mkF m 158 #[.val (.int p0), .val (.int p1), .val (.int p2), .val (.long q3), .second, .val (.int (Int32.ofNat k)), .val (.int hp), .val (.int pt), .val (.ref b28), .unset, .unset] [])) (fun _ kz => XS.icmpYes X47.here hx rfl (pc0 := 144) (pc' := 158) rfl (hb hby at_144) rfl (flt hc144_52).2.1 (by decide) (by decide) kz) ?_
      have hge : k ≤ 6 := by have := mt (own_lt (a := 6) (b := k) (by omega) (by omega)).mpr hc144_52; omega
      exact J7  _ _ _ (X47.mono (by decide) (by decide)) e47 N0 K0 O0 (own_skip V_b28 6 (by rw [own_clamp (by omega)]; exact hge) (.int (nar .char (DG q3 (6 : Int32)))))
  clear N0 K0 O0 V_b28
  intro  T51 h51 locs51 X51 e51 N0 K0 O0 V_b28
  suffices J8 : ∀  (T55 : State) (h55 : Heap) (locs55 : List Loc) (X55 : Stand p l e room_1 s m #[(.int p0), (.int p1), (.int p2), (.long q3)] below meth c T55 locs55 1 8) (e55 : T55.heap = h55) (N0 : Fr n0 locs55) (K0 : Keep h0 h55 []) (O0 : Old Z n0 h55) (V_b28 : Arv Z h55 b28 kc28 .char (Int32.ofNat k) [(.int (nar .char (DG q3 (0 : Int32)))), (.int (nar .char (DG q3 (1 : Int32)))), (.int (nar .char (DG q3 (2 : Int32)))), (.int (nar .char (DG q3 (3 : Int32)))), (.int (nar .char (DG q3 (4 : Int32)))), (.int (nar .char (DG q3 (5 : Int32)))), (.int (nar .char (DG q3 (6 : Int32)))), (.int (nar .char (DG q3 (7 : Int32))))] (.int (0 : Int32))), Goes p e below (fun o U' => ∃ v L, o = .returned v ∧ Q_law Z p0 p1 p2 q3 h0 n0 v U'.heap L ∧ FrameEnd s o U' L 16 128) T55 (mkF m 176 #[.val (.int p0), .val (.int p1), .val (.int p2), .val (.long q3), .second, .val (.int (Int32.ofNat k)), .val (.int hp), .val (.int pt), .val (.ref b28), .unset, .unset] []) by
    refine Goes.step (T' := T51) (g' := (mkF m 160 #[.val (.int p0), .val (.int p1), .val (.int p2), .val (.long q3), .second, .val (.int (Int32.ofNat k)), .val (.int hp), .val (.int pt), .val (.ref b28), .unset, .unset] [(.int (7 : Int32))])) (fun _ kz => XS.bipush X51.here hx rfl (hb hby at_158) kz) ?_
    refine Goes.step (T' := T51) (g' := (mkF m 162 #[.val (.int p0), .val (.int p1), .val (.int p2), .val (.long q3), .second, .val (.int (Int32.ofNat k)), .val (.int hp), .val (.int pt), .val (.ref b28), .unset, .unset] [(.int (Int32.ofNat k)), (.int (7 : Int32))])) (fun _ kz => XS.iload X51.here hx rfl (hb hby at_160) rfl  kz) ?_
    by_cases hc162_56 : (7 : Int32) < (Int32.ofNat k)
    ·
      refine Goes.step (T' := T51) (g' := (mkF m 165 #[.val (.int p0), .val (.int p1), .val (.int p2), .val (.long q3), .second, .val (.int (Int32.ofNat k)), .val (.int hp), .val (.int pt), .val (.ref b28), .unset, .unset] [])) (fun _ kz => XS.icmpNo X51.here hx rfl (hb hby at_162) rfl (tlt hc162_56).2.1 kz) ?_
      refine Goes.step (T' := T51) (g' := (mkF m 167 #[.val (.int p0), .val (.int p1), .val (.int p2), .val (.long q3), .second, .val (.int (Int32.ofNat k)), .val (.int hp), .val (.int pt), .val (.ref b28), .unset, .unset] [(.ref b28)])) (fun _ kz => XS.aload X51.here hx rfl (hb hby at_165) rfl rfl kz) ?_
      refine Goes.step (T' := T51) (g' := (mkF m 169 #[.val (.int p0), .val (.int p1), .val (.int p2), .val (.long q3), .second, .val (.int (Int32.ofNat k)), .val (.int hp), .val (.int pt), .val (.ref b28), .unset, .unset] [(.int (7 : Int32)), (.ref b28)])) (fun _ kz => XS.bipush X51.here hx rfl (hb hby at_167) kz) ?_
      refine Goes.step (T' := T51) (g' := (mkF m 170 #[.val (.int p0), .val (.int p1), .val (.int p2), .val (.long q3), .second, .val (.int (Int32.ofNat k)), .val (.int hp), .val (.int pt), .val (.ref b28), .unset, .unset] [(.long q3), (.int (7 : Int32)), (.ref b28)])) (fun _ kz => XS.lloadN X51.here hx rfl (hb hby at_169) rfl  kz) ?_
      refine Goes.step (T' := T51) (g' := (mkF m 172 #[.val (.int p0), .val (.int p1), .val (.int p2), .val (.long q3), .second, .val (.int (Int32.ofNat k)), .val (.int hp), .val (.int pt), .val (.ref b28), .unset, .unset] [(.int (7 : Int32)), (.long q3), (.int (7 : Int32)), (.ref b28)])) (fun _ kz => XS.bipush X51.here hx rfl (hb hby at_170) kz) ?_
      obtain ⟨_, _, ⟨T57, L57, k57, n57⟩, -, X57, ⟨Lc57, hQ57, l57, y57, z57⟩, st57⟩ := Jvm.LawKit.callS X51 hx (y := (⟨"com/example/tariff/tariff/core/decimal/PlainDecimalFractionDigitsPinLaw", "digit", "(JI)C"⟩ : MethodName)) hown (mvT hZ (hw _ (List.mem_of_getElem? (i := 1) rfl))) (mvT hZ (hw _ (List.mem_of_getElem? (i := 2) rfl))) (mvT hZ (hw _ (List.mem_of_getElem? (i := 3) rfl))) (mvT hZ (hw _ (List.mem_of_getElem? (i := 4) rfl))) (by decide) (backOf (W := 2) (rm_digit l Z a0 hw [] q3 (7 : Int32) h51 n0 O0  ) hZ (hw _ (List.mem_of_getElem? (i := 4) rfl)) (hw _ (List.mem_of_getElem? (i := 3) rfl)) (by decide) (by decide)) (g := (mkF m 172 #[.val (.int p0), .val (.int p1), .val (.int p2), .val (.long q3), .second, .val (.int (Int32.ofNat k)), .val (.int hp), .val (.int pt), .val (.ref b28), .unset, .unset] [(.int (7 : Int32)), (.long q3), (.int (7 : Int32)), (.ref b28)])) rfl (by rw [hml]; rfl) (argsL := [(.long q3), (.int (7 : Int32))]) (rest := [(.int (7 : Int32)), (.ref b28)]) (lenOf pd_7 rfl) rfl (by show 2 * 0 + _ ≤ _; exact Nat.le_of_eq rfl) (hb hby at_172) (fun _ _ => ⟨rfl, e51, (by decide : 1 + 0 ≤ _), (by decide : 8 + 0 ≤ _)⟩)
      dsimp only [Pt.U, Pt.locs, Pt.cells, Pt.slots] at X57 l57 y57 z57 st57 hQ57
      subst l57 y57 z57
      obtain ⟨rfl, rfl, e57⟩ := hQ57
      replace N0 := Fr.app N0 (Fr.nil n0)
      refine Goes.step (T' := T57) (g' := (mkF m 175 #[.val (.int p0), .val (.int p1), .val (.int p2), .val (.long q3), .second, .val (.int (Int32.ofNat k)), .val (.int hp), .val (.int pt), .val (.ref b28), .unset, .unset] [(.int (DG q3 (7 : Int32))), (.int (7 : Int32)), (.ref b28)])) st57 ?_
      obtain ⟨cl58, Ar58, q58, Sz58, Nn58, Hs58, Gs58⟩ := (id V_b28 : Arv Z h51 b28 kc28 .char (Int32.ofNat k) [(.int (nar .char (DG q3 (0 : Int32)))), (.int (nar .char (DG q3 (1 : Int32)))), (.int (nar .char (DG q3 (2 : Int32)))), (.int (nar .char (DG q3 (3 : Int32)))), (.int (nar .char (DG q3 (4 : Int32)))), (.int (nar .char (DG q3 (5 : Int32)))), (.int (nar .char (DG q3 (6 : Int32)))), (.int (0 : Int32))] (.int (0 : Int32)))
      obtain ⟨T58, h58, X58, e58, W58, st58⟩ := stC X57 hx hZ e57 Ar58 (j := (7 : Int32)) (inb_of Sz58 ⟨by decide, hc162_56⟩) (g := (mkF m 175 #[.val (.int p0), .val (.int p1), .val (.int p2), .val (.long q3), .second, .val (.int (Int32.ofNat k)), .val (.int hp), .val (.int pt), .val (.ref b28), .unset, .unset] [(.int (DG q3 (7 : Int32))), (.int (7 : Int32)), (.ref b28)])) rfl rfl (hb hby at_175)
      replace V_b28 : Arv Z h58 b28 kc28 .char (Int32.ofNat k) [(.int (nar .char (DG q3 (0 : Int32)))), (.int (nar .char (DG q3 (1 : Int32)))), (.int (nar .char (DG q3 (2 : Int32)))), (.int (nar .char (DG q3 (3 : Int32)))), (.int (nar .char (DG q3 (4 : Int32)))), (.int (nar .char (DG q3 (5 : Int32)))), (.int (nar .char (DG q3 (6 : Int32)))), (.int (nar .char (DG q3 (7 : Int32))))] (.int (0 : Int32)) := Arv.set Ar58 q58 Sz58 Nn58 Hs58 Gs58 (fits_nar_char _) W58 7 rfl (Nat.le_of_ble_eq_true rfl)
      replace N0 := Fr.snoc X58 N0 g_b28
      replace O0 := O0.wr W58 g_b28
      replace K0 := K0.wr W58 (Or.inr sz_b28)
      refine Goes.step (T' := T58) (g' := (mkF m 176 #[.val (.int p0), .val (.int p1), .val (.int p2), .val (.long q3), .second, .val (.int (Int32.ofNat k)), .val (.int hp), .val (.int pt), .val (.ref b28), .unset, .unset] [])) st58 ?_
      exact J8  _ _ _ (X58.mono (by decide) (by decide)) e58 N0 K0 O0 V_b28
    ·
      refine Goes.step (T' := T51) (g' := (mkF m 176 #[.val (.int p0), .val (.int p1), .val (.int p2), .val (.long q3), .second, .val (.int (Int32.ofNat k)), .val (.int hp), .val (.int pt), .val (.ref b28), .unset, .unset] [])) (fun _ kz => XS.icmpYes X51.here hx rfl (pc0 := 162) (pc' := 176) rfl (hb hby at_162) rfl (flt hc162_56).2.1 (by decide) (by decide) kz) ?_
      have hge : k ≤ 7 := by have := mt (own_lt (a := 7) (b := k) (by omega) (by omega)).mpr hc162_56; omega
      exact J8  _ _ _ (X51.mono (by decide) (by decide)) e51 N0 K0 O0 (own_skip V_b28 7 (by rw [own_clamp (by omega)]; exact hge) (.int (nar .char (DG q3 (7 : Int32)))))
  clear N0 K0 O0 V_b28
  intro  T55 h55 locs55 X55 e55 N0 K0 O0 V_b28
  suffices J9 : ∀ (hp2 : Int32) (pt2 : Int32) (cs : List Int32) (H2 : Drawn cs k hp2 pt2) (T59 : State) (h59 : Heap) (locs59 : List Loc) (X59 : Stand p l e room_1 s m #[(.int p0), (.int p1), (.int p2), (.long q3)] below meth c T59 locs59 1 8) (e59 : T59.heap = h59) (N0 : Fr n0 locs59) (K0 : Keep h0 h59 []) (O0 : Old Z n0 h59) (V_b28 : Arv Z h59 b28 kc28 .char (Int32.ofNat k) (cs.map Value.int) (.int (0 : Int32))), Goes p e below (fun o U' => ∃ v L, o = .returned v ∧ Q_law Z p0 p1 p2 q3 h0 n0 v U'.heap L ∧ FrameEnd s o U' L 16 128) T59 (mkF m 190 #[.val (.int p0), .val (.int p1), .val (.int p2), .val (.long q3), .second, .val (.int (Int32.ofNat k)), .val (.int hp2), .val (.int pt2), .val (.ref b28), .unset, .unset] []) by
    rw [show nar .char (DG q3 0) = DG q3 0 from own_narC _, show nar .char (DG q3 1) = DG q3 1 from own_narC _, show nar .char (DG q3 2) = DG q3 2 from own_narC _, show nar .char (DG q3 3) = DG q3 3 from own_narC _, show nar .char (DG q3 4) = DG q3 4 from own_narC _, show nar .char (DG q3 5) = DG q3 5 from own_narC _, show nar .char (DG q3 6) = DG q3 6 from own_narC _, show nar .char (DG q3 7) = DG q3 7 from own_narC _] at V_b28
    obtain ⟨rfl, rfl⟩ | ⟨rfl, j, rfl, hj2⟩ := H1
    ·
      refine Goes.step (T' := T55) (g' := (mkF m 178 #[.val (.int p0), .val (.int p1), .val (.int p2), .val (.long q3), .second, .val (.int (Int32.ofNat k)), .val (.int (0 : Int32)), .val (.int (Int32.ofNat k)), .val (.ref b28), .unset, .unset] [(.int (Int32.ofNat k))])) (fun _ kz => XS.iload X55.here hx rfl (hb hby at_176) rfl  kz) ?_
      refine Goes.step (T' := T55) (g' := (mkF m 180 #[.val (.int p0), .val (.int p1), .val (.int p2), .val (.long q3), .second, .val (.int (Int32.ofNat k)), .val (.int (0 : Int32)), .val (.int (Int32.ofNat k)), .val (.ref b28), .unset, .unset] [(.int (Int32.ofNat k)), (.int (Int32.ofNat k))])) (fun _ kz => XS.iload X55.here hx rfl (hb hby at_178) rfl  kz) ?_
      refine Goes.step (T' := T55) (g' := (mkF m 190 #[.val (.int p0), .val (.int p1), .val (.int p2), .val (.long q3), .second, .val (.int (Int32.ofNat k)), .val (.int (0 : Int32)), .val (.int (Int32.ofNat k)), .val (.ref b28), .unset, .unset] [])) (fun _ kz => XS.icmpYes X55.here hx rfl (pc0 := 180) (pc' := 190) rfl (hb hby at_180) rfl (flt (fun q => absurd ((own_lt (by omega) (by omega)).mp q) (by omega) : ¬ (Int32.ofNat k) < (Int32.ofNat k))).2.1 (by decide) (by decide) kz) ?_
      have V2 : Arv Z h55 b28 kc28 .char (Int32.ofNat k) ((DL q3).map Value.int) (.int (0 : Int32)) := V_b28
      exact J9 ((0 : Int32)) ((Int32.ofNat k)) ((DL q3).take k) (drawn0 hk8) _ _ _ (X55.mono (by decide) (by decide)) e55 N0 K0 O0 (own_takeV V2 k (by rw [own_clamp (by omega)]; exact Nat.le_refl _))
    ·
      refine Goes.step (T' := T55) (g' := (mkF m 178 #[.val (.int p0), .val (.int p1), .val (.int p2), .val (.long q3), .second, .val (.int (Int32.ofNat k)), .val (.int (1 : Int32)), .val (.int (Int32.ofNat j)), .val (.ref b28), .unset, .unset] [(.int (Int32.ofNat j))])) (fun _ kz => XS.iload X55.here hx rfl (hb hby at_176) rfl  kz) ?_
      refine Goes.step (T' := T55) (g' := (mkF m 180 #[.val (.int p0), .val (.int p1), .val (.int p2), .val (.long q3), .second, .val (.int (Int32.ofNat k)), .val (.int (1 : Int32)), .val (.int (Int32.ofNat j)), .val (.ref b28), .unset, .unset] [(.int (Int32.ofNat k)), (.int (Int32.ofNat j))])) (fun _ kz => XS.iload X55.here hx rfl (hb hby at_178) rfl  kz) ?_
      refine Goes.step (T' := T55) (g' := (mkF m 183 #[.val (.int p0), .val (.int p1), .val (.int p2), .val (.long q3), .second, .val (.int (Int32.ofNat k)), .val (.int (1 : Int32)), .val (.int (Int32.ofNat j)), .val (.ref b28), .unset, .unset] [])) (fun _ kz => XS.icmpNo X55.here hx rfl (hb hby at_180) rfl (tlt ((own_lt (by omega) (by omega)).mpr (by omega))).2.1 kz) ?_
      refine Goes.step (T' := T55) (g' := (mkF m 185 #[.val (.int p0), .val (.int p1), .val (.int p2), .val (.long q3), .second, .val (.int (Int32.ofNat k)), .val (.int (1 : Int32)), .val (.int (Int32.ofNat j)), .val (.ref b28), .unset, .unset] [(.ref b28)])) (fun _ kz => XS.aload X55.here hx rfl (hb hby at_183) rfl rfl kz) ?_
      refine Goes.step (T' := T55) (g' := (mkF m 187 #[.val (.int p0), .val (.int p1), .val (.int p2), .val (.long q3), .second, .val (.int (Int32.ofNat k)), .val (.int (1 : Int32)), .val (.int (Int32.ofNat j)), .val (.ref b28), .unset, .unset] [(.int (Int32.ofNat j)), (.ref b28)])) (fun _ kz => XS.iload X55.here hx rfl (hb hby at_185) rfl  kz) ?_
      refine Goes.step (T' := T55) (g' := (mkF m 189 #[.val (.int p0), .val (.int p1), .val (.int p2), .val (.long q3), .second, .val (.int (Int32.ofNat k)), .val (.int (1 : Int32)), .val (.int (Int32.ofNat j)), .val (.ref b28), .unset, .unset] [(.int (46 : Int32)), (.int (Int32.ofNat j)), (.ref b28)])) (fun _ kz => XS.bipush X55.here hx rfl (hb hby at_187) kz) ?_
      obtain ⟨cl60, Ar60, q60, Sz60, Nn60, Hs60, Gs60⟩ := (id V_b28 : Arv Z h55 b28 kc28 .char (Int32.ofNat k) [(.int (DG q3 0)), (.int (DG q3 1)), (.int (DG q3 2)), (.int (DG q3 3)), (.int (DG q3 4)), (.int (DG q3 5)), (.int (DG q3 6)), (.int (DG q3 7))] (.int (0 : Int32)))
      obtain ⟨T60, h60, X60, e60, W60, st60⟩ := stC X55 hx hZ e55 Ar60 (j := (Int32.ofNat j)) (inb_of Sz60 ⟨own_nn (by omega), (own_lt (by omega) (by omega)).mpr (by omega)⟩) (g := (mkF m 189 #[.val (.int p0), .val (.int p1), .val (.int p2), .val (.long q3), .second, .val (.int (Int32.ofNat k)), .val (.int (1 : Int32)), .val (.int (Int32.ofNat j)), .val (.ref b28), .unset, .unset] [(.int (46 : Int32)), (.int (Int32.ofNat j)), (.ref b28)])) rfl rfl (hb hby at_189)
      replace V_b28 : Arv Z h60 b28 kc28 .char (Int32.ofNat k) ([(.int (DG q3 0)), (.int (DG q3 1)), (.int (DG q3 2)), (.int (DG q3 3)), (.int (DG q3 4)), (.int (DG q3 5)), (.int (DG q3 6)), (.int (DG q3 7))].set j (.int (nar .char (46 : Int32)))) (.int (0 : Int32)) := Arv.set Ar60 q60 Sz60 Nn60 Hs60 Gs60 (fits_nar_char _) W60 j (own_clamp (by omega)) (show j < _ by simp; omega)
      replace N0 := Fr.snoc X60 N0 g_b28
      replace O0 := O0.wr W60 g_b28
      replace K0 := K0.wr W60 (Or.inr sz_b28)
      refine Goes.step (T' := T60) (g' := (mkF m 190 #[.val (.int p0), .val (.int p1), .val (.int p2), .val (.long q3), .second, .val (.int (Int32.ofNat k)), .val (.int (1 : Int32)), .val (.int (Int32.ofNat j)), .val (.ref b28), .unset, .unset] [])) st60 ?_
      have V2 : Arv Z h60 b28 kc28 .char (Int32.ofNat k) (((DL q3).set j 46).map Value.int) (.int (0 : Int32)) := by rw [List.map_set]; exact V_b28
      exact J9 ((1 : Int32)) ((Int32.ofNat j)) (((DL q3).set j 46).take k) (drawn1 hk8 hj2) _ _ _ (X60.mono (by decide) (by decide)) e60 N0 K0 O0 (own_takeV V2 k (by rw [own_clamp (by omega)]; exact Nat.le_refl _))
  clear N0 K0 O0 V_b28
  intro hp2 pt2 cs H2 T59 h59 locs59 X59 e59 N0 K0 O0 V_b28
  obtain ⟨hcl, hcb, ⟨rfl, hix⟩ | ⟨rfl, j, rfl, hix, hj2⟩⟩ := H2
  ·
    refine Goes.step (T' := T59) (g' := (mkF m 192 #[.val (.int p0), .val (.int p1), .val (.int p2), .val (.long q3), .second, .val (.int (Int32.ofNat k)), .val (.int (0 : Int32)), .val (.int pt2), .val (.ref b28), .unset, .unset] [(.int (0 : Int32))])) (fun _ kz => XS.iload X59.here hx rfl (hb hby at_190) rfl  kz) ?_
    refine Goes.step (T' := T59) (g' := (mkF m 205 #[.val (.int p0), .val (.int p1), .val (.int p2), .val (.long q3), .second, .val (.int (Int32.ofNat k)), .val (.int (0 : Int32)), .val (.int pt2), .val (.ref b28), .unset, .unset] [])) (fun _ kz => XS.ifYes X59.here hx rfl (pc0 := 192) (pc' := 205) rfl (hb hby at_192) rfl ((if0 _ _).trans (teq (by decide : ((0 : Int32) = (0 : Int32)))).1) (by decide) (by decide) kz) ?_
    refine Goes.step (T' := T59) (g' := (mkF m 206 #[.val (.int p0), .val (.int p1), .val (.int p2), .val (.long q3), .second, .val (.int (Int32.ofNat k)), .val (.int (0 : Int32)), .val (.int pt2), .val (.ref b28), .unset, .unset] [(.int (0 : Int32))])) (fun _ kz => XS.iconst X59.here hx rfl (hb hby at_205) kz) ?_
    refine Goes.step (T' := T59) (g' := (mkF m 208 #[.val (.int p0), .val (.int p1), .val (.int p2), .val (.long q3), .second, .val (.int (Int32.ofNat k)), .val (.int (0 : Int32)), .val (.int pt2), .val (.ref b28), .val (.int (0 : Int32)), .unset] [])) (fun _ kz => XS.istore X59.here hx rfl (hb hby at_206) rfl (l' := #[.val (.int p0), .val (.int p1), .val (.int p2), .val (.long q3), .second, .val (.int (Int32.ofNat k)), .val (.int (0 : Int32)), .val (.int pt2), .val (.ref b28), .val (.int (0 : Int32)), .unset]) rfl kz) ?_
    obtain ⟨T61, h61, X61, e61, Ex61, A61, D61, -, st61⟩ := newO X59 hx hZ hown (hw _ (List.mem_of_getElem? (i := 5) rfl)) (hw _ (List.mem_of_getElem? (i := 6) rfl)) (hw _ (List.mem_of_getElem? (i := 7) rfl)) e59 (g := (mkF m 208 #[.val (.int p0), .val (.int p1), .val (.int p2), .val (.long q3), .second, .val (.int (Int32.ofNat k)), .val (.int (0 : Int32)), .val (.int pt2), .val (.ref b28), .val (.int (0 : Int32)), .unset] [])) rfl (hb hby at_208) (by decide) (by decide)
    obtain ⟨b61, gg61⟩ : ∃ z, z = h59.size := ⟨_, rfl⟩
    rw [← gg61] at A61 D61 st61
    have g_b61 : n0 ≤ b61 := Nat.le_trans (own_n0 O0) (Nat.le_of_eq gg61.symm)
    have sz_b61 : h0.size ≤ b61 := Nat.le_trans K0.1 (Nat.le_of_eq gg61.symm)
    have ne_b28_b61 : b28 ≠ b61 := Nat.ne_of_lt (Nat.lt_of_lt_of_le V_b28.lt (Nat.le_of_eq gg61.symm))
    replace V_b28 := V_b28.ext Ex61
    replace O0 := O0.ext Ex61
    replace K0 := K0.ext Ex61
    have E_b61 := A61
    have F_b61_coder : Fld Z h61 b61 "java/lang/String" "coder" "B" (.int (0 : Int32)) := D61 (Or.inr (hw _ (List.mem_of_getElem? (i := 31) rfl))) (ty := .byte) (by decide)
    have F_b61_value : Fld Z h61 b61 "java/lang/String" "value" "[B" .null := D61 (Or.inr (hw _ (List.mem_of_getElem? (i := 33) rfl))) (ty := (.array .byte)) (by decide)
    refine Goes.step (T' := T61) (g' := (mkF m 211 #[.val (.int p0), .val (.int p1), .val (.int p2), .val (.long q3), .second, .val (.int (Int32.ofNat k)), .val (.int (0 : Int32)), .val (.int pt2), .val (.ref b28), .val (.int (0 : Int32)), .unset] [(.ref b61)])) st61 ?_
    clear D61 A61
    refine Goes.step (T' := T61) (g' := (mkF m 212 #[.val (.int p0), .val (.int p1), .val (.int p2), .val (.long q3), .second, .val (.int (Int32.ofNat k)), .val (.int (0 : Int32)), .val (.int pt2), .val (.ref b28), .val (.int (0 : Int32)), .unset] [(.ref b61), (.ref b61)])) (fun _ kz => XS.dup X61.here hx rfl (hb hby at_211) rfl rfl kz) ?_
    refine Goes.step (T' := T61) (g' := (mkF m 214 #[.val (.int p0), .val (.int p1), .val (.int p2), .val (.long q3), .second, .val (.int (Int32.ofNat k)), .val (.int (0 : Int32)), .val (.int pt2), .val (.ref b28), .val (.int (0 : Int32)), .unset] [(.ref b28), (.ref b61), (.ref b61)])) (fun _ kz => XS.aload X61.here hx rfl (hb hby at_212) rfl rfl kz) ?_
    obtain ⟨_, _, ⟨T62, L62, k62, n62⟩, -, X62, ⟨Lc62, hQ62, l62, y62, z62⟩, st62⟩ := X61.specialBack hx (y := (⟨"java/lang/String", "<init>", "([C)V"⟩ : MethodName)) rfl hown (mvT hZ (hw _ (List.mem_of_getElem? (i := 8) rfl))) (mvT hZ (hw _ (List.mem_of_getElem? (i := 9) rfl))) (mvT hZ (hw _ (List.mem_of_getElem? (i := 10) rfl))) (by decide) (StrChars.Road.backV (W := 1) hZ (own_wBV hw) (kI := 4) (hw _ (List.mem_of_getElem? (i := 6) rfl)) (cs := cs) (bs := cs.map (fun c => c.toInt8.toInt32)) (n := k) g_b61 (own_n0 O0) E_b61 F_b61_value F_b61_coder V_b28 (Scs.ext O0.2) hz_Scs hcl rfl (by omega) (by omega) hcb rfl (by decide) (by decide)) (g := (mkF m 214 #[.val (.int p0), .val (.int p1), .val (.int p2), .val (.long q3), .second, .val (.int (Int32.ofNat k)), .val (.int (0 : Int32)), .val (.int pt2), .val (.ref b28), .val (.int (0 : Int32)), .unset] [(.ref b28), (.ref b61), (.ref b61)])) rfl (by rw [hml]; rfl) (Steps.refl _) (a := b61) (argsL := [(.ref b28)]) (rest := [(.ref b61)]) (lenOf pd_8 rfl) rfl (by show 2 * 0 + _ ≤ _; exact Nat.le_of_eq rfl) (hb hby at_214) (fun _ _ => ⟨rfl, e61, (by decide : 2 + 1 ≤ _), (show 12 + k ≤ 128 by omega)⟩)
    dsimp only [Pt.U, Pt.locs, Pt.cells, Pt.slots] at X62 l62 y62 z62 st62 hQ62
    subst l62 y62 z62
    obtain ⟨h62, e62⟩ : ∃ z, T62.heap = z := ⟨_, rfl⟩
    rw [e62] at hQ62
    obtain ⟨rfl, Nq62, Kq62, E_q62, Fc_q62, t62, kb62, gt62, fr62, net62, Fv_q62, V_q62⟩ := hQ62
    replace N0 := Fr.app N0 Nq62
    replace X62 := X62.mono (Nat.le_refl _) (show 12 + k ≤ 20 by omega)
    rw [List.map_map] at V_q62
    rw [← hcl] at V_q62
    have G_q62 : SX Z h62 b61 cs := ⟨E_q62, Fc_q62, hcb, _, _, Fv_q62, V_q62⟩
    replace V_b28 := V_b28.keep Kq62 (ninS ne_b28_b61 nin0)
    clear E_b61
    clear F_b61_coder
    clear F_b61_value
    replace O0 := O0.keep Kq62 (allS g_b61 all0)
    replace K0 := K0.trans Kq62 (allS (Or.inr sz_b61) all0)
    have E_b61 := E_q62
    have G_b61 := G_q62
    refine Goes.run (T' := T62) (g' := (mkF m 217 #[.val (.int p0), .val (.int p1), .val (.int p2), .val (.long q3), .second, .val (.int (Int32.ofNat k)), .val (.int (0 : Int32)), .val (.int pt2), .val (.ref b28), .val (.int (0 : Int32)), .unset] [(.ref b61)])) st62 ?_
    refine Goes.step (T' := T62) (g' := (mkF m 219 #[.val (.int p0), .val (.int p1), .val (.int p2), .val (.long q3), .second, .val (.int (Int32.ofNat k)), .val (.int (0 : Int32)), .val (.int pt2), .val (.ref b28), .val (.int (0 : Int32)), .val (.ref b61)] [])) (fun _ kz => XS.astore X62.here hx rfl (hb hby at_217) rfl rfl (l' := #[.val (.int p0), .val (.int p1), .val (.int p2), .val (.long q3), .second, .val (.int (Int32.ofNat k)), .val (.int (0 : Int32)), .val (.int pt2), .val (.ref b28), .val (.int (0 : Int32)), .val (.ref b61)]) rfl kz) ?_
    refine Goes.step (T' := T62) (g' := (mkF m 221 #[.val (.int p0), .val (.int p1), .val (.int p2), .val (.long q3), .second, .val (.int (Int32.ofNat k)), .val (.int (0 : Int32)), .val (.int pt2), .val (.ref b28), .val (.int (0 : Int32)), .val (.ref b61)] [(.ref b61)])) (fun _ kz => XS.aload X62.here hx rfl (hb hby at_219) rfl rfl kz) ?_
    obtain ⟨_, _, ⟨T63, L63, k63, n63⟩, -, X63, ⟨Lc63, hQ63, l63, y63, z63⟩, st63⟩ := Jvm.LawKit.callS X62 hx (y := (⟨"com/example/tariff/tariff/core/decimal/PlainDecimal", "fractionDigits", "(Ljava/lang/String;)I"⟩ : MethodName)) hown (mvT hZ (hw _ (List.mem_of_getElem? (i := 34) rfl))) (mvT hZ (hw _ (List.mem_of_getElem? (i := 35) rfl))) (mvT hZ (hw _ (List.mem_of_getElem? (i := 36) rfl))) (mvT hZ (hw _ (List.mem_of_getElem? (i := 37) rfl))) (by decide) (backOf (W := 0) (rm_fracD l Z a0 hw [] b61 (cs) h62 n0 O0 zcs Scs hz_Scs E_b61 G_b61 (by omega)) hZ (hw _ (List.mem_of_getElem? (i := 37) rfl)) (hw _ (List.mem_of_getElem? (i := 36) rfl)) (by decide) (by decide)) (g := (mkF m 221 #[.val (.int p0), .val (.int p1), .val (.int p2), .val (.long q3), .second, .val (.int (Int32.ofNat k)), .val (.int (0 : Int32)), .val (.int pt2), .val (.ref b28), .val (.int (0 : Int32)), .val (.ref b61)] [(.ref b61)])) rfl (by rw [hml]; rfl) (argsL := [(.ref b61)]) (rest := []) (lenOf pd_6 rfl) rfl (by show 2 * 0 + _ ≤ _; exact Nat.le_of_eq rfl) (hb hby at_221) (fun _ _ => ⟨rfl, e62, (by decide : 3 + 0 ≤ _), (by decide : 20 + 0 ≤ _)⟩)
    dsimp only [Pt.U, Pt.locs, Pt.cells, Pt.slots] at X63 l63 y63 z63 st63 hQ63
    subst l63 y63 z63
    obtain ⟨rfl, rfl, e63⟩ := hQ63
    replace N0 := Fr.app N0 (Fr.nil n0)
    refine Goes.step (T' := T63) (g' := (mkF m 224 #[.val (.int p0), .val (.int p1), .val (.int p2), .val (.long q3), .second, .val (.int (Int32.ofNat k)), .val (.int (0 : Int32)), .val (.int pt2), .val (.ref b28), .val (.int (0 : Int32)), .val (.ref b61)] [(.int (if IX cs = cs.length then 0 else Int32.ofNat cs.length - Int32.ofNat (IX cs) - 1))])) st63 ?_
    refine Goes.step (T' := T63) (g' := (mkF m 226 #[.val (.int p0), .val (.int p1), .val (.int p2), .val (.long q3), .second, .val (.int (Int32.ofNat k)), .val (.int (0 : Int32)), .val (.int pt2), .val (.ref b28), .val (.int (0 : Int32)), .val (.ref b61)] [(.int (0 : Int32)), (.int (if IX cs = cs.length then 0 else Int32.ofNat cs.length - Int32.ofNat (IX cs) - 1))])) (fun _ kz => XS.iload X63.here hx rfl (hb hby at_224) rfl  kz) ?_
    refine Goes.step (T' := T63) (g' := (mkF m 229 #[.val (.int p0), .val (.int p1), .val (.int p2), .val (.long q3), .second, .val (.int (Int32.ofNat k)), .val (.int (0 : Int32)), .val (.int pt2), .val (.ref b28), .val (.int (0 : Int32)), .val (.ref b61)] [])) (fun _ kz => XS.icmpNo X63.here hx rfl (hb hby at_226) rfl (teq (if_pos (hix.trans hcl.symm))).2 kz) ?_
    refine Goes.step (T' := T63) (g' := (mkF m 230 #[.val (.int p0), .val (.int p1), .val (.int p2), .val (.long q3), .second, .val (.int (Int32.ofNat k)), .val (.int (0 : Int32)), .val (.int pt2), .val (.ref b28), .val (.int (0 : Int32)), .val (.ref b61)] [(.int (1 : Int32))])) (fun _ kz => XS.iconst X63.here hx rfl (hb hby at_229) kz) ?_
    refine Goes.step (T' := T63) (g' := (mkF m 234 #[.val (.int p0), .val (.int p1), .val (.int p2), .val (.long q3), .second, .val (.int (Int32.ofNat k)), .val (.int (0 : Int32)), .val (.int pt2), .val (.ref b28), .val (.int (0 : Int32)), .val (.ref b61)] [(.int (1 : Int32))])) (fun _ kz => XS.goto X63.here hx rfl (pc0 := 230) (pc' := 234) rfl (hb hby at_230) (by decide) (by decide) kz) ?_
    obtain ⟨fs, hr, hrun, hended, hW, hsame⟩ := X63.leave (v := some (.int (nar .boolean (1 : Int32)))) (fun h => by rw [Bd.returns] at h; cases h)
    exact ⟨_, _, retN X63 hx (t := .boolean) Bd.returns (by simp) (hb hby at_234) hr, hrun, hended, _, _, rfl, (by show Q_law Z p0 p1 p2 q3 h0 n0 _ T63.heap _; rw [e63]; exact ⟨rfl, N0, K0⟩), ⟨_, rfl⟩, hW, hsame.mono (by decide) (by decide)⟩
  ·
    refine Goes.step (T' := T59) (g' := (mkF m 192 #[.val (.int p0), .val (.int p1), .val (.int p2), .val (.long q3), .second, .val (.int (Int32.ofNat k)), .val (.int (1 : Int32)), .val (.int (Int32.ofNat j)), .val (.ref b28), .unset, .unset] [(.int (1 : Int32))])) (fun _ kz => XS.iload X59.here hx rfl (hb hby at_190) rfl  kz) ?_
    refine Goes.step (T' := T59) (g' := (mkF m 195 #[.val (.int p0), .val (.int p1), .val (.int p2), .val (.long q3), .second, .val (.int (Int32.ofNat k)), .val (.int (1 : Int32)), .val (.int (Int32.ofNat j)), .val (.ref b28), .unset, .unset] [])) (fun _ kz => XS.ifNo X59.here hx rfl (hb hby at_192) rfl ((if0 _ _).trans (feq (by decide : ¬ ((1 : Int32) = (0 : Int32)))).1) kz) ?_
    refine Goes.step (T' := T59) (g' := (mkF m 197 #[.val (.int p0), .val (.int p1), .val (.int p2), .val (.long q3), .second, .val (.int (Int32.ofNat k)), .val (.int (1 : Int32)), .val (.int (Int32.ofNat j)), .val (.ref b28), .unset, .unset] [(.int (Int32.ofNat k))])) (fun _ kz => XS.iload X59.here hx rfl (hb hby at_195) rfl  kz) ?_
    refine Goes.step (T' := T59) (g' := (mkF m 198 #[.val (.int p0), .val (.int p1), .val (.int p2), .val (.long q3), .second, .val (.int (Int32.ofNat k)), .val (.int (1 : Int32)), .val (.int (Int32.ofNat j)), .val (.ref b28), .unset, .unset] [(.int (1 : Int32)), (.int (Int32.ofNat k))])) (fun _ kz => XS.iconst X59.here hx rfl (hb hby at_197) kz) ?_
    refine Goes.step (T' := T59) (g' := (mkF m 199 #[.val (.int p0), .val (.int p1), .val (.int p2), .val (.long q3), .second, .val (.int (Int32.ofNat k)), .val (.int (1 : Int32)), .val (.int (Int32.ofNat j)), .val (.ref b28), .unset, .unset] [(.int ((Int32.ofNat k) - (1 : Int32)))])) (fun _ kz => XS.isub X59.here hx rfl (hb hby at_198) rfl kz) ?_
    refine Goes.step (T' := T59) (g' := (mkF m 201 #[.val (.int p0), .val (.int p1), .val (.int p2), .val (.long q3), .second, .val (.int (Int32.ofNat k)), .val (.int (1 : Int32)), .val (.int (Int32.ofNat j)), .val (.ref b28), .unset, .unset] [(.int (Int32.ofNat j)), (.int ((Int32.ofNat k) - (1 : Int32)))])) (fun _ kz => XS.iload X59.here hx rfl (hb hby at_199) rfl  kz) ?_
    refine Goes.step (T' := T59) (g' := (mkF m 202 #[.val (.int p0), .val (.int p1), .val (.int p2), .val (.long q3), .second, .val (.int (Int32.ofNat k)), .val (.int (1 : Int32)), .val (.int (Int32.ofNat j)), .val (.ref b28), .unset, .unset] [(.int (((Int32.ofNat k) - (1 : Int32)) - (Int32.ofNat j)))])) (fun _ kz => XS.isub X59.here hx rfl (hb hby at_201) rfl kz) ?_
    refine Goes.step (T' := T59) (g' := (mkF m 206 #[.val (.int p0), .val (.int p1), .val (.int p2), .val (.long q3), .second, .val (.int (Int32.ofNat k)), .val (.int (1 : Int32)), .val (.int (Int32.ofNat j)), .val (.ref b28), .unset, .unset] [(.int (((Int32.ofNat k) - (1 : Int32)) - (Int32.ofNat j)))])) (fun _ kz => XS.goto X59.here hx rfl (pc0 := 202) (pc' := 206) rfl (hb hby at_202) (by decide) (by decide) kz) ?_
    refine Goes.step (T' := T59) (g' := (mkF m 208 #[.val (.int p0), .val (.int p1), .val (.int p2), .val (.long q3), .second, .val (.int (Int32.ofNat k)), .val (.int (1 : Int32)), .val (.int (Int32.ofNat j)), .val (.ref b28), .val (.int (((Int32.ofNat k) - (1 : Int32)) - (Int32.ofNat j))), .unset] [])) (fun _ kz => XS.istore X59.here hx rfl (hb hby at_206) rfl (l' := #[.val (.int p0), .val (.int p1), .val (.int p2), .val (.long q3), .second, .val (.int (Int32.ofNat k)), .val (.int (1 : Int32)), .val (.int (Int32.ofNat j)), .val (.ref b28), .val (.int (((Int32.ofNat k) - (1 : Int32)) - (Int32.ofNat j))), .unset]) rfl kz) ?_
    obtain ⟨T64, h64, X64, e64, Ex64, A64, D64, -, st64⟩ := newO X59 hx hZ hown (hw _ (List.mem_of_getElem? (i := 5) rfl)) (hw _ (List.mem_of_getElem? (i := 6) rfl)) (hw _ (List.mem_of_getElem? (i := 7) rfl)) e59 (g := (mkF m 208 #[.val (.int p0), .val (.int p1), .val (.int p2), .val (.long q3), .second, .val (.int (Int32.ofNat k)), .val (.int (1 : Int32)), .val (.int (Int32.ofNat j)), .val (.ref b28), .val (.int (((Int32.ofNat k) - (1 : Int32)) - (Int32.ofNat j))), .unset] [])) rfl (hb hby at_208) (by decide) (by decide)
    obtain ⟨b64, gg64⟩ : ∃ z, z = h59.size := ⟨_, rfl⟩
    rw [← gg64] at A64 D64 st64
    have g_b64 : n0 ≤ b64 := Nat.le_trans (own_n0 O0) (Nat.le_of_eq gg64.symm)
    have sz_b64 : h0.size ≤ b64 := Nat.le_trans K0.1 (Nat.le_of_eq gg64.symm)
    have ne_b28_b64 : b28 ≠ b64 := Nat.ne_of_lt (Nat.lt_of_lt_of_le V_b28.lt (Nat.le_of_eq gg64.symm))
    replace V_b28 := V_b28.ext Ex64
    replace O0 := O0.ext Ex64
    replace K0 := K0.ext Ex64
    have E_b64 := A64
    have F_b64_coder : Fld Z h64 b64 "java/lang/String" "coder" "B" (.int (0 : Int32)) := D64 (Or.inr (hw _ (List.mem_of_getElem? (i := 31) rfl))) (ty := .byte) (by decide)
    have F_b64_value : Fld Z h64 b64 "java/lang/String" "value" "[B" .null := D64 (Or.inr (hw _ (List.mem_of_getElem? (i := 33) rfl))) (ty := (.array .byte)) (by decide)
    refine Goes.step (T' := T64) (g' := (mkF m 211 #[.val (.int p0), .val (.int p1), .val (.int p2), .val (.long q3), .second, .val (.int (Int32.ofNat k)), .val (.int (1 : Int32)), .val (.int (Int32.ofNat j)), .val (.ref b28), .val (.int (((Int32.ofNat k) - (1 : Int32)) - (Int32.ofNat j))), .unset] [(.ref b64)])) st64 ?_
    clear D64 A64
    refine Goes.step (T' := T64) (g' := (mkF m 212 #[.val (.int p0), .val (.int p1), .val (.int p2), .val (.long q3), .second, .val (.int (Int32.ofNat k)), .val (.int (1 : Int32)), .val (.int (Int32.ofNat j)), .val (.ref b28), .val (.int (((Int32.ofNat k) - (1 : Int32)) - (Int32.ofNat j))), .unset] [(.ref b64), (.ref b64)])) (fun _ kz => XS.dup X64.here hx rfl (hb hby at_211) rfl rfl kz) ?_
    refine Goes.step (T' := T64) (g' := (mkF m 214 #[.val (.int p0), .val (.int p1), .val (.int p2), .val (.long q3), .second, .val (.int (Int32.ofNat k)), .val (.int (1 : Int32)), .val (.int (Int32.ofNat j)), .val (.ref b28), .val (.int (((Int32.ofNat k) - (1 : Int32)) - (Int32.ofNat j))), .unset] [(.ref b28), (.ref b64), (.ref b64)])) (fun _ kz => XS.aload X64.here hx rfl (hb hby at_212) rfl rfl kz) ?_
    obtain ⟨_, _, ⟨T65, L65, k65, n65⟩, -, X65, ⟨Lc65, hQ65, l65, y65, z65⟩, st65⟩ := X64.specialBack hx (y := (⟨"java/lang/String", "<init>", "([C)V"⟩ : MethodName)) rfl hown (mvT hZ (hw _ (List.mem_of_getElem? (i := 8) rfl))) (mvT hZ (hw _ (List.mem_of_getElem? (i := 9) rfl))) (mvT hZ (hw _ (List.mem_of_getElem? (i := 10) rfl))) (by decide) (StrChars.Road.backV (W := 1) hZ (own_wBV hw) (kI := 4) (hw _ (List.mem_of_getElem? (i := 6) rfl)) (cs := cs) (bs := cs.map (fun c => c.toInt8.toInt32)) (n := k) g_b64 (own_n0 O0) E_b64 F_b64_value F_b64_coder V_b28 (Scs.ext O0.2) hz_Scs hcl rfl (by omega) (by omega) hcb rfl (by decide) (by decide)) (g := (mkF m 214 #[.val (.int p0), .val (.int p1), .val (.int p2), .val (.long q3), .second, .val (.int (Int32.ofNat k)), .val (.int (1 : Int32)), .val (.int (Int32.ofNat j)), .val (.ref b28), .val (.int (((Int32.ofNat k) - (1 : Int32)) - (Int32.ofNat j))), .unset] [(.ref b28), (.ref b64), (.ref b64)])) rfl (by rw [hml]; rfl) (Steps.refl _) (a := b64) (argsL := [(.ref b28)]) (rest := [(.ref b64)]) (lenOf pd_8 rfl) rfl (by show 2 * 0 + _ ≤ _; exact Nat.le_of_eq rfl) (hb hby at_214) (fun _ _ => ⟨rfl, e64, (by decide : 2 + 1 ≤ _), (show 12 + k ≤ 128 by omega)⟩)
    dsimp only [Pt.U, Pt.locs, Pt.cells, Pt.slots] at X65 l65 y65 z65 st65 hQ65
    subst l65 y65 z65
    obtain ⟨h65, e65⟩ : ∃ z, T65.heap = z := ⟨_, rfl⟩
    rw [e65] at hQ65
    obtain ⟨rfl, Nq65, Kq65, E_q65, Fc_q65, t65, kb65, gt65, fr65, net65, Fv_q65, V_q65⟩ := hQ65
    replace N0 := Fr.app N0 Nq65
    replace X65 := X65.mono (Nat.le_refl _) (show 12 + k ≤ 20 by omega)
    rw [List.map_map] at V_q65
    rw [← hcl] at V_q65
    have G_q65 : SX Z h65 b64 cs := ⟨E_q65, Fc_q65, hcb, _, _, Fv_q65, V_q65⟩
    replace V_b28 := V_b28.keep Kq65 (ninS ne_b28_b64 nin0)
    clear E_b64
    clear F_b64_coder
    clear F_b64_value
    replace O0 := O0.keep Kq65 (allS g_b64 all0)
    replace K0 := K0.trans Kq65 (allS (Or.inr sz_b64) all0)
    have E_b64 := E_q65
    have G_b64 := G_q65
    refine Goes.run (T' := T65) (g' := (mkF m 217 #[.val (.int p0), .val (.int p1), .val (.int p2), .val (.long q3), .second, .val (.int (Int32.ofNat k)), .val (.int (1 : Int32)), .val (.int (Int32.ofNat j)), .val (.ref b28), .val (.int (((Int32.ofNat k) - (1 : Int32)) - (Int32.ofNat j))), .unset] [(.ref b64)])) st65 ?_
    refine Goes.step (T' := T65) (g' := (mkF m 219 #[.val (.int p0), .val (.int p1), .val (.int p2), .val (.long q3), .second, .val (.int (Int32.ofNat k)), .val (.int (1 : Int32)), .val (.int (Int32.ofNat j)), .val (.ref b28), .val (.int (((Int32.ofNat k) - (1 : Int32)) - (Int32.ofNat j))), .val (.ref b64)] [])) (fun _ kz => XS.astore X65.here hx rfl (hb hby at_217) rfl rfl (l' := #[.val (.int p0), .val (.int p1), .val (.int p2), .val (.long q3), .second, .val (.int (Int32.ofNat k)), .val (.int (1 : Int32)), .val (.int (Int32.ofNat j)), .val (.ref b28), .val (.int (((Int32.ofNat k) - (1 : Int32)) - (Int32.ofNat j))), .val (.ref b64)]) rfl kz) ?_
    refine Goes.step (T' := T65) (g' := (mkF m 221 #[.val (.int p0), .val (.int p1), .val (.int p2), .val (.long q3), .second, .val (.int (Int32.ofNat k)), .val (.int (1 : Int32)), .val (.int (Int32.ofNat j)), .val (.ref b28), .val (.int (((Int32.ofNat k) - (1 : Int32)) - (Int32.ofNat j))), .val (.ref b64)] [(.ref b64)])) (fun _ kz => XS.aload X65.here hx rfl (hb hby at_219) rfl rfl kz) ?_
    obtain ⟨_, _, ⟨T66, L66, k66, n66⟩, -, X66, ⟨Lc66, hQ66, l66, y66, z66⟩, st66⟩ := Jvm.LawKit.callS X65 hx (y := (⟨"com/example/tariff/tariff/core/decimal/PlainDecimal", "fractionDigits", "(Ljava/lang/String;)I"⟩ : MethodName)) hown (mvT hZ (hw _ (List.mem_of_getElem? (i := 34) rfl))) (mvT hZ (hw _ (List.mem_of_getElem? (i := 35) rfl))) (mvT hZ (hw _ (List.mem_of_getElem? (i := 36) rfl))) (mvT hZ (hw _ (List.mem_of_getElem? (i := 37) rfl))) (by decide) (backOf (W := 0) (rm_fracD l Z a0 hw [] b64 (cs) h65 n0 O0 zcs Scs hz_Scs E_b64 G_b64 (by omega)) hZ (hw _ (List.mem_of_getElem? (i := 37) rfl)) (hw _ (List.mem_of_getElem? (i := 36) rfl)) (by decide) (by decide)) (g := (mkF m 221 #[.val (.int p0), .val (.int p1), .val (.int p2), .val (.long q3), .second, .val (.int (Int32.ofNat k)), .val (.int (1 : Int32)), .val (.int (Int32.ofNat j)), .val (.ref b28), .val (.int (((Int32.ofNat k) - (1 : Int32)) - (Int32.ofNat j))), .val (.ref b64)] [(.ref b64)])) rfl (by rw [hml]; rfl) (argsL := [(.ref b64)]) (rest := []) (lenOf pd_6 rfl) rfl (by show 2 * 0 + _ ≤ _; exact Nat.le_of_eq rfl) (hb hby at_221) (fun _ _ => ⟨rfl, e65, (by decide : 3 + 0 ≤ _), (by decide : 20 + 0 ≤ _)⟩)
    dsimp only [Pt.U, Pt.locs, Pt.cells, Pt.slots] at X66 l66 y66 z66 st66 hQ66
    subst l66 y66 z66
    obtain ⟨rfl, rfl, e66⟩ := hQ66
    replace N0 := Fr.app N0 (Fr.nil n0)
    refine Goes.step (T' := T66) (g' := (mkF m 224 #[.val (.int p0), .val (.int p1), .val (.int p2), .val (.long q3), .second, .val (.int (Int32.ofNat k)), .val (.int (1 : Int32)), .val (.int (Int32.ofNat j)), .val (.ref b28), .val (.int (((Int32.ofNat k) - (1 : Int32)) - (Int32.ofNat j))), .val (.ref b64)] [(.int (if IX cs = cs.length then 0 else Int32.ofNat cs.length - Int32.ofNat (IX cs) - 1))])) st66 ?_
    refine Goes.step (T' := T66) (g' := (mkF m 226 #[.val (.int p0), .val (.int p1), .val (.int p2), .val (.long q3), .second, .val (.int (Int32.ofNat k)), .val (.int (1 : Int32)), .val (.int (Int32.ofNat j)), .val (.ref b28), .val (.int (((Int32.ofNat k) - (1 : Int32)) - (Int32.ofNat j))), .val (.ref b64)] [(.int (((Int32.ofNat k) - (1 : Int32)) - (Int32.ofNat j))), (.int (if IX cs = cs.length then 0 else Int32.ofNat cs.length - Int32.ofNat (IX cs) - 1))])) (fun _ kz => XS.iload X66.here hx rfl (hb hby at_224) rfl  kz) ?_
    refine Goes.step (T' := T66) (g' := (mkF m 229 #[.val (.int p0), .val (.int p1), .val (.int p2), .val (.long q3), .second, .val (.int (Int32.ofNat k)), .val (.int (1 : Int32)), .val (.int (Int32.ofNat j)), .val (.ref b28), .val (.int (((Int32.ofNat k) - (1 : Int32)) - (Int32.ofNat j))), .val (.ref b64)] [])) (fun _ kz => XS.icmpNo X66.here hx rfl (hb hby at_226) rfl (teq (by rw [if_neg (by omega), hix, hcl, Int32.sub_sub, Int32.sub_sub, Int32.add_comm])).2 kz) ?_
    refine Goes.step (T' := T66) (g' := (mkF m 230 #[.val (.int p0), .val (.int p1), .val (.int p2), .val (.long q3), .second, .val (.int (Int32.ofNat k)), .val (.int (1 : Int32)), .val (.int (Int32.ofNat j)), .val (.ref b28), .val (.int (((Int32.ofNat k) - (1 : Int32)) - (Int32.ofNat j))), .val (.ref b64)] [(.int (1 : Int32))])) (fun _ kz => XS.iconst X66.here hx rfl (hb hby at_229) kz) ?_
    refine Goes.step (T' := T66) (g' := (mkF m 234 #[.val (.int p0), .val (.int p1), .val (.int p2), .val (.long q3), .second, .val (.int (Int32.ofNat k)), .val (.int (1 : Int32)), .val (.int (Int32.ofNat j)), .val (.ref b28), .val (.int (((Int32.ofNat k) - (1 : Int32)) - (Int32.ofNat j))), .val (.ref b64)] [(.int (1 : Int32))])) (fun _ kz => XS.goto X66.here hx rfl (pc0 := 230) (pc' := 234) rfl (hb hby at_230) (by decide) (by decide) kz) ?_
    obtain ⟨fs, hr, hrun, hended, hW, hsame⟩ := X66.leave (v := some (.int (nar .boolean (1 : Int32)))) (fun h => by rw [Bd.returns] at h; cases h)
    exact ⟨_, _, retN X66 hx (t := .boolean) Bd.returns (by simp) (hb hby at_234) hr, hrun, hended, _, _, rfl, (by show Q_law Z p0 p1 p2 q3 h0 n0 _ T66.heap _; rw [e66]; exact ⟨rfl, N0, K0⟩), ⟨_, rfl⟩, hW, hsame.mono (by decide) (by decide)⟩
set_option maxRecDepth 65536 in
set_option maxHeartbeats 40000000 in
theorem comes_1 {Post : Tables → Env → Array Value → State → Outcome → State → Prop} (hpost : ∀ tb e args s v u, (limb_1_1.after args s (.returned v) u = true ∧ limb_1_2.after args s (.returned v) u = true ∧ True) → FrameEnd s (.returned v) u (Jvm.fieldLocs frame_1_writes args s ++ Jvm.arrayLocs frame_1_arrays args s ++ Jvm.staticLocs frame_1_statics s) 16 128 → Post tb e args s (.returned v) u) :
    ArmFor flags0 classFile x code maxLocals ret World_1 tables_1 room_1 Calls_1 rest_1 Pre_1 Post := by
  intro l hfl _ _ p e ha hc hk s m args below hf hA hF happ hP
  obtain ⟨hcalls, hrest, hpre⟩ := hP
  obtain ⟨-, -, -, hnamed, -, -, -, hat⟩ := (Spec.applies_iff hf).mp happ
  obtain ⟨hg, hn⟩ := and_e (Cond.before_iff.mp (show (Jvm.Cond.and given_1 narrow_1).before args s = true from hpre))
  obtain ⟨hg0, hr0⟩ := and_e hg
  obtain ⟨ha0, hr1⟩ := and_e hr0
  obtain ⟨ha1, hr2⟩ := and_e hr1
  obtain ⟨ha2, hr3⟩ := and_e hr2
  have ha3 := hr3
  obtain ⟨w0, w1, w2, w3, rfl⟩ : ∃ w0 w1 w2 w3 : Value, args = #[w0, w1, w2, w3] := by
    have hs : args.size = 4 := by simpa [Cond.value, given_1] using hg0
    obtain ⟨L⟩ := args
    match L, hs with
    | [w0, w1, w2, w3], _ => exact ⟨w0, w1, w2, w3, rfl⟩
  have hw := fun d (hd : d ∈ tables_1) => atoms_spec (ws := Jvm.Cond.code x code maxLocals ret :: tables_1) hat d (List.mem_cons_of_mem _ hd)
  obtain ⟨hsets, hown0⟩ := atoms_of _ (rest_1_c_eq ▸ (show rest_1_c.before _ s = true from hrest))
  obtain ⟨i0, ei0⟩ := is_v ha0
  obtain rfl : w0 = (.int i0) := Option.some.inj ei0
  obtain ⟨i1, ei1⟩ := is_v ha1
  obtain rfl : w1 = (.int i1) := Option.some.inj ei1
  obtain ⟨i2, ei2⟩ := is_v ha2
  obtain rfl : w2 = (.int i2) := Option.some.inj ei2
  obtain ⟨i3, ei3⟩ := isL_v ha3
  obtain rfl : w3 = (.long i3) := Option.some.inj ei3
  have nn_Scs := not_v (Cond.before_iff.mp (hsets _ (List.mem_of_getElem? (i := 2) rfl)))
  obtain ⟨zcs, es_Scs⟩ := is_v (Cond.before_iff.mp (hsets _ (List.mem_of_getElem? (i := 1) rfl)))
  have Scs : Sta s s.heap "java/lang/String" "COMPACT_STRINGS" "Z" (.int zcs) := Sta.start es_Scs (Or.inl (hsets _ (List.mem_of_getElem? (i := 0) rfl)))
  have hz_Scs : ¬ (zcs = (0 : Int32)) := gotF (Cond.eq_ints es_Scs (Term.int_eval (0))) nn_Scs
  obtain ⟨n, o, h1, h2, h3, _, L, rfl, ⟨rfl, N, -⟩, hq⟩ := rm_law l s _ hw tables_1 i0 i1 i2 i3 s.heap s.heap.size (Old.start s) zcs Scs hz_Scs p e ha hc hk s m _ below hf ((Spec.applies_iff_loose hf).mp happ).1 ⟨rfl, State.Warmed39.refl s, rfl⟩ trivial
  refine ⟨n, _, h1, h2, h3, hpost _ _ _ _ _ _ ⟨Cond.after_iff.mpr rfl, Cond.after_iff.mpr (eq_i res_at (Term.int_eval (1)) rfl), trivial⟩ ⟨hq.1, hq.2.1, (hq.2.2.sift fun y hy => Or.inr (N y hy)).mono (by decide) (by decide)⟩⟩
theorem main_1_1 : Claimed_1_1 := comes_1 fun _ _ _ _ _ _ h hF => ⟨h.1, hF⟩
theorem main_1_2 : Claimed_1_2 := comes_1 fun _ _ _ _ _ _ h hF => ⟨h.2.1, hF⟩
end Jvm.Pilot.@@N@@
namespace Jvm.Pilot.@@N@@
open Jvm Jvm.ClassFile Sem Op Lib Jvm.Free Jvm.Stand Jvm.Pilot.@@N@@.Jvm.D
/-! MADE BY PROGRAM (witnessworld.py) out of the Statement's table words and the real class files: 21 classes; the members and pool entries that the words name. The judged class is class 1, her method 2. -/
namespace start1
open Jvm.ClassFile
def u (s : String) : CpInfo := .utf8 (stringToUtf16 s)
/-- a pool by its gaps: so many unusable entries, then the entry; so many at the end -/
def gap : Nat → List CpInfo → List CpInfo
  | 0, r => r
  | n + 1, r => .unusable :: gap n r
def poolList (es : List (Nat × CpInfo)) (last : Nat) : List CpInfo := es.foldr (fun e r => gap e.1 (e.2 :: r)) (gap last [])
def pool (es : List (Nat × CpInfo)) (last : Nat) : Array CpInfo := ⟨poolList es last⟩
def fileOf (pool : Array CpInfo) (this : Nat) (attrs : Array Attribute := #[]) (ms : Array MethodInfo := #[]) (fl : Nat := 33) (sup : Nat := 0) (ifs : Array Nat := #[]) (fds : Array FieldInfo := #[]) : ClassFile where
  minorVersion := 0
  majorVersion := 65
  constantPool := pool
  accessFlags := fl
  thisClass := this
  superClass := sup
  interfaces := ifs
  fields := fds
  methods := ms
  attributes := attrs
def plain (name : String) (sup : Option ClassId) : Class where
  name := name
  kind := .ordinary
  loader := none
  accessFlags := 33
  super := sup
  interfaces := #[]
  cf := none
  fields := #[]
  methods := #[]
  instanceTypes := #[]
  staticTypes := #[]
  resolved := #[]
  callSites := []
  init := .initialized
  statics := none
  mirror := none

def pool0 : Array CpInfo := pool [(5, u "<init>"), (0, u "()V"), (1, .class_ 10), (1, u "java/lang/Object")] 113

def k0c0 : Code := { maxStack := 0, maxLocals := 1, code := object_method_1_code, exceptionTable := #[], attributes := #[] }
def k0m0 : Method := { name := "<init>", desc := "()V", sig := { parameters := [], returnType := none }, accessFlags := 1, code := some k0c0 }
/-- java/lang/Object -/
def k0 : Class := { plain "java/lang/Object" none with
  accessFlags := 33
  interfaces := #[]
  cf := some (fileOf pool0 8 #[] #[{ accessFlags := 1, nameIndex := 5, descriptorIndex := 6, attributes := #[] }] 33 0 #[] #[])
  fields := #[]
  methods := #[k0m0]
  instanceTypes := #[]
  staticTypes := #[]
  resolved := Array.replicate 124 none
  statics := none }

def pool1 : Array CpInfo := pool [(2, .class_ 4), (1, u "java/lang/Object"), (0, u "<init>"), (0, u "()V"), (0, .integer 2147483647), (0, .methodref 9 10), (0, .class_ 11), (0, .nameAndType 12 13), (0, u "com/example/tariff/tariff/core/decimal/PlainDecimalFractionDigitsPinLaw"), (0, u "digit"), (0, u "(JI)C"), (0, .class_ 15), (0, u "java/lang/String"), (0, .methodref 14 17), (0, .nameAndType 5 18), (0, u "([C)V"), (0, .methodref 20 21), (0, .class_ 22), (0, .nameAndType 23 24), (0, u "com/example/tariff/tariff/core/decimal/PlainDecimal"), (0, u "fractionDigits"), (0, u "(Ljava/lang/String;)I"), (2, u "law"), (0, u "(IIIJ)Z")] 5

def k1m0 : Method := { name := "<init>", desc := "()V", sig := { parameters := [], returnType := none }, accessFlags := 2, code := none }
def k1c1 : Code := { maxStack := 5, maxLocals := 3, code := method_2_code, exceptionTable := #[], attributes := #[] }
def k1m1 : Method := { name := "digit", desc := "(JI)C", sig := { parameters := [.long, .int], returnType := some .char }, accessFlags := 10, code := some k1c1 }
def k1c2 : Code := { maxStack := 5, maxLocals := 11, code := code, exceptionTable := #[], attributes := #[] }
def k1m2 : Method := { name := "law", desc := "(IIIJ)Z", sig := { parameters := [.int, .int, .int, .long], returnType := some .boolean }, accessFlags := 9, code := some k1c2 }
/-- com/example/tariff/tariff/core/decimal/PlainDecimalFractionDigitsPinLaw -/
def k1 : Class := { plain "com/example/tariff/tariff/core/decimal/PlainDecimalFractionDigitsPinLaw" (some 0) with
  accessFlags := 49
  interfaces := #[]
  cf := some (fileOf pool1 9 #[] #[{ accessFlags := 2, nameIndex := 5, descriptorIndex := 6, attributes := #[] }, { accessFlags := 10, nameIndex := 12, descriptorIndex := 13, attributes := #[] }, { accessFlags := 9, nameIndex := 27, descriptorIndex := 28, attributes := #[] }] 49 2 #[] #[])
  fields := #[]
  methods := #[k1m0, k1m1, k1m2]
  instanceTypes := #[]
  staticTypes := #[]
  resolved := Array.replicate 34 none
  statics := none }

def pool2 : Array CpInfo := pool [(1, .class_ 2), (0, u "java/io/Serializable"), (0, .class_ 4), (0, u "java/lang/Object")] 2

/-- java/io/Serializable -/
def k2 : Class := { plain "java/io/Serializable" (some 0) with
  accessFlags := 1537
  interfaces := #[]
  cf := some (fileOf pool2 1 #[] #[] 1537 3 #[] #[])
  fields := #[]
  methods := #[]
  instanceTypes := #[]
  staticTypes := #[]
  resolved := Array.replicate 7 none
  statics := none }

def pool3 : Array CpInfo := pool [(1, .class_ 2), (0, u "java/lang/Comparable"), (0, .class_ 4), (0, u "java/lang/Object")] 7

/-- java/lang/Comparable -/
def k3 : Class := { plain "java/lang/Comparable" (some 0) with
  accessFlags := 1537
  interfaces := #[]
  cf := some (fileOf pool3 1 #[] #[] 1537 3 #[] #[])
  fields := #[]
  methods := #[]
  instanceTypes := #[]
  staticTypes := #[]
  resolved := Array.replicate 12 none
  statics := none }

def pool4 : Array CpInfo := pool [(2, .class_ 4), (1, u "java/lang/CharSequence"), (42, .class_ 48), (0, u "java/lang/CharSequence$1CodePointIterator"), (10, .class_ 60), (0, u "java/lang/CharSequence$1CharIterator"), (5, .class_ 67), (0, u "java/lang/Object")] 63

/-- java/lang/CharSequence -/
def k4 : Class := { plain "java/lang/CharSequence" (some 0) with
  accessFlags := 1537
  interfaces := #[]
  cf := some (fileOf pool4 2 #[.nestMembers #[47, 59]] #[] 1537 66 #[] #[])
  fields := #[]
  methods := #[]
  instanceTypes := #[]
  staticTypes := #[]
  resolved := Array.replicate 131 none
  statics := none }

def pool5 : Array CpInfo := pool [(1, .class_ 2), (0, u "java/lang/constant/Constable"), (0, .class_ 4), (0, u "java/lang/Object")] 6

/-- java/lang/constant/Constable -/
def k5 : Class := { plain "java/lang/constant/Constable" (some 0) with
  accessFlags := 1537
  interfaces := #[]
  cf := some (fileOf pool5 1 #[] #[] 1537 3 #[] #[])
  fields := #[]
  methods := #[]
  instanceTypes := #[]
  staticTypes := #[]
  resolved := Array.replicate 11 none
  statics := none }

def pool6 : Array CpInfo := pool [(1, .class_ 2), (0, u "java/lang/constant/ConstantDesc"), (0, .class_ 4), (0, u "java/lang/Object")] 32

/-- java/lang/constant/ConstantDesc -/
def k6 : Class := { plain "java/lang/constant/ConstantDesc" (some 0) with
  accessFlags := 1537
  interfaces := #[]
  cf := some (fileOf pool6 1 #[] #[] 1537 3 #[] #[])
  fields := #[]
  methods := #[]
  instanceTypes := #[]
  staticTypes := #[]
  resolved := Array.replicate 37 none
  statics := none }

def pool7 : Array CpInfo := pool [(1, .methodref 2 3), (0, .class_ 4), (0, .nameAndType 5 6), (0, u "java/lang/Object"), (0, u "<init>"), (0, u "()V"), (2, .fieldref 10 11), (0, .class_ 12), (0, .nameAndType 13 14), (0, u "java/lang/String"), (0, u "value"), (0, u "[B"), (0, .fieldref 10 16), (0, .nameAndType 17 18), (0, u "coder"), (0, u "B"), (2, u "hash"), (0, u "I"), (2, u "hashIsZero"), (0, u "Z"), (0, .methodref 10 28), (0, .nameAndType 5 29), (0, u "([CIILjava/lang/Void;)V"), (8, .fieldref 10 39), (0, .nameAndType 40 26), (0, u "COMPACT_STRINGS"), (1, .class_ 44), (1, u "java/lang/StringUTF16"), (0, u "compress"), (1, .methodref 42 48), (0, .nameAndType 49 50), (0, u "coderFromArrayLen"), (0, u "([BI)B"), (56, .class_ 109), (1, u "java/lang/StringLatin1"), (32, u "()Z"), (34, .methodref 42 178), (0, .nameAndType 45 179), (0, u "([CII)[B"), (154, u "()I"), (0, .methodref 10 336), (0, .nameAndType 17 337), (0, u "()B"), (154, .methodref 10 493), (0, .nameAndType 494 142), (0, u "isLatin1"), (10, .methodref 10 506), (0, .nameAndType 507 334), (0, u "length"), (67, .class_ 576), (0, u "java/lang/CharSequence"), (22, u "CASE_INSENSITIVE_ORDER"), (0, u "Ljava/util/Comparator;"), (32, .methodref 10 634), (0, .nameAndType 635 636), (0, u "indexOf"), (0, u "(II)I"), (0, .methodref 107 638), (0, .nameAndType 635 639), (0, u "([BIII)I"), (125, u "(I)I"), (244, u "([C)V"), (90, u "serialPersistentFields"), (0, u "[Ljava/io/ObjectStreamField;"), (0, .class_ 1104), (0, u "java/lang/String$CaseInsensitiveComparator"), (1, .class_ 1107), (0, u "java/io/Serializable"), (0, .class_ 1109), (0, u "java/lang/Comparable"), (0, .class_ 1111), (0, u "java/lang/constant/Constable"), (0, .class_ 1113), (0, u "java/lang/constant/ConstantDesc"), (2, u "serialVersionUID"), (0, u "J"), (3, u "REPL"), (0, u "C"), (2, u "LATIN1"), (1, u "UTF16")] 323

def k7m0 : Method := { name := "<init>", desc := "()V", sig := { parameters := [], returnType := none }, accessFlags := 1, code := none }
def k7c1 : Code := { maxStack := 5, maxLocals := 2, code := jdk_42_method_3_code, exceptionTable := #[], attributes := #[] }
def k7m1 : Method := { name := "<init>", desc := "([C)V", sig := { parameters := [(.array .char)], returnType := none }, accessFlags := 1, code := some k7c1 }
def k7c2 : Code := { maxStack := 2, maxLocals := 1, code := jdk_42_method_54_code, exceptionTable := #[], attributes := #[] }
def k7m2 : Method := { name := "length", desc := "()I", sig := { parameters := [], returnType := some .int }, accessFlags := 1, code := some k7c2 }
def k7c3 : Code := { maxStack := 3, maxLocals := 2, code := jdk_42_method_79_code, exceptionTable := #[], attributes := #[] }
def k7m3 : Method := { name := "indexOf", desc := "(I)I", sig := { parameters := [.int], returnType := some .int }, accessFlags := 1, code := some k7c3 }
def k7c4 : Code := { maxStack := 4, maxLocals := 3, code := jdk_42_method_80_code, exceptionTable := #[], attributes := #[] }
def k7m4 : Method := { name := "indexOf", desc := "(II)I", sig := { parameters := [.int, .int], returnType := some .int }, accessFlags := 1, code := some k7c4 }
def k7c5 : Code := { maxStack := 4, maxLocals := 6, code := jdk_42_method_149_code, exceptionTable := #[], attributes := #[] }
def k7m5 : Method := { name := "<init>", desc := "([CIILjava/lang/Void;)V", sig := { parameters := [(.array .char), .int, .int, (.object "java/lang/Void")], returnType := none }, accessFlags := 2, code := some k7c5 }
def k7c6 : Code := { maxStack := 1, maxLocals := 1, code := jdk_42_method_152_code, exceptionTable := #[], attributes := #[] }
def k7m6 : Method := { name := "coder", desc := "()B", sig := { parameters := [], returnType := some .byte }, accessFlags := 0, code := some k7c6 }
def k7c7 : Code := { maxStack := 1, maxLocals := 1, code := jdk_42_method_154_code, exceptionTable := #[], attributes := #[] }
def k7m7 : Method := { name := "isLatin1", desc := "()Z", sig := { parameters := [], returnType := some .boolean }, accessFlags := 0, code := some k7c7 }
/-- java/lang/String -/
def k7 : Class := { plain "java/lang/String" (some 0) with
  accessFlags := 49
  interfaces := #[2, 3, 4, 5, 6]
  cf := some (fileOf pool7 10 #[.nestMembers #[1103]] #[{ accessFlags := 1, nameIndex := 5, descriptorIndex := 6, attributes := #[] }, { accessFlags := 1, nameIndex := 5, descriptorIndex := 1010, attributes := #[] }, { accessFlags := 1, nameIndex := 507, descriptorIndex := 334, attributes := #[] }, { accessFlags := 1, nameIndex := 635, descriptorIndex := 765, attributes := #[] }, { accessFlags := 1, nameIndex := 635, descriptorIndex := 636, attributes := #[] }, { accessFlags := 2, nameIndex := 5, descriptorIndex := 29, attributes := #[] }, { accessFlags := 0, nameIndex := 17, descriptorIndex := 337, attributes := #[] }, { accessFlags := 0, nameIndex := 494, descriptorIndex := 142, attributes := #[] }] 49 2 #[1106, 1108, 575, 1110, 1112] #[{ accessFlags := 18, nameIndex := 13, descriptorIndex := 14, attributes := #[] }, { accessFlags := 18, nameIndex := 17, descriptorIndex := 18, attributes := #[] }, { accessFlags := 2, nameIndex := 21, descriptorIndex := 22, attributes := #[] }, { accessFlags := 2, nameIndex := 25, descriptorIndex := 26, attributes := #[] }, { accessFlags := 26, nameIndex := 1116, descriptorIndex := 1117, attributes := #[] }, { accessFlags := 24, nameIndex := 40, descriptorIndex := 26, attributes := #[] }, { accessFlags := 26, nameIndex := 1101, descriptorIndex := 1102, attributes := #[] }, { accessFlags := 26, nameIndex := 1121, descriptorIndex := 1122, attributes := #[] }, { accessFlags := 25, nameIndex := 599, descriptorIndex := 600, attributes := #[] }, { accessFlags := 24, nameIndex := 1125, descriptorIndex := 18, attributes := #[] }, { accessFlags := 24, nameIndex := 1127, descriptorIndex := 18, attributes := #[] }])
  fields := #[{ name := "value", type := (.array .byte), accessFlags := 18, slot := 0, constantValue := 0 }, { name := "coder", type := .byte, accessFlags := 18, slot := 1, constantValue := 0 }, { name := "hash", type := .int, accessFlags := 2, slot := 2, constantValue := 0 }, { name := "hashIsZero", type := .boolean, accessFlags := 2, slot := 3, constantValue := 0 }, { name := "serialVersionUID", type := .long, accessFlags := 26, slot := 0, constantValue := 0 }, { name := "COMPACT_STRINGS", type := .boolean, accessFlags := 24, slot := 1, constantValue := 0 }, { name := "serialPersistentFields", type := (.array (.object "java/io/ObjectStreamField")), accessFlags := 26, slot := 2, constantValue := 0 }, { name := "REPL", type := .char, accessFlags := 26, slot := 3, constantValue := 0 }, { name := "CASE_INSENSITIVE_ORDER", type := (.object "java/util/Comparator"), accessFlags := 25, slot := 4, constantValue := 0 }, { name := "LATIN1", type := .byte, accessFlags := 24, slot := 5, constantValue := 0 }, { name := "UTF16", type := .byte, accessFlags := 24, slot := 6, constantValue := 0 }]
  methods := #[k7m0, k7m1, k7m2, k7m3, k7m4, k7m5, k7m6, k7m7]
  instanceTypes := #[(.array .byte), .byte, .int, .boolean]
  staticTypes := #[.long, .boolean, (.array (.object "java/io/ObjectStreamField")), .char, (.object "java/util/Comparator"), .byte, .byte]
  resolved := Array.replicate 1451 none
  statics := some 0 }

def pool8 : Array CpInfo := pool [(6, .class_ 8), (1, u "java/lang/Object"), (0, u "<init>"), (0, u "()V"), (1, .class_ 14), (1, u "java/lang/StringUTF16"), (31, u "$assertionsDisabled"), (0, u "Z"), (13, u "HI_BYTE_SHIFT"), (0, u "I"), (2, u "LO_BYTE_SHIFT"), (49, .methodref 12 116), (0, .nameAndType 117 118), (0, u "compress"), (0, u "([CI[BII)I"), (3, u "([CII)[B"), (138, u "coderFromArrayLen"), (0, u "([BI)B"), (106, .class_ 371), (1, u "java/lang/StringUTF16$LinesSpliterator"), (58, u "MAX_LENGTH"), (196, .class_ 628), (0, u "java/lang/StringUTF16$CodePointsSpliterator"), (0, .class_ 630), (0, u "java/lang/StringUTF16$CharsSpliterator")] 4

def k8m0 : Method := { name := "<init>", desc := "()V", sig := { parameters := [], returnType := none }, accessFlags := 0, code := none }
def k8c1 : Code := { maxStack := 2, maxLocals := 2, code := jdk_52_method_15_code, exceptionTable := #[], attributes := #[] }
def k8m1 : Method := { name := "coderFromArrayLen", desc := "([BI)B", sig := { parameters := [(.array .byte), .int], returnType := some .byte }, accessFlags := 8, code := some k8c1 }
def k8c2 : Code := { maxStack := 5, maxLocals := 6, code := jdk_52_method_16_code, exceptionTable := #[], attributes := #[] }
def k8m2 : Method := { name := "compress", desc := "([CII)[B", sig := { parameters := [(.array .char), .int, .int], returnType := some (.array .byte) }, accessFlags := 9, code := some k8c2 }
def k8c3 : Code := { maxStack := 3, maxLocals := 7, code := jdk_52_method_21_code, exceptionTable := #[], attributes := #[] }
def k8m3 : Method := { name := "compress", desc := "([CI[BII)I", sig := { parameters := [(.array .char), .int, (.array .byte), .int, .int], returnType := some .int }, accessFlags := 9, code := some k8c3 }
/-- java/lang/StringUTF16 -/
def k8 : Class := { plain "java/lang/StringUTF16" (some 0) with
  accessFlags := 48
  interfaces := #[]
  cf := some (fileOf pool8 12 #[.nestMembers #[627, 629, 369]] #[{ accessFlags := 0, nameIndex := 9, descriptorIndex := 10, attributes := #[] }, { accessFlags := 8, nameIndex := 261, descriptorIndex := 262, attributes := #[] }, { accessFlags := 9, nameIndex := 117, descriptorIndex := 122, attributes := #[] }, { accessFlags := 9, nameIndex := 117, descriptorIndex := 118, attributes := #[] }] 48 6 #[] #[{ accessFlags := 26, nameIndex := 61, descriptorIndex := 62, attributes := #[] }, { accessFlags := 26, nameIndex := 65, descriptorIndex := 62, attributes := #[] }, { accessFlags := 24, nameIndex := 430, descriptorIndex := 62, attributes := #[] }, { accessFlags := 4120, nameIndex := 46, descriptorIndex := 47, attributes := #[] }])
  fields := #[{ name := "HI_BYTE_SHIFT", type := .int, accessFlags := 26, slot := 0, constantValue := 0 }, { name := "LO_BYTE_SHIFT", type := .int, accessFlags := 26, slot := 1, constantValue := 0 }, { name := "MAX_LENGTH", type := .int, accessFlags := 24, slot := 2, constantValue := 0 }, { name := "$assertionsDisabled", type := .boolean, accessFlags := 4120, slot := 3, constantValue := 0 }]
  methods := #[k8m0, k8m1, k8m2, k8m3]
  instanceTypes := #[]
  staticTypes := #[.int, .int, .int, .boolean]
  resolved := Array.replicate 635 none
  statics := none }

def pool9 : Array CpInfo := pool [(1, .class_ 2), (0, u "com/example/tariff/tariff/core/decimal/PlainDecimal"), (1, .class_ 6), (1, u "java/lang/Object"), (0, u "<init>"), (0, u "()V"), (2, u "NOTATION"), (0, u "Ljava/util/regex/Pattern;"), (12, .methodref 1 26), (0, .nameAndType 27 28), (0, u "pointIndex"), (0, u "(Ljava/lang/String;)I"), (1, .class_ 32), (1, u "java/lang/String"), (2, .methodref 30 36), (0, .nameAndType 37 38), (0, u "length"), (0, u "()I"), (5, u "fractionDigits"), (38, .methodref 30 84), (0, .nameAndType 85 86), (0, u "indexOf"), (0, u "(I)I"), (6, u "MAX_DIGITS"), (0, u "I"), (2, u "BEYOND_THE_BOUND"), (0, u "Ljava/lang/String;")] 15

def k9m0 : Method := { name := "<init>", desc := "()V", sig := { parameters := [], returnType := none }, accessFlags := 2, code := none }
def k9c1 : Code := { maxStack := 2, maxLocals := 2, code := prog_15_method_4_code, exceptionTable := #[], attributes := #[] }
def k9m1 : Method := { name := "fractionDigits", desc := "(Ljava/lang/String;)I", sig := { parameters := [(.object "java/lang/String")], returnType := some .int }, accessFlags := 9, code := some k9c1 }
def k9c2 : Code := { maxStack := 2, maxLocals := 2, code := prog_15_method_9_code, exceptionTable := #[], attributes := #[] }
def k9m2 : Method := { name := "pointIndex", desc := "(Ljava/lang/String;)I", sig := { parameters := [(.object "java/lang/String")], returnType := some .int }, accessFlags := 10, code := some k9c2 }
/-- com/example/tariff/tariff/core/decimal/PlainDecimal -/
def k9 : Class := { plain "com/example/tariff/tariff/core/decimal/PlainDecimal" (some 0) with
  accessFlags := 49
  interfaces := #[]
  cf := some (fileOf pool9 1 #[] #[{ accessFlags := 2, nameIndex := 7, descriptorIndex := 8, attributes := #[] }, { accessFlags := 9, nameIndex := 44, descriptorIndex := 28, attributes := #[] }, { accessFlags := 10, nameIndex := 27, descriptorIndex := 28, attributes := #[] }] 49 4 #[] #[{ accessFlags := 25, nameIndex := 93, descriptorIndex := 94, attributes := #[] }, { accessFlags := 25, nameIndex := 97, descriptorIndex := 98, attributes := #[] }, { accessFlags := 26, nameIndex := 11, descriptorIndex := 12, attributes := #[] }])
  fields := #[{ name := "MAX_DIGITS", type := .int, accessFlags := 25, slot := 0, constantValue := 0 }, { name := "BEYOND_THE_BOUND", type := (.object "java/lang/String"), accessFlags := 25, slot := 1, constantValue := 0 }, { name := "NOTATION", type := (.object "java/util/regex/Pattern"), accessFlags := 26, slot := 2, constantValue := 0 }]
  methods := #[k9m0, k9m1, k9m2]
  instanceTypes := #[]
  staticTypes := #[.int, (.object "java/lang/String"), (.object "java/util/regex/Pattern")]
  resolved := Array.replicate 114 none
  statics := none }

def pool10 : Array CpInfo := pool [(4, .class_ 6), (1, u "java/lang/Object"), (0, u "<init>"), (0, u "()V"), (5, .class_ 16), (1, u "java/lang/StringLatin1"), (21, .methodref 39 40), (0, .class_ 41), (0, .nameAndType 42 43), (0, u "java/lang/Math"), (0, u "min"), (0, u "(II)I"), (44, .methodref 14 89), (0, .nameAndType 90 91), (0, u "canEncode"), (0, u "(I)Z"), (0, .methodref 39 93), (0, .nameAndType 94 43), (0, u "max"), (0, .methodref 14 96), (0, .nameAndType 97 98), (0, u "indexOfChar"), (0, u "([BIII)I"), (2, u "indexOf"), (19, u "$assertionsDisabled"), (0, u "Z"), (98, .class_ 223), (1, u "java/lang/StringLatin1$LinesSpliterator"), (166, .class_ 391), (0, u "java/lang/StringLatin1$CharsSpliterator")] 3

def k10m0 : Method := { name := "<init>", desc := "()V", sig := { parameters := [], returnType := none }, accessFlags := 0, code := none }
def k10c1 : Code := { maxStack := 2, maxLocals := 1, code := jdk_43_method_4_code, exceptionTable := #[], attributes := #[] }
def k10m1 : Method := { name := "canEncode", desc := "(I)Z", sig := { parameters := [.int], returnType := some .boolean }, accessFlags := 9, code := some k10c1 }
def k10c2 : Code := { maxStack := 4, maxLocals := 4, code := jdk_43_method_22_code, exceptionTable := #[], attributes := #[] }
def k10m2 : Method := { name := "indexOf", desc := "([BIII)I", sig := { parameters := [(.array .byte), .int, .int, .int], returnType := some .int }, accessFlags := 9, code := some k10c2 }
def k10c3 : Code := { maxStack := 2, maxLocals := 6, code := jdk_43_method_23_code, exceptionTable := #[], attributes := #[] }
def k10m3 : Method := { name := "indexOfChar", desc := "([BIII)I", sig := { parameters := [(.array .byte), .int, .int, .int], returnType := some .int }, accessFlags := 10, code := some k10c3 }
/-- java/lang/StringLatin1 -/
def k10 : Class := { plain "java/lang/StringLatin1" (some 0) with
  accessFlags := 48
  interfaces := #[]
  cf := some (fileOf pool10 14 #[.nestMembers #[390, 221]] #[{ accessFlags := 0, nameIndex := 7, descriptorIndex := 8, attributes := #[] }, { accessFlags := 9, nameIndex := 90, descriptorIndex := 91, attributes := #[] }, { accessFlags := 9, nameIndex := 101, descriptorIndex := 98, attributes := #[] }, { accessFlags := 10, nameIndex := 97, descriptorIndex := 98, attributes := #[] }] 48 4 #[] #[{ accessFlags := 4120, nameIndex := 121, descriptorIndex := 122, attributes := #[] }])
  fields := #[{ name := "$assertionsDisabled", type := .boolean, accessFlags := 4120, slot := 0, constantValue := 0 }]
  methods := #[k10m0, k10m1, k10m2, k10m3]
  instanceTypes := #[]
  staticTypes := #[.boolean]
  resolved := Array.replicate 395 none
  statics := none }

def pool11 : Array CpInfo := pool [(1, .class_ 2), (0, u "java/lang/Math"), (1, .class_ 6), (1, u "java/lang/Object"), (0, u "<init>"), (0, u "()V"), (89, .class_ 100), (1, u "java/lang/Math$RandomNumberGeneratorHolder"), (71, u "negativeZeroFloatBits"), (0, u "J"), (2, u "negativeZeroDoubleBits"), (21, u "max"), (2, u "min"), (43, u "$assertionsDisabled"), (0, u "Z"), (88, u "(II)I"), (2, u "twoToTheDoubleScaleDown"), (0, u "D"), (4, u "twoToTheDoubleScaleUp"), (9, u "E"), (3, u "PI"), (2, u "TAU"), (2, u "DEGREES_TO_RADIANS"), (0, u "RADIANS_TO_DEGREES")] 94

def k11m0 : Method := { name := "<init>", desc := "()V", sig := { parameters := [], returnType := none }, accessFlags := 2, code := none }
def k11c1 : Code := { maxStack := 2, maxLocals := 2, code := jdk_29_method_65_code, exceptionTable := #[], attributes := #[] }
def k11m1 : Method := { name := "max", desc := "(II)I", sig := { parameters := [.int, .int], returnType := some .int }, accessFlags := 9, code := some k11c1 }
def k11c2 : Code := { maxStack := 2, maxLocals := 2, code := jdk_29_method_69_code, exceptionTable := #[], attributes := #[] }
def k11m2 : Method := { name := "min", desc := "(II)I", sig := { parameters := [.int, .int], returnType := some .int }, accessFlags := 9, code := some k11c2 }
/-- java/lang/Math -/
def k11 : Class := { plain "java/lang/Math" (some 0) with
  accessFlags := 49
  interfaces := #[]
  cf := some (fileOf pool11 1 #[.nestMembers #[98]] #[{ accessFlags := 2, nameIndex := 7, descriptorIndex := 8, attributes := #[] }, { accessFlags := 9, nameIndex := 198, descriptorIndex := 335, attributes := #[] }, { accessFlags := 9, nameIndex := 201, descriptorIndex := 335, attributes := #[] }] 49 4 #[] #[{ accessFlags := 25, nameIndex := 354, descriptorIndex := 339, attributes := #[] }, { accessFlags := 25, nameIndex := 358, descriptorIndex := 339, attributes := #[] }, { accessFlags := 25, nameIndex := 361, descriptorIndex := 339, attributes := #[] }, { accessFlags := 26, nameIndex := 364, descriptorIndex := 339, attributes := #[] }, { accessFlags := 26, nameIndex := 365, descriptorIndex := 339, attributes := #[] }, { accessFlags := 26, nameIndex := 172, descriptorIndex := 173, attributes := #[] }, { accessFlags := 26, nameIndex := 176, descriptorIndex := 173, attributes := #[] }, { accessFlags := 8, nameIndex := 344, descriptorIndex := 339, attributes := #[] }, { accessFlags := 8, nameIndex := 338, descriptorIndex := 339, attributes := #[] }, { accessFlags := 4120, nameIndex := 245, descriptorIndex := 246, attributes := #[] }])
  fields := #[{ name := "E", type := .double, accessFlags := 25, slot := 0, constantValue := 0 }, { name := "PI", type := .double, accessFlags := 25, slot := 1, constantValue := 0 }, { name := "TAU", type := .double, accessFlags := 25, slot := 2, constantValue := 0 }, { name := "DEGREES_TO_RADIANS", type := .double, accessFlags := 26, slot := 3, constantValue := 0 }, { name := "RADIANS_TO_DEGREES", type := .double, accessFlags := 26, slot := 4, constantValue := 0 }, { name := "negativeZeroFloatBits", type := .long, accessFlags := 26, slot := 5, constantValue := 0 }, { name := "negativeZeroDoubleBits", type := .long, accessFlags := 26, slot := 6, constantValue := 0 }, { name := "twoToTheDoubleScaleUp", type := .double, accessFlags := 8, slot := 7, constantValue := 0 }, { name := "twoToTheDoubleScaleDown", type := .double, accessFlags := 8, slot := 8, constantValue := 0 }, { name := "$assertionsDisabled", type := .boolean, accessFlags := 4120, slot := 9, constantValue := 0 }]
  methods := #[k11m0, k11m1, k11m2]
  instanceTypes := #[]
  staticTypes := #[.double, .double, .double, .double, .double, .long, .long, .double, .double, .boolean]
  resolved := Array.replicate 460 none
  statics := none }

def pool12 : Array CpInfo := pool [(2, .class_ 4), (1, u "java/lang/Object"), (0, u "<init>"), (0, u "()V"), (17, .class_ 26), (1, u "jdk/internal/util/Preconditions"), (28, .class_ 56), (0, u "jdk/internal/util/Preconditions$4"), (57, .class_ 115), (0, u "jdk/internal/util/Preconditions$1"), (7, u "SIOOBE_FORMATTER"), (0, u "Ljava/util/function/BiFunction;"), (0, .class_ 126), (0, u "jdk/internal/util/Preconditions$2"), (3, u "AIOOBE_FORMATTER"), (0, .class_ 132), (0, u "jdk/internal/util/Preconditions$3"), (3, u "IOOBE_FORMATTER")] 57

def k12m0 : Method := { name := "<init>", desc := "()V", sig := { parameters := [], returnType := none }, accessFlags := 1, code := none }
/-- jdk/internal/util/Preconditions -/
def k12 : Class := { plain "jdk/internal/util/Preconditions" (some 0) with
  accessFlags := 33
  interfaces := #[]
  cf := some (fileOf pool12 24 #[.nestMembers #[55, 131, 125, 114]] #[{ accessFlags := 1, nameIndex := 5, descriptorIndex := 6, attributes := #[] }] 33 2 #[] #[{ accessFlags := 25, nameIndex := 123, descriptorIndex := 124, attributes := #[] }, { accessFlags := 25, nameIndex := 130, descriptorIndex := 124, attributes := #[] }, { accessFlags := 25, nameIndex := 136, descriptorIndex := 124, attributes := #[] }])
  fields := #[{ name := "SIOOBE_FORMATTER", type := (.object "java/util/function/BiFunction"), accessFlags := 25, slot := 0, constantValue := 0 }, { name := "AIOOBE_FORMATTER", type := (.object "java/util/function/BiFunction"), accessFlags := 25, slot := 1, constantValue := 0 }, { name := "IOOBE_FORMATTER", type := (.object "java/util/function/BiFunction"), accessFlags := 25, slot := 2, constantValue := 0 }]
  methods := #[k12m0]
  instanceTypes := #[]
  staticTypes := #[(.object "java/util/function/BiFunction"), (.object "java/util/function/BiFunction"), (.object "java/util/function/BiFunction")]
  resolved := Array.replicate 194 none
  statics := some 1 }

def pool13 : Array CpInfo := pool [(9, u "<init>"), (6, .class_ 18), (1, u "java/lang/Object"), (0, u "()V"), (1, .class_ 23), (1, u "jdk/internal/util/ArraysSupport"), (0, u "LOG2_ARRAY_LONG_INDEX_SCALE"), (0, u "I"), (2, u "U"), (0, u "Ljdk/internal/misc/Unsafe;"), (8, u "BIG_ENDIAN"), (0, u "Z"), (8, u "LOG2_BYTE_BIT_SIZE"), (4, u "LOG2_ARRAY_INT_INDEX_SCALE"), (54, u "JLA"), (0, u "Ljdk/internal/access/JavaLangAccess;"), (11, u "LOG2_ARRAY_BOOLEAN_INDEX_SCALE"), (9, u "LOG2_ARRAY_BYTE_INDEX_SCALE"), (5, u "LOG2_ARRAY_CHAR_INDEX_SCALE"), (5, u "LOG2_ARRAY_SHORT_INDEX_SCALE"), (18, u "LOG2_ARRAY_FLOAT_INDEX_SCALE"), (24, u "LOG2_ARRAY_DOUBLE_INDEX_SCALE"), (89, u "T_BOOLEAN"), (2, u "T_CHAR"), (1, u "T_FLOAT"), (1, u "T_DOUBLE"), (1, u "T_BYTE"), (1, u "T_SHORT"), (1, u "T_INT"), (1, u "T_LONG"), (1, u "SOFT_MAX_ARRAY_LENGTH")] 83

def k13m0 : Method := { name := "<init>", desc := "()V", sig := { parameters := [], returnType := none }, accessFlags := 2, code := none }
/-- jdk/internal/util/ArraysSupport -/
def k13 : Class := { plain "jdk/internal/util/ArraysSupport" (some 0) with
  accessFlags := 33
  interfaces := #[]
  cf := some (fileOf pool13 21 #[] #[{ accessFlags := 2, nameIndex := 9, descriptorIndex := 19, attributes := #[] }] 33 16 #[] #[{ accessFlags := 24, nameIndex := 28, descriptorIndex := 29, attributes := #[] }, { accessFlags := 26, nameIndex := 38, descriptorIndex := 39, attributes := #[] }, { accessFlags := 25, nameIndex := 121, descriptorIndex := 25, attributes := #[] }, { accessFlags := 25, nameIndex := 131, descriptorIndex := 25, attributes := #[] }, { accessFlags := 25, nameIndex := 137, descriptorIndex := 25, attributes := #[] }, { accessFlags := 25, nameIndex := 143, descriptorIndex := 25, attributes := #[] }, { accessFlags := 25, nameIndex := 53, descriptorIndex := 25, attributes := #[] }, { accessFlags := 25, nameIndex := 24, descriptorIndex := 25, attributes := #[] }, { accessFlags := 25, nameIndex := 162, descriptorIndex := 25, attributes := #[] }, { accessFlags := 25, nameIndex := 187, descriptorIndex := 25, attributes := #[] }, { accessFlags := 26, nameIndex := 48, descriptorIndex := 25, attributes := #[] }, { accessFlags := 25, nameIndex := 277, descriptorIndex := 25, attributes := #[] }, { accessFlags := 25, nameIndex := 280, descriptorIndex := 25, attributes := #[] }, { accessFlags := 25, nameIndex := 282, descriptorIndex := 25, attributes := #[] }, { accessFlags := 25, nameIndex := 284, descriptorIndex := 25, attributes := #[] }, { accessFlags := 25, nameIndex := 286, descriptorIndex := 25, attributes := #[] }, { accessFlags := 25, nameIndex := 288, descriptorIndex := 25, attributes := #[] }, { accessFlags := 25, nameIndex := 290, descriptorIndex := 25, attributes := #[] }, { accessFlags := 25, nameIndex := 292, descriptorIndex := 25, attributes := #[] }, { accessFlags := 26, nameIndex := 108, descriptorIndex := 109, attributes := #[] }, { accessFlags := 25, nameIndex := 294, descriptorIndex := 25, attributes := #[] }])
  fields := #[{ name := "U", type := (.object "jdk/internal/misc/Unsafe"), accessFlags := 24, slot := 0, constantValue := 0 }, { name := "BIG_ENDIAN", type := .boolean, accessFlags := 26, slot := 1, constantValue := 0 }, { name := "LOG2_ARRAY_BOOLEAN_INDEX_SCALE", type := .int, accessFlags := 25, slot := 2, constantValue := 0 }, { name := "LOG2_ARRAY_BYTE_INDEX_SCALE", type := .int, accessFlags := 25, slot := 3, constantValue := 0 }, { name := "LOG2_ARRAY_CHAR_INDEX_SCALE", type := .int, accessFlags := 25, slot := 4, constantValue := 0 }, { name := "LOG2_ARRAY_SHORT_INDEX_SCALE", type := .int, accessFlags := 25, slot := 5, constantValue := 0 }, { name := "LOG2_ARRAY_INT_INDEX_SCALE", type := .int, accessFlags := 25, slot := 6, constantValue := 0 }, { name := "LOG2_ARRAY_LONG_INDEX_SCALE", type := .int, accessFlags := 25, slot := 7, constantValue := 0 }, { name := "LOG2_ARRAY_FLOAT_INDEX_SCALE", type := .int, accessFlags := 25, slot := 8, constantValue := 0 }, { name := "LOG2_ARRAY_DOUBLE_INDEX_SCALE", type := .int, accessFlags := 25, slot := 9, constantValue := 0 }, { name := "LOG2_BYTE_BIT_SIZE", type := .int, accessFlags := 26, slot := 10, constantValue := 0 }, { name := "T_BOOLEAN", type := .int, accessFlags := 25, slot := 11, constantValue := 0 }, { name := "T_CHAR", type := .int, accessFlags := 25, slot := 12, constantValue := 0 }, { name := "T_FLOAT", type := .int, accessFlags := 25, slot := 13, constantValue := 0 }, { name := "T_DOUBLE", type := .int, accessFlags := 25, slot := 14, constantValue := 0 }, { name := "T_BYTE", type := .int, accessFlags := 25, slot := 15, constantValue := 0 }, { name := "T_SHORT", type := .int, accessFlags := 25, slot := 16, constantValue := 0 }, { name := "T_INT", type := .int, accessFlags := 25, slot := 17, constantValue := 0 }, { name := "T_LONG", type := .int, accessFlags := 25, slot := 18, constantValue := 0 }, { name := "JLA", type := (.object "jdk/internal/access/JavaLangAccess"), accessFlags := 26, slot := 19, constantValue := 0 }, { name := "SOFT_MAX_ARRAY_LENGTH", type := .int, accessFlags := 25, slot := 20, constantValue := 0 }]
  methods := #[k13m0]
  instanceTypes := #[]
  staticTypes := #[(.object "jdk/internal/misc/Unsafe"), .boolean, .int, .int, .int, .int, .int, .int, .int, .int, .int, .int, .int, .int, .int, .int, .int, .int, .int, (.object "jdk/internal/access/JavaLangAccess"), .int]
  resolved := Array.replicate 378 none
  statics := none }

def pool14 : Array CpInfo := pool [(1, u "java/lang/Cloneable"), (0, .class_ 1), (0, u "java/lang/Object"), (0, .class_ 3)] 3

/-- java/lang/Cloneable -/
def k14 : Class := { plain "java/lang/Cloneable" (some 0) with
  accessFlags := 1537
  interfaces := #[]
  cf := some (fileOf pool14 2 #[] #[] 1537 4 #[] #[])
  fields := #[]
  methods := #[]
  instanceTypes := #[]
  staticTypes := #[]
  resolved := Array.replicate 8 none
  statics := none }

/-- the primitive byte -/
def k15 : Class := { plain "byte" none with kind := .primitive 'B', accessFlags := 0x411 }
/-- [B -/
def k16 : Class := { plain "[B" (some 0) with kind := .array 15 .byte, interfaces := #[14, 2], accessFlags := 1041 }

/-- the primitive char -/
def k17 : Class := { plain "char" none with kind := .primitive 'C', accessFlags := 0x411 }
/-- [C -/
def k18 : Class := { plain "[C" (some 0) with kind := .array 17 .char, interfaces := #[14, 2], accessFlags := 1041 }

/-- the primitive int -/
def k19 : Class := { plain "int" none with kind := .primitive 'I', accessFlags := 0x411 }
/-- [I -/
def k20 : Class := { plain "[I" (some 0) with kind := .array 19 .int, interfaces := #[14, 2], accessFlags := 1041 }

def heap : Heap := #[{ cls := 7, slots := #[.long 0, .int 1, .null, .int 0, .null, .int 0, .int 0], vm := .statics 7 },
  { cls := 12, slots := #[.null, .null, .null], vm := .statics 12 }]
def classes : Array Class := #[k0, k1, k2, k3, k4, k5, k6, k7, k8, k9, k10, k11, k12, k13, k14, k15, k16, k17, k18, k19, k20]
def interned : List (Array UInt16 × Addr) := []
def slotsUsed : Nat := 10
def theMethod : MethodId := ⟨1, 2⟩
def args0 : Array Value := #[.int 5, .int 6, .int 1, .long 2]
def aboutOver (below : List Frame) : State where
  vm := { classes := classes, interned := interned.toArray }
  heap := heap
  slotsUsed := slotsUsed
  threads := #[{ frames := .invoking theMethod args0 :: below }]
def below0 : List Frame := [.native { method := ⟨0, 0⟩, args := #[] }]
def about1 : State := aboutOver below0
def p0 : Program := .bare "" "" ""
def e0 : Env := launch0.env 0 0 0
theorem w_frames : about1.frames = Frame.invoking theMethod args0 :: below0 := rfl
set_option maxRecDepth 65536 in
theorem w_args : argsFit about1.vm theMethod args0 = true := by decide +kernel
set_option maxRecDepth 65536 in
theorem w_heap : heapFits about1 = true := by decide +kernel
set_option maxRecDepth 65536 in
theorem w_runnable : about1.curStatus? = some .runnable := by decide +kernel
set_option maxRecDepth 65536 in
theorem w_alone : about1.alone = true := by decide +kernel
set_option maxRecDepth 65536 in
theorem w_named : about1.methodNamed? x = some theMethod := by decide +kernel
set_option maxRecDepth 65536 in
theorem w_hears : about1.hears theMethod below0 = true := by decide +kernel
set_option maxRecDepth 65536 in
theorem w_ripe : about1.ripe theMethod args0 below0 = true := by decide +kernel
theorem w_running : about1.status = .running := rfl
set_option maxRecDepth 65536 in
theorem w_room : about1.hasRoom e0.platform room_1 = true :=
  launch0.hasRoom_least _ room_1 (by decide +kernel) (by decide +kernel) (by decide +kernel) (by decide +kernel) (by decide +kernel) (by decide +kernel)
theorem allAtoms_all (ts : List Jvm.Cond) (a : Array Jvm.Value) (st : Jvm.State) : (allAtoms ts).before a st = ts.all (fun c => c.before a st) := by
  induction ts with
  | nil => rfl
  | cons c t ih =>
    show (Jvm.Cond.and c (allAtoms t)).before a st = _
    rw [Jvm.Cond.before_and, ih, List.all_cons]
def words1 : List Jvm.Cond := Jvm.Cond.code x code maxLocals ret :: tables_1
/-- a 'code' word, met by the world's own term for the bytes: nothing is compared byte by byte -/
theorem code_word {y : MethodName} {bytes : ByteArray} {mx : Nat} {rt : Option FieldType} {a : Array Value} {s : State} {m : MethodId} {meth : Method} {c : Code} (h1 : s.methodNamed? y = some m) (h2 : s.vm.method? m = some meth) (h3 : meth.code = some c) (h4 : c.code = bytes)
    (h5 : (c.maxLocals == mx && c.exceptionTable.isEmpty && decide (c.maxStack ≤ mostOperands) && decide (meth.sig.returnType = rt) && !meth.locks && decide (parseMethodDescriptor y.desc = some meth.sig)) = true) : (Jvm.Cond.code y bytes mx rt).before a s = true := by
  simp only [Bool.and_eq_true, beq_iff_eq, Bool.not_eq_true', decide_eq_true_eq] at h5
  obtain ⟨⟨⟨⟨⟨g1, g2⟩, g3⟩, g4⟩, g5⟩, g6⟩ := h5
  simp [Cond.before, Cond.holds, Cond.value, h1, h2, h3, h4, g1, g2, g3, g4, g5, g6]
def isCode : Jvm.Cond → Bool
  | .code _ _ _ _ => true
  | _ => false
theorem all_split {L : List Jvm.Cond} {P : Jvm.Cond → Bool} (h1 : L.all (fun c => isCode c || P c) = true) (h2 : ∀ c ∈ L.filter isCode, P c = true) : L.all P = true := by
  refine List.all_eq_true.mpr fun c hc => ?_
  have h := List.all_eq_true.mp h1 c hc
  rcases Bool.eq_false_or_eq_true (isCode c) with hi | hi
  · exact h2 c (List.mem_filter.mpr ⟨hc, hi⟩)
  · simpa [hi] using h
set_option maxRecDepth 65536 in
theorem w_c0 : (Jvm.Cond.code x code maxLocals ret).before args0 about1 = true := code_word (m := ⟨1, 2⟩) (meth := k1m2) (c := k1c2) (by decide +kernel) rfl rfl rfl (by decide +kernel)
set_option maxRecDepth 65536 in
theorem w_c1 : (Jvm.Cond.code ({ cls := "com/example/tariff/tariff/core/decimal/PlainDecimalFractionDigitsPinLaw", name := "digit", desc := "(JI)C" } : Jvm.MethodName) method_2_code (3 : Nat) (Option.some Jvm.ClassFile.FieldType.char)).before args0 about1 = true := code_word (m := ⟨1, 1⟩) (meth := k1m1) (c := k1c1) (by decide +kernel) rfl rfl rfl (by decide +kernel)
set_option maxRecDepth 65536 in
theorem w_c2 : (Jvm.Cond.code ({ cls := "java/lang/String", name := "<init>", desc := "([C)V" } : Jvm.MethodName) jdk_42_method_3_code (2 : Nat) (Option.none : Option Jvm.ClassFile.FieldType)).before args0 about1 = true := code_word (m := ⟨7, 1⟩) (meth := k7m1) (c := k7c1) (by decide +kernel) rfl rfl rfl (by decide +kernel)
set_option maxRecDepth 65536 in
theorem w_c3 : (Jvm.Cond.code ({ cls := "java/lang/String", name := "<init>", desc := "([CIILjava/lang/Void;)V" } : Jvm.MethodName) jdk_42_method_149_code (6 : Nat) (Option.none : Option Jvm.ClassFile.FieldType)).before args0 about1 = true := code_word (m := ⟨7, 5⟩) (meth := k7m5) (c := k7c5) (by decide +kernel) rfl rfl rfl (by decide +kernel)
set_option maxRecDepth 65536 in
theorem w_c4 : (Jvm.Cond.code ({ cls := "java/lang/Object", name := "<init>", desc := "()V" } : Jvm.MethodName) object_method_1_code (1 : Nat) (Option.none : Option Jvm.ClassFile.FieldType)).before args0 about1 = true := code_word (m := ⟨0, 0⟩) (meth := k0m0) (c := k0c0) (by decide +kernel) rfl rfl rfl (by decide +kernel)
set_option maxRecDepth 65536 in
theorem w_c5 : (Jvm.Cond.code ({ cls := "java/lang/StringUTF16", name := "compress", desc := "([CII)[B" } : Jvm.MethodName) jdk_52_method_16_code (6 : Nat) (Option.some (Jvm.ClassFile.FieldType.array Jvm.ClassFile.FieldType.byte))).before args0 about1 = true := code_word (m := ⟨8, 2⟩) (meth := k8m2) (c := k8c2) (by decide +kernel) rfl rfl rfl (by decide +kernel)
set_option maxRecDepth 65536 in
theorem w_c6 : (Jvm.Cond.code ({ cls := "java/lang/StringUTF16", name := "compress", desc := "([CI[BII)I" } : Jvm.MethodName) jdk_52_method_21_code (7 : Nat) (Option.some Jvm.ClassFile.FieldType.int)).before args0 about1 = true := code_word (m := ⟨8, 3⟩) (meth := k8m3) (c := k8c3) (by decide +kernel) rfl rfl rfl (by decide +kernel)
set_option maxRecDepth 65536 in
theorem w_c7 : (Jvm.Cond.code ({ cls := "java/lang/StringUTF16", name := "coderFromArrayLen", desc := "([BI)B" } : Jvm.MethodName) jdk_52_method_15_code (2 : Nat) (Option.some Jvm.ClassFile.FieldType.byte)).before args0 about1 = true := code_word (m := ⟨8, 1⟩) (meth := k8m1) (c := k8c1) (by decide +kernel) rfl rfl rfl (by decide +kernel)
set_option maxRecDepth 65536 in
theorem w_c8 : (Jvm.Cond.code ({ cls := "com/example/tariff/tariff/core/decimal/PlainDecimal", name := "fractionDigits", desc := "(Ljava/lang/String;)I" } : Jvm.MethodName) prog_15_method_4_code (2 : Nat) (Option.some Jvm.ClassFile.FieldType.int)).before args0 about1 = true := code_word (m := ⟨9, 1⟩) (meth := k9m1) (c := k9c1) (by decide +kernel) rfl rfl rfl (by decide +kernel)
set_option maxRecDepth 65536 in
theorem w_c9 : (Jvm.Cond.code ({ cls := "com/example/tariff/tariff/core/decimal/PlainDecimal", name := "pointIndex", desc := "(Ljava/lang/String;)I" } : Jvm.MethodName) prog_15_method_9_code (2 : Nat) (Option.some Jvm.ClassFile.FieldType.int)).before args0 about1 = true := code_word (m := ⟨9, 2⟩) (meth := k9m2) (c := k9c2) (by decide +kernel) rfl rfl rfl (by decide +kernel)
set_option maxRecDepth 65536 in
theorem w_c10 : (Jvm.Cond.code ({ cls := "java/lang/String", name := "indexOf", desc := "(I)I" } : Jvm.MethodName) jdk_42_method_79_code (2 : Nat) (Option.some Jvm.ClassFile.FieldType.int)).before args0 about1 = true := code_word (m := ⟨7, 3⟩) (meth := k7m3) (c := k7c3) (by decide +kernel) rfl rfl rfl (by decide +kernel)
set_option maxRecDepth 65536 in
theorem w_c11 : (Jvm.Cond.code ({ cls := "java/lang/String", name := "indexOf", desc := "(II)I" } : Jvm.MethodName) jdk_42_method_80_code (3 : Nat) (Option.some Jvm.ClassFile.FieldType.int)).before args0 about1 = true := code_word (m := ⟨7, 4⟩) (meth := k7m4) (c := k7c4) (by decide +kernel) rfl rfl rfl (by decide +kernel)
set_option maxRecDepth 65536 in
theorem w_c12 : (Jvm.Cond.code ({ cls := "java/lang/String", name := "isLatin1", desc := "()Z" } : Jvm.MethodName) jdk_42_method_154_code (1 : Nat) (Option.some Jvm.ClassFile.FieldType.boolean)).before args0 about1 = true := code_word (m := ⟨7, 7⟩) (meth := k7m7) (c := k7c7) (by decide +kernel) rfl rfl rfl (by decide +kernel)
set_option maxRecDepth 65536 in
theorem w_c13 : (Jvm.Cond.code ({ cls := "java/lang/String", name := "length", desc := "()I" } : Jvm.MethodName) jdk_42_method_54_code (1 : Nat) (Option.some Jvm.ClassFile.FieldType.int)).before args0 about1 = true := code_word (m := ⟨7, 2⟩) (meth := k7m2) (c := k7c2) (by decide +kernel) rfl rfl rfl (by decide +kernel)
set_option maxRecDepth 65536 in
theorem w_c14 : (Jvm.Cond.code ({ cls := "java/lang/String", name := "coder", desc := "()B" } : Jvm.MethodName) jdk_42_method_152_code (1 : Nat) (Option.some Jvm.ClassFile.FieldType.byte)).before args0 about1 = true := code_word (m := ⟨7, 6⟩) (meth := k7m6) (c := k7c6) (by decide +kernel) rfl rfl rfl (by decide +kernel)
set_option maxRecDepth 65536 in
theorem w_c15 : (Jvm.Cond.code ({ cls := "java/lang/StringLatin1", name := "indexOf", desc := "([BIII)I" } : Jvm.MethodName) jdk_43_method_22_code (4 : Nat) (Option.some Jvm.ClassFile.FieldType.int)).before args0 about1 = true := code_word (m := ⟨10, 2⟩) (meth := k10m2) (c := k10c2) (by decide +kernel) rfl rfl rfl (by decide +kernel)
set_option maxRecDepth 65536 in
theorem w_c16 : (Jvm.Cond.code ({ cls := "java/lang/StringLatin1", name := "canEncode", desc := "(I)Z" } : Jvm.MethodName) jdk_43_method_4_code (1 : Nat) (Option.some Jvm.ClassFile.FieldType.boolean)).before args0 about1 = true := code_word (m := ⟨10, 1⟩) (meth := k10m1) (c := k10c1) (by decide +kernel) rfl rfl rfl (by decide +kernel)
set_option maxRecDepth 65536 in
theorem w_c17 : (Jvm.Cond.code ({ cls := "java/lang/Math", name := "max", desc := "(II)I" } : Jvm.MethodName) jdk_29_method_65_code (2 : Nat) (Option.some Jvm.ClassFile.FieldType.int)).before args0 about1 = true := code_word (m := ⟨11, 1⟩) (meth := k11m1) (c := k11c1) (by decide +kernel) rfl rfl rfl (by decide +kernel)
set_option maxRecDepth 65536 in
theorem w_c18 : (Jvm.Cond.code ({ cls := "java/lang/Math", name := "min", desc := "(II)I" } : Jvm.MethodName) jdk_29_method_69_code (2 : Nat) (Option.some Jvm.ClassFile.FieldType.int)).before args0 about1 = true := code_word (m := ⟨11, 2⟩) (meth := k11m2) (c := k11c2) (by decide +kernel) rfl rfl rfl (by decide +kernel)
set_option maxRecDepth 65536 in
theorem w_c19 : (Jvm.Cond.code ({ cls := "java/lang/StringLatin1", name := "indexOfChar", desc := "([BIII)I" } : Jvm.MethodName) jdk_43_method_23_code (6 : Nat) (Option.some Jvm.ClassFile.FieldType.int)).before args0 about1 = true := code_word (m := ⟨10, 3⟩) (meth := k10m3) (c := k10c3) (by decide +kernel) rfl rfl rfl (by decide +kernel)
def codes1 : List Jvm.Cond := [Jvm.Cond.code x code maxLocals ret, Jvm.Cond.code ({ cls := "com/example/tariff/tariff/core/decimal/PlainDecimalFractionDigitsPinLaw", name := "digit", desc := "(JI)C" } : Jvm.MethodName) method_2_code (3 : Nat) (Option.some Jvm.ClassFile.FieldType.char), Jvm.Cond.code ({ cls := "java/lang/String", name := "<init>", desc := "([C)V" } : Jvm.MethodName) jdk_42_method_3_code (2 : Nat) (Option.none : Option Jvm.ClassFile.FieldType), Jvm.Cond.code ({ cls := "java/lang/String", name := "<init>", desc := "([CIILjava/lang/Void;)V" } : Jvm.MethodName) jdk_42_method_149_code (6 : Nat) (Option.none : Option Jvm.ClassFile.FieldType), Jvm.Cond.code ({ cls := "java/lang/Object", name := "<init>", desc := "()V" } : Jvm.MethodName) object_method_1_code (1 : Nat) (Option.none : Option Jvm.ClassFile.FieldType), Jvm.Cond.code ({ cls := "java/lang/StringUTF16", name := "compress", desc := "([CII)[B" } : Jvm.MethodName) jdk_52_method_16_code (6 : Nat) (Option.some (Jvm.ClassFile.FieldType.array Jvm.ClassFile.FieldType.byte)), Jvm.Cond.code ({ cls := "java/lang/StringUTF16", name := "compress", desc := "([CI[BII)I" } : Jvm.MethodName) jdk_52_method_21_code (7 : Nat) (Option.some Jvm.ClassFile.FieldType.int), Jvm.Cond.code ({ cls := "java/lang/StringUTF16", name := "coderFromArrayLen", desc := "([BI)B" } : Jvm.MethodName) jdk_52_method_15_code (2 : Nat) (Option.some Jvm.ClassFile.FieldType.byte), Jvm.Cond.code ({ cls := "com/example/tariff/tariff/core/decimal/PlainDecimal", name := "fractionDigits", desc := "(Ljava/lang/String;)I" } : Jvm.MethodName) prog_15_method_4_code (2 : Nat) (Option.some Jvm.ClassFile.FieldType.int), Jvm.Cond.code ({ cls := "com/example/tariff/tariff/core/decimal/PlainDecimal", name := "pointIndex", desc := "(Ljava/lang/String;)I" } : Jvm.MethodName) prog_15_method_9_code (2 : Nat) (Option.some Jvm.ClassFile.FieldType.int), Jvm.Cond.code ({ cls := "java/lang/String", name := "indexOf", desc := "(I)I" } : Jvm.MethodName) jdk_42_method_79_code (2 : Nat) (Option.some Jvm.ClassFile.FieldType.int), Jvm.Cond.code ({ cls := "java/lang/String", name := "indexOf", desc := "(II)I" } : Jvm.MethodName) jdk_42_method_80_code (3 : Nat) (Option.some Jvm.ClassFile.FieldType.int), Jvm.Cond.code ({ cls := "java/lang/String", name := "isLatin1", desc := "()Z" } : Jvm.MethodName) jdk_42_method_154_code (1 : Nat) (Option.some Jvm.ClassFile.FieldType.boolean), Jvm.Cond.code ({ cls := "java/lang/String", name := "length", desc := "()I" } : Jvm.MethodName) jdk_42_method_54_code (1 : Nat) (Option.some Jvm.ClassFile.FieldType.int), Jvm.Cond.code ({ cls := "java/lang/String", name := "coder", desc := "()B" } : Jvm.MethodName) jdk_42_method_152_code (1 : Nat) (Option.some Jvm.ClassFile.FieldType.byte), Jvm.Cond.code ({ cls := "java/lang/StringLatin1", name := "indexOf", desc := "([BIII)I" } : Jvm.MethodName) jdk_43_method_22_code (4 : Nat) (Option.some Jvm.ClassFile.FieldType.int), Jvm.Cond.code ({ cls := "java/lang/StringLatin1", name := "canEncode", desc := "(I)Z" } : Jvm.MethodName) jdk_43_method_4_code (1 : Nat) (Option.some Jvm.ClassFile.FieldType.boolean), Jvm.Cond.code ({ cls := "java/lang/Math", name := "max", desc := "(II)I" } : Jvm.MethodName) jdk_29_method_65_code (2 : Nat) (Option.some Jvm.ClassFile.FieldType.int), Jvm.Cond.code ({ cls := "java/lang/Math", name := "min", desc := "(II)I" } : Jvm.MethodName) jdk_29_method_69_code (2 : Nat) (Option.some Jvm.ClassFile.FieldType.int), Jvm.Cond.code ({ cls := "java/lang/StringLatin1", name := "indexOfChar", desc := "([BIII)I" } : Jvm.MethodName) jdk_43_method_23_code (6 : Nat) (Option.some Jvm.ClassFile.FieldType.int)]
set_option maxRecDepth 65536 in
theorem codes_eq : words1.filter isCode = codes1 := rfl
theorem w_codes : ∀ c ∈ words1.filter isCode, c.before args0 about1 = true := by
  rw [codes_eq]
  intro c hc
  simp only [codes1, List.mem_cons, List.not_mem_nil, or_false] at hc
  rcases hc with rfl | rfl | rfl | rfl | rfl | rfl | rfl | rfl | rfl | rfl | rfl | rfl | rfl | rfl | rfl | rfl | rfl | rfl | rfl | rfl
  · exact w_c0
  · exact w_c1
  · exact w_c2
  · exact w_c3
  · exact w_c4
  · exact w_c5
  · exact w_c6
  · exact w_c7
  · exact w_c8
  · exact w_c9
  · exact w_c10
  · exact w_c11
  · exact w_c12
  · exact w_c13
  · exact w_c14
  · exact w_c15
  · exact w_c16
  · exact w_c17
  · exact w_c18
  · exact w_c19
set_option maxRecDepth 65536 in
theorem w_t1 : (words1.take 24).all (fun c => isCode c || c.before args0 about1) = true := by decide +kernel
set_option maxRecDepth 65536 in
theorem w_t2 : ((words1.drop 24).take 24).all (fun c => isCode c || c.before args0 about1) = true := by decide +kernel
set_option maxRecDepth 65536 in
theorem w_t3 : (((words1.drop 24).drop 24).take 24).all (fun c => isCode c || c.before args0 about1) = true := by decide +kernel
set_option maxRecDepth 65536 in
theorem w_t4 : (((words1.drop 24).drop 24).drop 24).all (fun c => isCode c || c.before args0 about1) = true := by decide +kernel
theorem w_tables : (allAtoms (Jvm.Cond.code x code maxLocals ret :: tables_1)).before args0 about1 = true := by
  rw [allAtoms_all]
  show words1.all (fun c => c.before args0 about1) = true
  refine all_split ?_ w_codes
  rw [← List.take_append_drop 24 words1, List.all_append, w_t1, ← List.take_append_drop 24 (words1.drop 24), List.all_append, w_t2, ← List.take_append_drop 24 ((words1.drop 24).drop 24), List.all_append, w_t3, w_t4]
  rfl
set_option maxRecDepth 65536 in
theorem w_rest : rest_1_c.before args0 about1 = true := by decide +kernel
set_option maxRecDepth 65536 in
theorem w_case : (Jvm.Cond.and given_1 narrow_1).before args0 about1 = true := by decide +kernel
theorem w_applies : (headSpec (Jvm.Cond.code x code maxLocals ret :: tables_1) room_1).applies x e0.platform about1 = true :=
  (Spec.applies_iff w_frames).mpr ⟨w_running, w_runnable, w_alone, w_named, w_hears, w_ripe, w_room, w_tables⟩
theorem atStart : AtStart classFile x code maxLocals ret World_1 tables_1 room_1 Calls_1 rest_1 Pre_1 launch0 p0 e0 about1 theMethod args0 below0 :=
  ⟨lists_1, trivial, launch0.admits_env _ _ _, launch0.least_env, fairChoices_fair.cas, fairChoices_fair.clock, w_frames, w_args, w_heap, w_applies, trivial, w_rest, w_case⟩
end start1
theorem witness_1 : WitnessClaimed_1 := ⟨start1.p0, start1.e0, start1.about1, start1.theMethod, start1.args0, start1.below0, start1.atStart⟩
end Jvm.Pilot.@@N@@
