import JvmDerived
import JvmDerived.Pilot.@@N@@Statement
import JvmDerived.Pilot.@@N@@Code
set_option linter.unusedVariables false
set_option linter.unusedSimpArgs false
/- laws to paste: Road.backV, Road.eqW (cut by pick.py; bodies as the Statement names them) -/
namespace Jvm.Pilot.@@N@@
namespace StrChars
open Jvm Sem ClassFile Op Lib Jvm.Stand Jvm.Free.XT Jvm.Free.ALB Jvm.Free.JM Jvm.Free
open Jvm.Lib.Cold (StaticIs)
/-- a char array whose places are chars -/
def Ch (a : Addr) (A : Cell) (U : State) : Prop := Arr .char a A U ∧ Typed .char A
theorem Ch.mv {a : Addr} {A : Cell} {U U' : State} (h : Ch a A U) (hal : U.vm.Alike U'.vm) (hh : U'.heap = U.heap) : Ch a A U' := ⟨h.1.mv hal hh, h.2⟩
theorem Ch.keep {a : Addr} {A : Cell} {U U' : State} (h : Ch a A U) (hal : U.vm.Alike U'.vm) (hk : U'.heap[a]? = some A) : Ch a A U' := ⟨h.1.keep hal hk, h.2⟩
/-- what place i of a char[]'s cell holds -/
def cv (A : Cell) (i : Nat) : Int32 := match A.slots[i]? with | some (.int x) => x | _ => 0
theorem Ch.get {a : Addr} {A : Cell} {U : State} (h : Ch a A U) {i : Nat} (hi : i < A.slots.size) : A.slots[i]? = some (.int (cv A i)) := by
  have e := Array.getElem?_eq_getElem hi
  have f := h.2 i _ e
  unfold cv; rw [e]
  generalize A.slots[i] = v at f
  cases v <;> simp [fits] at f ⊢
/-- the byte that i2b leaves of a char -/
def lo8 (x : Int32) : Int32 := x.toInt8.toInt32
theorem fits_lo8 (y : Int32) : fits .byte (.int (lo8 y)) = true := by
  have h1 := y.toInt8.le_toInt
  have h2 := y.toInt8.toInt_lt
  simp only [lo8, fits, Bool.and_eq_true, decide_eq_true_eq, Int32.le_iff_toInt_le, Int8.toInt_toInt32, show (-128 : Int32).toInt = -128 from by decide, show (127 : Int32).toInt = 127 from by decide]
  omega
/-- A' is A but that each place j of lo .. hi - 1 holds f j -/
def Laid (A A' : Cell) (lo hi : Nat) (f : Nat → Value) : Prop := A'.cls = A.cls ∧ A'.vm = A.vm ∧ A'.slots.size = A.slots.size ∧ ∀ i, A'.slots[i]? = if lo ≤ i ∧ i < hi then some (f i) else A.slots[i]?
theorem Laid.zero (A : Cell) (lo : Nat) (f : Nat → Value) : Laid A A lo (lo + 0) f := ⟨rfl, rfl, rfl, fun i => by rw [if_neg (by omega)]⟩
theorem Laid.step {A Ak : Cell} {lo k : Nat} {f : Nat → Value} {v : Value} (h : Laid A Ak lo k f) (hlo : lo ≤ k) (hk : k < Ak.slots.size) (hv : v = f k) : Laid A (Ak.setSlot k v) lo (k + 1) f := by
  refine ⟨h.1, h.2.1, by simpa [Cell.setSlot] using h.2.2.1, fun i => ?_⟩
  by_cases e : k = i
  · subst e; rw [Cell.slots_setSlot_self v hk, if_pos (by omega), hv]
  · rw [Cell.slots_setSlot_ne v e, h.2.2.2 i]
    by_cases q : lo ≤ i ∧ i < k
    · rw [if_pos q, if_pos (by omega)]
    · rw [if_neg q, if_neg (by omega)]
def U16 : String := "java/lang/StringUTF16"
namespace Cmp5
def yN : MethodName := ⟨"java/lang/StringUTF16", "compress", "([CI[BII)I"⟩
abbrev yB : ByteArray := jdk_52_method_21_code
theorem d0 : decode yB 0 = .ok (.iconst 0, 1) := by decide +kernel
theorem d1 : decode yB 1 = .ok (.istore 5, 2) := by decide +kernel
theorem d3 : decode yB 3 = .ok (.iload 5, 2) := by decide +kernel
theorem d5 : decode yB 5 = .ok (.iload 4, 2) := by decide +kernel
theorem d7 : decode yB 7 = .ok (.if_icmp (.ge) 37, 3) := by decide +kernel
theorem d10 : decode yB 10 = .ok (.aload_n 0, 1) := by decide +kernel
theorem d11 : decode yB 11 = .ok (.iload_n 1, 1) := by decide +kernel
theorem d12 : decode yB 12 = .ok (.caload, 1) := by decide +kernel
theorem d13 : decode yB 13 = .ok (.istore 6, 2) := by decide +kernel
theorem d15 : decode yB 15 = .ok (.iload 6, 2) := by decide +kernel
theorem d17 : decode yB 17 = .ok (.sipush 255, 3) := by decide +kernel
theorem d20 : decode yB 20 = .ok (.if_icmp (.le) 6, 3) := by decide +kernel
theorem d26 : decode yB 26 = .ok (.aload_n 2, 1) := by decide +kernel
theorem d27 : decode yB 27 = .ok (.iload_n 3, 1) := by decide +kernel
theorem d28 : decode yB 28 = .ok (.iload 6, 2) := by decide +kernel
theorem d30 : decode yB 30 = .ok (.i2b, 1) := by decide +kernel
theorem d31 : decode yB 31 = .ok (.bastore, 1) := by decide +kernel
theorem d32 : decode yB 32 = .ok (.iinc 1 1, 3) := by decide +kernel
theorem d35 : decode yB 35 = .ok (.iinc 3 1, 3) := by decide +kernel
theorem d38 : decode yB 38 = .ok (.iinc 5 1, 3) := by decide +kernel
theorem d41 : decode yB 41 = .ok (.goto (-38), 3) := by decide +kernel
theorem d44 : decode yB 44 = .ok (.iload 4, 2) := by decide +kernel
theorem d46 : decode yB 46 = .ok (.ireturn, 1) := by decide +kernel
def site : List Cond := []
def tab : Cond := tabOf yN yB 7 (some .int) site
def P (b : Addr) (A : Cell) (d : Addr) (B : Cell) (o q len : Nat) (args : Array Value) (s : State) : Prop := args = #[.ref b, .int (Int32.ofNat o), .ref d, .int (Int32.ofNat q), .int (Int32.ofNat len)] ∧ Ch b A s ∧ Arr .byte d B s ∧ b ≠ d ∧ o + len ≤ A.slots.size ∧ q + len ≤ B.slots.size ∧ ∀ i, i < len → ¬ 255 < cv A (o + i)
def E (b : Addr) (A : Cell) (d : Addr) (B : Cell) (o q len : Nat) (r : Option Value) (s u : State) : Prop := r = some (.int (Int32.ofNat len)) ∧ ∃ B', Put d B' s u ∧ Laid B B' q (q + len) (fun j => Value.int (lo8 (cv A (o + (j - q)))))
/-- no char of the range above 255: len; the places written hold each char's low byte -/
theorem law (l : Launch) (b : Addr) (A : Cell) (d : Addr) (B : Cell) (o q len : Nat) : Law l yN 5 5 0 0 yB 7 (some .int) site (P b A d B o q len) (E b A d B o q len) (copyLocs d q len) 0 0 := by
  refine Law.of_walk (plainFor_of_name (by decide +kernel)) (by decide +kernel) (by decide +kernel) (by decide) (fun _ _ h => by rw [h.1]; rfl) (fun _ U U' hal hh h => ⟨h.1, h.2.1.mv hal hh, h.2.2.1.mv hal hh, h.2.2.2⟩) (fun r U U' V V' h1 hal h2 h => ⟨h.1, h.2.elim fun B' q => ⟨B', q.1.mv h1 h2, q.2⟩⟩) ?_
  intro p e s m args below meth c s₁ X0 hexec hbytes hml hret hlk hnm hown hh0 W hP
  obtain ⟨rfl, hA, hB, hne, l1, l2, hp⟩ := hP
  have c1 : Steps p.tables e below (s₁.setTop (entryFrame m #[.ref b, .int (Int32.ofNat o), .ref d, .int (Int32.ofNat q), .int (Int32.ofNat len)] 7)) (s₁.setTop (mkF m 0 #[.val (.ref b), .val (.int (Int32.ofNat o)), .val (.ref d), .val (.int (Int32.ofNat q)), .val (.int (Int32.ofNat len)), .unset, .unset] [])) := entry rfl
  have hA0 := hA.1.mv X0.warmed.alike hh0
  have hB0 := hB.mv X0.warmed.alike hh0
  have a31 := hA.1.2.2.2
  have c2 : Steps p.tables e below (s₁.setTop (entryFrame m #[.ref b, .int (Int32.ofNat o), .ref d, .int (Int32.ofNat q), .int (Int32.ofNat len)] 7)) (s₁.setTop (mkF m 3 #[.val (.ref b), .val (.int (Int32.ofNat o)), .val (.ref d), .val (.int (Int32.ofNat q)), .val (.int (Int32.ofNat len)), .val (.int 0), .unset] [])) := c1.trans (by
    refine iconstV X0.here hexec rfl 0 (hb hbytes d0) (by decide) ?_
    refine XS.istore X0.here hexec rfl (hb hbytes d1) rfl rfl ?_
    exact Steps.refl _)
  have loop : ∀ (r i : Nat), i + r = len → ∀ (z : Slot), (z = .unset ∨ ∃ w, z = .val w ∧ w.category = 1) → ∀ (Tl : State) (Bk : Cell), Stand p l e { frames := 0, locals := 0, cells := 0, slots := 0 } s m #[.ref b, .int (Int32.ofNat o), .ref d, .int (Int32.ofNat q), .int (Int32.ofNat len)] below meth c Tl ([] ++ copyLocs d q i) 0 0 → Put d Bk s₁ Tl → Laid B Bk q (q + i) (fun j => Value.int (lo8 (cv A (o + (j - q))))) →
      Steps p.tables e below (s₁.setTop (entryFrame m #[.ref b, .int (Int32.ofNat o), .ref d, .int (Int32.ofNat q), .int (Int32.ofNat len)] 7)) (Tl.setTop (mkF m 3 #[.val (.ref b), .val (.int (Int32.ofNat (o + i))), .val (.ref d), .val (.int (Int32.ofNat (q + i))), .val (.int (Int32.ofNat len)), .val (.int (Int32.ofNat i)), z] [])) → ∃ (T' : State) (B' : Cell) (z' : Slot), Stand p l e { frames := 0, locals := 0, cells := 0, slots := 0 } s m #[.ref b, .int (Int32.ofNat o), .ref d, .int (Int32.ofNat q), .int (Int32.ofNat len)] below meth c T' ([] ++ copyLocs d q len) 0 0 ∧ Put d B' s₁ T' ∧ Laid B B' q (q + len) (fun j => Value.int (lo8 (cv A (o + (j - q))))) ∧
      Steps p.tables e below (s₁.setTop (entryFrame m #[.ref b, .int (Int32.ofNat o), .ref d, .int (Int32.ofNat q), .int (Int32.ofNat len)] 7)) (T'.setTop (mkF m 3 #[.val (.ref b), .val (.int (Int32.ofNat (o + len))), .val (.ref d), .val (.int (Int32.ofNat (q + len))), .val (.int (Int32.ofNat len)), .val (.int (Int32.ofNat len)), z'] [])) := by
    intro r
    induction r with
    | zero =>
      intro i hi z hz Tl Bk Xl pl fl cl
      have hil : i = len := by omega
      rw [hil] at Xl fl cl
      exact ⟨Tl, Bk, z, Xl, pl, fl, cl⟩
    | succ r ih =>
      intro i hi z hz Tl Bk Xl pl fl cl
      have all := X0.warmed.alike.symm.trans Xl.warmed.alike
      have hAl := hA0.keep all (pl.other hne hA0.1)
      have hBk := hB0.like all pl.1 fl.1 fl.2.1 fl.2.2.1
      have hlt : q + i < Bk.slots.size := by rw [fl.2.2.1]; omega
      have c3 : Steps p.tables e below (s₁.setTop (entryFrame m #[.ref b, .int (Int32.ofNat o), .ref d, .int (Int32.ofNat q), .int (Int32.ofNat len)] 7)) (Tl.setTop (mkF m 12 #[.val (.ref b), .val (.int (Int32.ofNat (o + i))), .val (.ref d), .val (.int (Int32.ofNat (q + i))), .val (.int (Int32.ofNat len)), .val (.int (Int32.ofNat i)), z] [.int (Int32.ofNat (o + i)), .ref b])) := cl.trans (by
        refine XS.iload Xl.here hexec rfl (hb hbytes d3) rfl ?_
        refine XS.iload Xl.here hexec rfl (hb hbytes d5) rfl ?_
        refine XS.icmpNo Xl.here hexec rfl (hb hbytes d7) rfl (ii_ge_f (lt32 (by omega) (by omega))) ?_
        refine XS.aloadN Xl.here hexec rfl (hb hbytes d10) rfl rfl ?_
        refine XS.iloadN Xl.here hexec rfl (hb hbytes d11) rfl ?_
        exact Steps.refl _)
      have c4 : Steps p.tables e below (s₁.setTop (entryFrame m #[.ref b, .int (Int32.ofNat o), .ref d, .int (Int32.ofNat q), .int (Int32.ofNat len)] 7)) (Tl.setTop (mkF m 13 #[.val (.ref b), .val (.int (Int32.ofNat (o + i))), .val (.ref d), .val (.int (Int32.ofNat (q + i))), .val (.int (Int32.ofNat len)), .val (.int (Int32.ofNat i)), z] [.int (cv A (o + i))])) := c3.trans (by
        refine Xl.aget hexec hAl rfl (hA.get (i := o + i) (by omega)) rfl rfl (hb hbytes d12) ?_
        exact Steps.refl _)
      have c5 : Steps p.tables e below (s₁.setTop (entryFrame m #[.ref b, .int (Int32.ofNat o), .ref d, .int (Int32.ofNat q), .int (Int32.ofNat len)] 7)) (Tl.setTop (mkF m 15 #[.val (.ref b), .val (.int (Int32.ofNat (o + i))), .val (.ref d), .val (.int (Int32.ofNat (q + i))), .val (.int (Int32.ofNat len)), .val (.int (Int32.ofNat i)), .val (.int (cv A (o + i)))] [])) := c4.trans (by
        refine XS.istoreS Xl.here hexec rfl (hb hbytes d13) rfl rfl hz ?_
        exact Steps.refl _)
      have c6 : Steps p.tables e below (s₁.setTop (entryFrame m #[.ref b, .int (Int32.ofNat o), .ref d, .int (Int32.ofNat q), .int (Int32.ofNat len)] 7)) (Tl.setTop (mkF m 31 #[.val (.ref b), .val (.int (Int32.ofNat (o + i))), .val (.ref d), .val (.int (Int32.ofNat (q + i))), .val (.int (Int32.ofNat len)), .val (.int (Int32.ofNat i)), .val (.int (cv A (o + i)))] [.int (lo8 (cv A (o + i))), .int (Int32.ofNat (q + i)), .ref d])) := c5.trans (by
        refine XS.iload Xl.here hexec rfl (hb hbytes d15) rfl ?_
        refine sipushV Xl.here hexec rfl 255 (hb hbytes d17) (by decide) ?_
        refine XS.icmpYes Xl.here hexec rfl (pc0 := 20) rfl (hb hbytes d20) rfl (ii_le_t (hp i (by omega))) (by decide) rfl ?_
        refine XS.aloadN Xl.here hexec rfl (hb hbytes d26) rfl rfl ?_
        refine XS.iloadN Xl.here hexec rfl (hb hbytes d27) rfl ?_
        refine XS.iload Xl.here hexec rfl (hb hbytes d28) rfl ?_
        refine i2b Xl.here hexec rfl (hb hbytes d30) rfl ?_
        exact Steps.refl _)
      obtain ⟨T7, X7, p7, st7⟩ := Xl.aput hexec hBk rfl hlt rfl (fits_lo8 (cv A (o + i))) (g := (mkF m 31 #[.val (.ref b), .val (.int (Int32.ofNat (o + i))), .val (.ref d), .val (.int (Int32.ofNat (q + i))), .val (.int (Int32.ofNat len)), .val (.int (Int32.ofNat i)), .val (.int (cv A (o + i)))] [.int (lo8 (cv A (o + i))), .int (Int32.ofNat (q + i)), .ref d])) rfl (rest := []) rfl (hb hbytes d31)
      have c8 : Steps p.tables e below (s₁.setTop (entryFrame m #[.ref b, .int (Int32.ofNat o), .ref d, .int (Int32.ofNat q), .int (Int32.ofNat len)] 7)) (T7.setTop (mkF m 32 #[.val (.ref b), .val (.int (Int32.ofNat (o + i))), .val (.ref d), .val (.int (Int32.ofNat (q + i))), .val (.int (Int32.ofNat len)), .val (.int (Int32.ofNat i)), .val (.int (cv A (o + i)))] [])) := c6.trans (st7 _ (Steps.refl _))
      have c9 : Steps p.tables e below (s₁.setTop (entryFrame m #[.ref b, .int (Int32.ofNat o), .ref d, .int (Int32.ofNat q), .int (Int32.ofNat len)] 7)) (T7.setTop (mkF m 3 #[.val (.ref b), .val (.int (Int32.ofNat (o + i) + 1)), .val (.ref d), .val (.int (Int32.ofNat (q + i) + 1)), .val (.int (Int32.ofNat len)), .val (.int (Int32.ofNat i + 1)), .val (.int (cv A (o + i)))] [])) := c8.trans (by
        refine iincV X7.here hexec rfl 1 (hb hbytes d32) (by decide) rfl rfl ?_
        refine iincV X7.here hexec rfl 1 (hb hbytes d35) (by decide) rfl rfl ?_
        refine iincV X7.here hexec rfl 1 (hb hbytes d38) (by decide) rfl rfl ?_
        refine XS.goto X7.here hexec rfl (pc0 := 41) rfl (hb hbytes d41) (by decide) rfl ?_
        exact Steps.refl _)
      have c10 : Steps p.tables e below (s₁.setTop (entryFrame m #[.ref b, .int (Int32.ofNat o), .ref d, .int (Int32.ofNat q), .int (Int32.ofNat len)] 7)) (T7.setTop (mkF m 3 #[.val (.ref b), .val (.int (Int32.ofNat (o + (i + 1)))), .val (.ref d), .val (.int (Int32.ofNat (q + (i + 1)))), .val (.int (Int32.ofNat len)), .val (.int (Int32.ofNat (i + 1))), .val (.int (cv A (o + i)))] [])) := by
        have := c9
        rw [succ32, succ32, succ32] at this
        exact this
      exact ih (i + 1) (by omega) _ (Or.inr ⟨_, rfl, rfl⟩) T7 _ (by rw [copyLocs_step, ← List.append_assoc]; exact X7) (pl.trans p7) (fl.step (by omega) hlt (by simp)) c10
  obtain ⟨T9, B9, z9, X9, p9, f9, g9⟩ := loop len 0 (by omega) .unset (Or.inl rfl) s₁ B (by simpa [copyLocs] using X0) ⟨hB0.1, fun _ _ => rfl, rfl⟩ (Laid.zero _ _ _) c2
  have c11 : Steps p.tables e below (s₁.setTop (entryFrame m #[.ref b, .int (Int32.ofNat o), .ref d, .int (Int32.ofNat q), .int (Int32.ofNat len)] 7)) (T9.setTop (mkF m 46 #[.val (.ref b), .val (.int (Int32.ofNat (o + len))), .val (.ref d), .val (.int (Int32.ofNat (q + len))), .val (.int (Int32.ofNat len)), .val (.int (Int32.ofNat len)), z9] [.int (Int32.ofNat len)])) := g9.trans (by
    refine XS.iload X9.here hexec rfl (hb hbytes d3) rfl ?_
    refine XS.iload X9.here hexec rfl (hb hbytes d5) rfl ?_
    refine XS.icmpYes X9.here hexec rfl (pc0 := 7) rfl (hb hbytes d7) rfl (ii_ge_t (nlt32 (by omega) (Nat.le_refl _))) (by decide) rfl ?_
    refine XS.iload X9.here hexec rfl (hb hbytes d44) rfl ?_
    exact Steps.refl _)
  exact ⟨T9, some (.int (Int32.ofNat len)), _, _, _, X9, by simp, rfl, rfl, (fun h => by cases h), ⟨rfl, B9, p9.from hh0, f9⟩, fun fs hl => c11.trans (X9.ireturnOut hexec hret rfl (Or.inl rfl) (hb hbytes d46) hl)⟩
end Cmp5
namespace Cmp3
def yN : MethodName := ⟨"java/lang/StringUTF16", "compress", "([CII)[B"⟩
abbrev yB : ByteArray := jdk_52_method_16_code
theorem d0 : decode yB 0 = .ok (.iload_n 2, 1) := by decide +kernel
theorem d1 : decode yB 1 = .ok (.newarray .byte, 2) := by decide +kernel
theorem d3 : decode yB 3 = .ok (.astore_n 3, 1) := by decide +kernel
theorem d4 : decode yB 4 = .ok (.aload_n 0, 1) := by decide +kernel
theorem d5 : decode yB 5 = .ok (.iload_n 1, 1) := by decide +kernel
theorem d6 : decode yB 6 = .ok (.aload_n 3, 1) := by decide +kernel
theorem d7 : decode yB 7 = .ok (.iconst 0, 1) := by decide +kernel
theorem d8 : decode yB 8 = .ok (.iload_n 2, 1) := by decide +kernel
theorem d9 : decode yB 9 = .ok (.invokestatic 115, 3) := by decide +kernel
theorem d12 : decode yB 12 = .ok (.istore 4, 2) := by decide +kernel
theorem d14 : decode yB 14 = .ok (.iload 4, 2) := by decide +kernel
theorem d16 : decode yB 16 = .ok (.iload_n 2, 1) := by decide +kernel
theorem d17 : decode yB 17 = .ok (.if_icmp (.eq) 40, 3) := by decide +kernel
theorem d57 : decode yB 57 = .ok (.aload_n 3, 1) := by decide +kernel
theorem d58 : decode yB 58 = .ok (.areturn, 1) := by decide +kernel
def site : List Cond := [.arrayClass .byte, Cmp5.tab] ++ staticW U16 115 Cmp5.yN
def tab : Cond := tabOf yN yB 6 (some (.array .byte)) site
def P (b : Addr) (A : Cell) (o len : Nat) (args : Array Value) (s : State) : Prop := args = #[.ref b, .int (Int32.ofNat o), .int (Int32.ofNat len)] ∧ Ch b A s ∧ o + len ≤ A.slots.size ∧ len ≤ 536870912 ∧ ∀ i, i < len → ¬ 255 < cv A (o + i)
def E (b : Addr) (A : Cell) (o len : Nat) (r : Option Value) (s u : State) : Prop := NewArr .byte "[B" len (fun j => .int (lo8 (cv A (o + j)))) r s u ∧ u.heap.size = s.heap.size + 1
/-- no char of the range above 255: a new byte[] of their low bytes -/
theorem law (l : Launch) (b : Addr) (A : Cell) (o len : Nat) : Law l yN 3 3 1 18 yB 6 (some (.array .byte)) site (P b A o len) (E b A o len) [] 1 len := by
  refine Law.of_walk (plainFor_of_name (by decide +kernel)) (by decide +kernel) (by decide +kernel) (by decide) (fun _ _ h => by rw [h.1]; rfl) (fun _ U U' hal hh h => ⟨h.1, h.2.1.mv hal hh, h.2.2⟩) (fun r U U' V V' h1 hal h2 h => ⟨NewArr.mv r U U' V V' h1 hal h2 h.1, by rw [h1, h2]; exact h.2⟩) ?_
  intro p e s m args below meth c s₁ X0 hexec hbytes hml hret hlk hnm hown hh0 W hP
  obtain ⟨rfl, hA, l1, l2, hp⟩ := hP
  have a31 := hA.1.2.2.2
  have c1 : Steps p.tables e below (s₁.setTop (entryFrame m #[.ref b, .int (Int32.ofNat o), .int (Int32.ofNat len)] 6)) (s₁.setTop (mkF m 0 #[.val (.ref b), .val (.int (Int32.ofNat o)), .val (.int (Int32.ofNat len)), .unset, .unset, .unset] [])) := entry rfl
  have c2 : Steps p.tables e below (s₁.setTop (entryFrame m #[.ref b, .int (Int32.ofNat o), .int (Int32.ofNat len)] 6)) (s₁.setTop (mkF m 1 #[.val (.ref b), .val (.int (Int32.ofNat o)), .val (.int (Int32.ofNat len)), .unset, .unset, .unset] [.int (Int32.ofNat len)])) := c1.trans (by
    refine XS.iloadN X0.here hexec rfl (hb hbytes d0) rfl ?_
    exact Steps.refl _)
  obtain ⟨T3, B3, X3, ba3, bs3, bv3, bh3, bf3, st3⟩ := X0.anew hexec (atype := .byte) (wk W (.arrayClass .byte)) rfl (by show len * 1 ≤ _; omega) (by omega) (g := (mkF m 1 #[.val (.ref b), .val (.int (Int32.ofNat o)), .val (.int (Int32.ofNat len)), .unset, .unset, .unset] [.int (Int32.ofNat len)])) rfl (hb hbytes d1) (rest := []) rfl (Nat.le_refl _) (by show 0 + len ≤ len; omega)
  rw [hh0] at ba3 st3
  have kp3 : XT.Kept s T3 := (XT.Kept.of_eq hh0).push bh3
  have hA3 := hA.keep X3.warmed.alike (kp3 _ _ hA.1.1)
  have hne : b ≠ s.heap.size := hA.1.ne
  have c4 : Steps p.tables e below (s₁.setTop (entryFrame m #[.ref b, .int (Int32.ofNat o), .int (Int32.ofNat len)] 6)) (T3.setTop (mkF m 3 #[.val (.ref b), .val (.int (Int32.ofNat o)), .val (.int (Int32.ofNat len)), .unset, .unset, .unset] [.ref s.heap.size])) := c2.trans (st3 _ (Steps.refl _))
  have c5 : Steps p.tables e below (s₁.setTop (entryFrame m #[.ref b, .int (Int32.ofNat o), .int (Int32.ofNat len)] 6)) (T3.setTop (mkF m 9 #[.val (.ref b), .val (.int (Int32.ofNat o)), .val (.int (Int32.ofNat len)), .val (.ref s.heap.size), .unset, .unset] [.int (Int32.ofNat len), .int 0, .ref s.heap.size, .int (Int32.ofNat o), .ref b])) := c4.trans (by
    refine XS.astoreN X3.here hexec rfl (hb hbytes d3) rfl rfl rfl ?_
    refine XS.aloadN X3.here hexec rfl (hb hbytes d4) rfl rfl ?_
    refine XS.iloadN X3.here hexec rfl (hb hbytes d5) rfl ?_
    refine XS.aloadN X3.here hexec rfl (hb hbytes d6) rfl rfl ?_
    refine iconstV X3.here hexec rfl 0 (hb hbytes d7) (by decide) ?_
    refine XS.iloadN X3.here hexec rfl (hb hbytes d8) rfl ?_
    exact Steps.refl _)
  obtain ⟨v6, T6, X6, E6, g6⟩ := X3.callS hexec (Cmp5.law l b A s.heap.size B3 o 0 len) hown (wks W (staticW U16 115 Cmp5.yN)) (wk W Cmp5.tab) (W := 0) (Nat.le_of_ble_eq_true rfl) (Nat.le_of_ble_eq_true rfl) (Nat.le_refl _) (by show 0 + len + 0 ≤ len; omega) (g := (mkF m 9 #[.val (.ref b), .val (.int (Int32.ofNat o)), .val (.int (Int32.ofNat len)), .val (.ref s.heap.size), .unset, .unset] [.int (Int32.ofNat len), .int (Int32.ofNat 0), .ref s.heap.size, .int (Int32.ofNat o), .ref b])) rfl (by rw [hml]; rfl) c5 (argsL := [.ref b, .int (Int32.ofNat o), .ref s.heap.size, .int (Int32.ofNat 0), .int (Int32.ofNat len)]) (rest := []) rfl rfl (by show 2 * 0 + 0 ≤ _; decide) (hb hbytes d9) (⟨rfl, hA3, ba3, hne, l1, by rw [bs3]; simp, hp⟩)
  obtain ⟨rfl, B6, p6, f6⟩ := E6
  have c7 : Steps p.tables e below (s₁.setTop (entryFrame m #[.ref b, .int (Int32.ofNat o), .int (Int32.ofNat len)] 6)) (T6.setTop (mkF m 12 #[.val (.ref b), .val (.int (Int32.ofNat o)), .val (.int (Int32.ofNat len)), .val (.ref s.heap.size), .unset, .unset] [.int (Int32.ofNat len)])) := g6
  have c8 : Steps p.tables e below (s₁.setTop (entryFrame m #[.ref b, .int (Int32.ofNat o), .int (Int32.ofNat len)] 6)) (T6.setTop (mkF m 58 #[.val (.ref b), .val (.int (Int32.ofNat o)), .val (.int (Int32.ofNat len)), .val (.ref s.heap.size), .val (.int (Int32.ofNat len)), .unset] [.ref s.heap.size])) := c7.trans (by
    refine XS.istore X6.here hexec rfl (hb hbytes d12) rfl rfl ?_
    refine XS.iload X6.here hexec rfl (hb hbytes d14) rfl ?_
    refine XS.iloadN X6.here hexec rfl (hb hbytes d16) rfl ?_
    refine XS.icmpYes X6.here hexec rfl (pc0 := 17) rfl (hb hbytes d17) rfl (ii_eq_t rfl) (by decide) rfl ?_
    refine XS.aloadN X6.here hexec rfl (hb hbytes d57) rfl rfl ?_
    exact Steps.refl _)
  have X8 := X6.wide (L' := []) (cells' := 1) (slots' := len) (fun x hx hlt => by
    simp only [List.nil_append, copyLocs, List.mem_map, List.mem_range] at hx
    obtain ⟨i, -, rfl⟩ := hx
    exact absurd hlt (Nat.lt_irrefl _)) (Nat.le_refl _) (by omega)
  exact ⟨T6, some (.ref s.heap.size), _, _, _, X8, rfl, rfl, rfl, (fun h => by cases h), ⟨⟨rfl, B6, ba3.like (X3.warmed.alike.symm.trans X6.warmed.alike) p6.1 f6.1 f6.2.1 f6.2.2.1, f6.2.1.trans bv3, by rw [X6.warmed.alike.findClass, f6.1]; exact bf3, by rw [f6.2.2.1, bs3]; simp, fun j hj => by rw [f6.2.2.2 j, if_pos (by omega)]; rfl, kp3.put p6 (Nat.le_refl _)⟩, by rw [p6.2.2, bh3, hh0]; simp⟩, fun fs hl => c8.trans (X8.areturnOut hexec rfl hret rfl (hb hbytes d58) hl)⟩
end Cmp3
namespace CodL
def yN : MethodName := ⟨"java/lang/StringUTF16", "coderFromArrayLen", "([BI)B"⟩
abbrev yB : ByteArray := jdk_52_method_15_code
theorem d0 : decode yB 0 = .ok (.iload_n 1, 1) := by decide +kernel
theorem d1 : decode yB 1 = .ok (.aload_n 0, 1) := by decide +kernel
theorem d2 : decode yB 2 = .ok (.arraylength, 1) := by decide +kernel
theorem d3 : decode yB 3 = .ok (.isub, 1) := by decide +kernel
theorem d4 : decode yB 4 = .ok (.bipush 31, 2) := by decide +kernel
theorem d6 : decode yB 6 = .ok (.iushr, 1) := by decide +kernel
theorem d7 : decode yB 7 = .ok (.i2b, 1) := by decide +kernel
theorem d8 : decode yB 8 = .ok (.ireturn, 1) := by decide +kernel
def site : List Cond := []
def tab : Cond := tabOf yN yB 2 (some .byte) site
def P (d : Addr) (B : Cell) (args : Array Value) (s : State) : Prop := args = #[.ref d, .int (Int32.ofNat B.slots.size)] ∧ Arr .byte d B s
def E (r : Option Value) (s u : State) : Prop := XT.PureE (some (.int 0)) r s u
/-- an array as long as the number of chars: LATIN1 -/
theorem law (l : Launch) (d : Addr) (B : Cell) : Law l yN 2 2 0 0 yB 2 (some .byte) site (P d B) E [] 0 0 := by
  refine Law.of_walk (plainFor_of_name (by decide +kernel)) (by decide +kernel) (by decide +kernel) (by decide) (fun _ _ h => by rw [h.1]; rfl) (fun _ U U' hal hh h => ⟨h.1, h.2.mv hal hh⟩) (fun r U U' V V' h1 hal h2 h => XT.PureE.mv r U U' V V' h1 hal h2 h) ?_
  intro p e s m args below meth c s₁ X0 hexec hbytes hml hret hlk hnm hown hh0 W hP
  obtain ⟨rfl, hB⟩ := hP
  have hB0 := hB.mv X0.warmed.alike hh0
  have c1 : Steps p.tables e below (s₁.setTop (entryFrame m #[.ref d, .int (Int32.ofNat B.slots.size)] 2)) (s₁.setTop (mkF m 0 #[.val (.ref d), .val (.int (Int32.ofNat B.slots.size))] [])) := entry rfl
  have c2 : Steps p.tables e below (s₁.setTop (entryFrame m #[.ref d, .int (Int32.ofNat B.slots.size)] 2)) (s₁.setTop (mkF m 2 #[.val (.ref d), .val (.int (Int32.ofNat B.slots.size))] [.ref d, .int (Int32.ofNat B.slots.size)])) := c1.trans (by
    refine XS.iloadN X0.here hexec rfl (hb hbytes d0) rfl ?_
    refine XS.aloadN X0.here hexec rfl (hb hbytes d1) rfl rfl ?_
    exact Steps.refl _)
  have c3 : Steps p.tables e below (s₁.setTop (entryFrame m #[.ref d, .int (Int32.ofNat B.slots.size)] 2)) (s₁.setTop (mkF m 8 #[.val (.ref d), .val (.int (Int32.ofNat B.slots.size))] [.int (lo8 (ushr (Int32.ofNat B.slots.size - Int32.ofNat B.slots.size) 31))])) := c2.trans (by
    refine X0.alen hexec hB0 rfl rfl (hb hbytes d2) ?_
    refine XS.isub X0.here hexec rfl (hb hbytes d3) rfl ?_
    refine bipushV X0.here hexec rfl 31 (hb hbytes d4) (by decide) ?_
    refine iushr X0.here hexec rfl (hb hbytes d6) rfl ?_
    refine i2b X0.here hexec rfl (hb hbytes d7) rfl ?_
    exact Steps.refl _)
  have e0 : lo8 (ushr (Int32.ofNat B.slots.size - Int32.ofNat B.slots.size) 31) = 0 := by rw [Int32.sub_self]; decide
  rw [e0] at c3
  exact ⟨s₁, some (.int 0), _, _, _, X0, rfl, rfl, rfl, (fun h => by cases h), ⟨rfl, hh0⟩, fun fs hl => c3.trans (X0.ireturnOut hexec hret rfl (Or.inr (Or.inr (Or.inl rfl))) (hb hbytes d8) hl)⟩
end CodL
/-- the String at a is Latin-1 over a new byte[] (the heap's one new cell): the low bytes of the len chars of A from o on; every cell but a is kept -/
def Got (a : Addr) (D : Cell) (fV fC : Field) (A : Cell) (o len : Nat) (r : Option Value) (s u : State) : Prop := r = none ∧ ∃ D' V : Cell, Blank "java/lang/String" a D' u ∧ Same D D' [fV.slot, fC.slot] ∧ D'.slots[fV.slot]? = some (.ref s.heap.size) ∧ D'.slots[fC.slot]? = some (.int 0) ∧ Arr .byte s.heap.size V u ∧ V.vm = .none ∧ u.vm.findClass "[B" = some V.cls ∧ V.slots.size = len ∧ (∀ j, j < len → V.slots[j]? = some (.int (lo8 (cv A (o + j))))) ∧ (∀ (y : Addr) (c : Cell), y ≠ a → s.heap[y]? = some c → u.heap[y]? = some c) ∧ u.heap.size = s.heap.size + 1
theorem Got.mv {a : Addr} {D A : Cell} {fV fC : Field} {o len : Nat} : ∀ r (U U' V V' : State), U'.heap = U.heap → V.vm.Alike V'.vm → V'.heap = V.heap → Got a D fV fC A o len r U V → Got a D fV fC A o len r U' V' :=
  fun r U U' V V' h1 hal h2 ⟨e0, D', X, a1, a2, a3, a4, a5, a6, a7, a8, a9, a10, a11⟩ => ⟨e0, D', X, a1.mv hal h2, a2, by rw [h1]; exact a3, a4, by rw [h1]; exact a5.mv hal h2, a6, by rw [hal.findClass]; exact a7, a8, a9, by rw [h1, h2]; exact a10, by rw [h1, h2]; exact a11⟩
namespace New4
def yN : MethodName := ⟨"java/lang/String", "<init>", "([CIILjava/lang/Void;)V"⟩
abbrev yB : ByteArray := jdk_42_method_149_code
theorem d0 : decode yB 0 = .ok (.aload_n 0, 1) := by decide +kernel
theorem d1 : decode yB 1 = .ok (.invokespecial 1, 3) := by decide +kernel
theorem d4 : decode yB 4 = .ok (.iload_n 3, 1) := by decide +kernel
theorem d5 : decode yB 5 = .ok (.ifCond (.ne) 22, 3) := by decide +kernel
theorem d27 : decode yB 27 = .ok (.getstatic 38, 3) := by decide +kernel
theorem d30 : decode yB 30 = .ok (.ifCond (.eq) 28, 3) := by decide +kernel
theorem d33 : decode yB 33 = .ok (.aload_n 1, 1) := by decide +kernel
theorem d34 : decode yB 34 = .ok (.iload_n 2, 1) := by decide +kernel
theorem d35 : decode yB 35 = .ok (.iload_n 3, 1) := by decide +kernel
theorem d36 : decode yB 36 = .ok (.invokestatic 177, 3) := by decide +kernel
theorem d39 : decode yB 39 = .ok (.astore 5, 2) := by decide +kernel
theorem d41 : decode yB 41 = .ok (.aload_n 0, 1) := by decide +kernel
theorem d42 : decode yB 42 = .ok (.aload 5, 2) := by decide +kernel
theorem d44 : decode yB 44 = .ok (.iload_n 3, 1) := by decide +kernel
theorem d45 : decode yB 45 = .ok (.invokestatic 47, 3) := by decide +kernel
theorem d48 : decode yB 48 = .ok (.putfield 15, 3) := by decide +kernel
theorem d51 : decode yB 51 = .ok (.aload_n 0, 1) := by decide +kernel
theorem d52 : decode yB 52 = .ok (.aload 5, 2) := by decide +kernel
theorem d54 : decode yB 54 = .ok (.putfield 9, 3) := by decide +kernel
theorem d57 : decode yB 57 = .ok (.return_, 1) := by decide +kernel
def site : List Cond := [.fieldLink "java/lang/String" 38 "java/lang/String" "COMPACT_STRINGS" "Z", Cmp3.tab, CodL.tab, .laysFinal "java/lang/String" "java/lang/String" "value" "[B", .fieldLink "java/lang/String" 9 "java/lang/String" "value" "[B", .laysFinal "java/lang/String" "java/lang/String" "coder" "B", .fieldLink "java/lang/String" 15 "java/lang/String" "coder" "B"] ++ objW "java/lang/String" 1 ++ staticW "java/lang/String" 177 Cmp3.yN ++ staticW "java/lang/String" 47 CodL.yN
def tab : Cond := tabOf yN yB 6 none site
def P (a : Addr) (D : Cell) (fV fC : Field) (b : Addr) (A : Cell) (z : Int32) (o len : Nat) (args : Array Value) (s : State) : Prop := args = #[.ref a, .ref b, .int (Int32.ofNat o), .int (Int32.ofNat len), .null] ∧ Blank "java/lang/String" a D s ∧ Found "java/lang/String" "value" "[B" fV s ∧ Found "java/lang/String" "coder" "B" fC s ∧ Ch b A s ∧ StaticIs s "java/lang/String" "COMPACT_STRINGS" "Z" (.int z) ∧ ¬ z = 0 ∧ 0 < len ∧ o + len ≤ A.slots.size ∧ len ≤ 536870912 ∧ ∀ i, i < len → ¬ 255 < cv A (o + i)
def E (a : Addr) (D : Cell) (fV fC : Field) (A : Cell) (o len : Nat) (r : Option Value) (s u : State) : Prop := Got a D fV fC A o len r s u
/-- len > 0, no char of the range above 255: a Latin-1 String of their low bytes -/
theorem law (l : Launch) (a : Addr) (D : Cell) (fV fC : Field) (b : Addr) (A : Cell) (z : Int32) (o len : Nat) : Law l yN 5 4 2 35 yB 6 none site (P a D fV fC b A z o len) (E a D fV fC A o len) [⟨a, fC.slot⟩, ⟨a, fV.slot⟩] 1 len := by
  refine Law.of_walk (plainFor_of_name (by decide +kernel)) (by decide +kernel) (by decide +kernel) (by decide) (fun _ _ h => by rw [h.1]; rfl) (fun _ U U' hal hh h => ⟨h.1, h.2.1.mv hal hh, h.2.2.1.al hal, h.2.2.2.1.al hal, h.2.2.2.2.1.mv hal hh, h.2.2.2.2.2.1.there hal hh, h.2.2.2.2.2.2⟩) (fun r U U' V V' h1 hal h2 h => Got.mv r U U' V V' h1 hal h2 h) ?_
  intro p e s m args below meth c s₁ X0 hexec hbytes hml hret hlk hnm hown hh0 W hP
  obtain ⟨rfl, hB, f1, f2, hA, s1, hz, l0, l1, l2, hp⟩ := hP
  have a31 := hA.1.2.2.2
  have c1 : Steps p.tables e below (s₁.setTop (entryFrame m #[.ref a, .ref b, .int (Int32.ofNat o), .int (Int32.ofNat len), .null] 6)) (s₁.setTop (mkF m 0 #[.val (.ref a), .val (.ref b), .val (.int (Int32.ofNat o)), .val (.int (Int32.ofNat len)), .val .null, .unset] [])) := entry rfl
  have c2 : Steps p.tables e below (s₁.setTop (entryFrame m #[.ref a, .ref b, .int (Int32.ofNat o), .int (Int32.ofNat len), .null] 6)) (s₁.setTop (mkF m 1 #[.val (.ref a), .val (.ref b), .val (.int (Int32.ofNat o)), .val (.int (Int32.ofNat len)), .val .null, .unset] [.ref a])) := c1.trans (by
    refine XS.aloadN X0.here hexec rfl (hb hbytes d0) rfl rfl ?_
    exact Steps.refl _)
  obtain ⟨T3, X3, q3, st3⟩ := X0.oinit hexec hown (wks W (objW "java/lang/String" 1)) (g := (mkF m 1 #[.val (.ref a), .val (.ref b), .val (.int (Int32.ofNat o)), .val (.int (Int32.ofNat len)), .val .null, .unset] [.ref a])) rfl (by rw [hml]; rfl) (rest := []) rfl (hb hbytes d1) (W := 0) (by show 2 * 0 + 0 ≤ _; decide) (Nat.le_of_ble_eq_true rfl) (Nat.le_of_ble_eq_true rfl)
  have hh3 := q3.trans hh0
  have c4 : Steps p.tables e below (s₁.setTop (entryFrame m #[.ref a, .ref b, .int (Int32.ofNat o), .int (Int32.ofNat len), .null] 6)) (T3.setTop (mkF m 27 #[.val (.ref a), .val (.ref b), .val (.int (Int32.ofNat o)), .val (.int (Int32.ofNat len)), .val .null, .unset] [])) := (c2.trans (st3 _ (Steps.refl _))).trans (by
    refine XS.iloadN X3.here hexec rfl (hb hbytes d4) rfl ?_
    refine XS.ifYes X3.here hexec rfl (pc0 := 5) rfl (hb hbytes d5) rfl (i0_ne_t (nz32 (by omega) l0)) (by decide) rfl ?_
    exact Steps.refl _)
  obtain ⟨T5, X5, q5, st5⟩ := X3.sget hexec hown (wk W (.fieldLink "java/lang/String" 38 "java/lang/String" "COMPACT_STRINGS" "Z")) s1 (fun _ _ h => by rw [hh3]; exact h) (g := (mkF m 27 #[.val (.ref a), .val (.ref b), .val (.int (Int32.ofNat o)), .val (.int (Int32.ofNat len)), .val .null, .unset] [])) rfl (hb hbytes d27)
  have hh5 := q5.trans hh3
  have c6 : Steps p.tables e below (s₁.setTop (entryFrame m #[.ref a, .ref b, .int (Int32.ofNat o), .int (Int32.ofNat len), .null] 6)) (T5.setTop (mkF m 30 #[.val (.ref a), .val (.ref b), .val (.int (Int32.ofNat o)), .val (.int (Int32.ofNat len)), .val .null, .unset] [.int z])) := c4.trans (st5 _ (Steps.refl _))
  have c7 : Steps p.tables e below (s₁.setTop (entryFrame m #[.ref a, .ref b, .int (Int32.ofNat o), .int (Int32.ofNat len), .null] 6)) (T5.setTop (mkF m 36 #[.val (.ref a), .val (.ref b), .val (.int (Int32.ofNat o)), .val (.int (Int32.ofNat len)), .val .null, .unset] [.int (Int32.ofNat len), .int (Int32.ofNat o), .ref b])) := c6.trans (by
    refine XS.ifNo X5.here hexec rfl (hb hbytes d30) rfl (i0_eq_f hz) ?_
    refine XS.aloadN X5.here hexec rfl (hb hbytes d33) rfl rfl ?_
    refine XS.iloadN X5.here hexec rfl (hb hbytes d34) rfl ?_
    refine XS.iloadN X5.here hexec rfl (hb hbytes d35) rfl ?_
    exact Steps.refl _)
  obtain ⟨v8, T8, X8, E8, g8⟩ := X5.callS hexec (Cmp3.law l b A o len) hown (wks W (staticW "java/lang/String" 177 Cmp3.yN)) (wk W Cmp3.tab) (W := 0) (Nat.le_of_ble_eq_true rfl) (Nat.le_of_ble_eq_true rfl) (Nat.le_refl _) (by show 0 + len ≤ len; omega) (g := (mkF m 36 #[.val (.ref a), .val (.ref b), .val (.int (Int32.ofNat o)), .val (.int (Int32.ofNat len)), .val .null, .unset] [.int (Int32.ofNat len), .int (Int32.ofNat o), .ref b])) rfl (by rw [hml]; rfl) c7 (argsL := [.ref b, .int (Int32.ofNat o), .int (Int32.ofNat len)]) (rest := []) rfl rfl (by show 2 * 0 + 0 ≤ _; decide) (hb hbytes d36) (⟨rfl, hA.mv X5.warmed.alike hh5, l1, l2, hp⟩)
  obtain ⟨e8, z8⟩ := E8
  obtain ⟨rfl, N, n1, n2, n3, n4, n5, n6⟩ := NewArr.mv _ T5 s _ _ hh5.symm (Vm.Alike.refl _) rfl e8
  rw [hh5] at z8
  have hB1 := hB.keep X8.warmed.alike (n6 _ _ hB.1)
  have hne : s.heap.size ≠ a := (Nat.ne_of_lt (Array.getElem?_eq_some_iff.mp hB.1).1).symm
  have c9 : Steps p.tables e below (s₁.setTop (entryFrame m #[.ref a, .ref b, .int (Int32.ofNat o), .int (Int32.ofNat len), .null] 6)) (T8.setTop (mkF m 39 #[.val (.ref a), .val (.ref b), .val (.int (Int32.ofNat o)), .val (.int (Int32.ofNat len)), .val .null, .unset] [.ref s.heap.size])) := g8
  have c10 : Steps p.tables e below (s₁.setTop (entryFrame m #[.ref a, .ref b, .int (Int32.ofNat o), .int (Int32.ofNat len), .null] 6)) (T8.setTop (mkF m 45 #[.val (.ref a), .val (.ref b), .val (.int (Int32.ofNat o)), .val (.int (Int32.ofNat len)), .val .null, .val (.ref s.heap.size)] [.int (Int32.ofNat N.slots.size), .ref s.heap.size, .ref a])) := by
    have hc : Steps p.tables e below (s₁.setTop (entryFrame m #[.ref a, .ref b, .int (Int32.ofNat o), .int (Int32.ofNat len), .null] 6)) (T8.setTop (mkF m 45 #[.val (.ref a), .val (.ref b), .val (.int (Int32.ofNat o)), .val (.int (Int32.ofNat len)), .val .null, .val (.ref s.heap.size)] [.int (Int32.ofNat len), .ref s.heap.size, .ref a])) := c9.trans (by
      refine XS.astore X8.here hexec rfl (hb hbytes d39) rfl rfl rfl ?_
      refine XS.aloadN X8.here hexec rfl (hb hbytes d41) rfl rfl ?_
      refine XS.aload X8.here hexec rfl (hb hbytes d42) rfl rfl ?_
      refine XS.iloadN X8.here hexec rfl (hb hbytes d44) rfl ?_
      exact Steps.refl _)
    rw [n4]; exact hc
  obtain ⟨v11, T11, X11, E11, g11⟩ := X8.callS hexec (CodL.law l s.heap.size N) hown (wks W (staticW "java/lang/String" 47 CodL.yN)) (wk W CodL.tab) (W := 1) (Nat.le_of_ble_eq_true rfl) (Nat.le_of_ble_eq_true rfl) (Nat.le_refl _) (by show 0 + len + 0 ≤ len; omega) (g := (mkF m 45 #[.val (.ref a), .val (.ref b), .val (.int (Int32.ofNat o)), .val (.int (Int32.ofNat len)), .val .null, .val (.ref s.heap.size)] [.int (Int32.ofNat N.slots.size), .ref s.heap.size, .ref a])) rfl (by rw [hml]; rfl) c10 (argsL := [.ref s.heap.size, .int (Int32.ofNat N.slots.size)]) (rest := [.ref a]) rfl rfl (by show 2 * 0 + (1 + 0) ≤ _; decide) (hb hbytes d45) (⟨rfl, n1⟩)
  obtain ⟨rfl, q11⟩ := E11
  have hB11 := hB1.mv (X8.warmed.alike.symm.trans X11.warmed.alike) q11
  have c12 : Steps p.tables e below (s₁.setTop (entryFrame m #[.ref a, .ref b, .int (Int32.ofNat o), .int (Int32.ofNat len), .null] 6)) (T11.setTop (mkF m 48 #[.val (.ref a), .val (.ref b), .val (.int (Int32.ofNat o)), .val (.int (Int32.ofNat len)), .val .null, .val (.ref s.heap.size)] [.int 0, .ref a])) := g11
  obtain ⟨T13, X13, p13, bl13, sl13, st13⟩ := X11.finit hexec hown (wk W (.fieldLink "java/lang/String" 15 "java/lang/String" "coder" "B")) (Or.inr ⟨_, (wk W (.laysFinal "java/lang/String" "java/lang/String" "coder" "B"))⟩) (Or.inl ⟨rfl, hnm⟩) f2 (Or.inl rfl) hB11 (t := .byte) (by decide +kernel) rfl (g := (mkF m 48 #[.val (.ref a), .val (.ref b), .val (.int (Int32.ofNat o)), .val (.int (Int32.ofNat len)), .val .null, .val (.ref s.heap.size)] [.int 0, .ref a])) rfl (rest := []) rfl (hb hbytes d48)
  have c14 : Steps p.tables e below (s₁.setTop (entryFrame m #[.ref a, .ref b, .int (Int32.ofNat o), .int (Int32.ofNat len), .null] 6)) (T13.setTop (mkF m 54 #[.val (.ref a), .val (.ref b), .val (.int (Int32.ofNat o)), .val (.int (Int32.ofNat len)), .val .null, .val (.ref s.heap.size)] [.ref s.heap.size, .ref a])) := (c12.trans (st13 _ (Steps.refl _))).trans (by
    refine XS.aloadN X13.here hexec rfl (hb hbytes d51) rfl rfl ?_
    refine XS.aload X13.here hexec rfl (hb hbytes d52) rfl rfl ?_
    exact Steps.refl _)
  obtain ⟨T15, X15, p15, bl15, sl15, st15⟩ := X13.finit hexec hown (wk W (.fieldLink "java/lang/String" 9 "java/lang/String" "value" "[B")) (Or.inr ⟨_, (wk W (.laysFinal "java/lang/String" "java/lang/String" "value" "[B"))⟩) (Or.inl ⟨rfl, hnm⟩) f1 (Or.inl rfl) bl13 (t := (.array .byte)) (by decide +kernel) rfl (g := (mkF m 54 #[.val (.ref a), .val (.ref b), .val (.int (Int32.ofNat o)), .val (.int (Int32.ofNat len)), .val .null, .val (.ref s.heap.size)] [.ref s.heap.size, .ref a])) rfl (rest := []) rfl (hb hbytes d54)
  have c16 : Steps p.tables e below (s₁.setTop (entryFrame m #[.ref a, .ref b, .int (Int32.ofNat o), .int (Int32.ofNat len), .null] 6)) (T15.setTop (mkF m 57 #[.val (.ref a), .val (.ref b), .val (.int (Int32.ofNat o)), .val (.int (Int32.ofNat len)), .val .null, .val (.ref s.heap.size)] [])) := c14.trans (st15 _ (Steps.refl _))
  have ap := apart (Or.inr ⟨_, (wk W (.laysFinal "java/lang/String" "java/lang/String" "value" "[B"))⟩) (Or.inr ⟨_, (wk W (.laysFinal "java/lang/String" "java/lang/String" "coder" "B"))⟩) f1 f2 (t₁ := .array .byte) (t₂ := .byte) (by decide +kernel) (by decide +kernel) (by decide)
  have al := X8.warmed.alike.symm.trans X15.warmed.alike
  have n7 : T11.heap[s.heap.size]? = some N := by rw [q11]; exact n1.1
  exact ⟨T15, none, _, _, _, X15, by simp, rfl, by omega, (fun _ => rfl), ⟨rfl, _, N, bl15, ((Same.refl D _).set _ (by simp)).set _ (by simp), sl15, (Cell.slots_setSlot_ne _ ap).trans sl13, n1.keep al (p15.other hne (p13.other hne n7)), n2, by rw [al.findClass]; exact n3, n4, n5, fun y c h1 h2 => p15.other h1 (p13.other h1 (by rw [q11]; exact n6 y c h2)), by rw [p15.2.2, p13.2.2, q11]; exact z8⟩, fun fs hl => c16.trans (X15.returnOut hexec hret (hb hbytes d57) hl)⟩
end New4
namespace New1
def yN : MethodName := ⟨"java/lang/String", "<init>", "([C)V"⟩
abbrev yB : ByteArray := jdk_42_method_3_code
theorem d0 : decode yB 0 = .ok (.aload_n 0, 1) := by decide +kernel
theorem d1 : decode yB 1 = .ok (.aload_n 1, 1) := by decide +kernel
theorem d2 : decode yB 2 = .ok (.iconst 0, 1) := by decide +kernel
theorem d3 : decode yB 3 = .ok (.aload_n 1, 1) := by decide +kernel
theorem d4 : decode yB 4 = .ok (.arraylength, 1) := by decide +kernel
theorem d5 : decode yB 5 = .ok (.aconst_null, 1) := by decide +kernel
theorem d6 : decode yB 6 = .ok (.invokespecial 27, 3) := by decide +kernel
theorem d9 : decode yB 9 = .ok (.return_, 1) := by decide +kernel
def site : List Cond := [New4.tab] ++ initW "java/lang/String" 27 New4.yN
def tab : Cond := tabOf yN yB 2 none site
def P (a : Addr) (D : Cell) (fV fC : Field) (b : Addr) (A : Cell) (z : Int32) (args : Array Value) (s : State) : Prop := args = #[.ref a, .ref b] ∧ Blank "java/lang/String" a D s ∧ Found "java/lang/String" "value" "[B" fV s ∧ Found "java/lang/String" "coder" "B" fC s ∧ Ch b A s ∧ StaticIs s "java/lang/String" "COMPACT_STRINGS" "Z" (.int z) ∧ ¬ z = 0 ∧ 0 < A.slots.size ∧ A.slots.size ≤ 536870912 ∧ ∀ i, i < A.slots.size → ¬ 255 < cv A i
def E (a : Addr) (D : Cell) (fV fC : Field) (A : Cell) (r : Option Value) (s u : State) : Prop := Got a D fV fC A 0 A.slots.size r s u
/-- new String(chars), not empty, no char above 255: a Latin-1 String of their low bytes -/
theorem law (l : Launch) (a : Addr) (D : Cell) (fV fC : Field) (b : Addr) (A : Cell) (z : Int32) : Law l yN 2 1 3 52 yB 2 none site (P a D fV fC b A z) (E a D fV fC A) [⟨a, fC.slot⟩, ⟨a, fV.slot⟩] 1 A.slots.size := by
  refine Law.of_walk (plainFor_of_name (by decide +kernel)) (by decide +kernel) (by decide +kernel) (by decide) (fun _ _ h => by rw [h.1]; rfl) (fun _ U U' hal hh h => ⟨h.1, h.2.1.mv hal hh, h.2.2.1.al hal, h.2.2.2.1.al hal, h.2.2.2.2.1.mv hal hh, h.2.2.2.2.2.1.there hal hh, h.2.2.2.2.2.2⟩) (fun r U U' V V' h1 hal h2 h => Got.mv r U U' V V' h1 hal h2 h) ?_
  intro p e s m args below meth c s₁ X0 hexec hbytes hml hret hlk hnm hown hh0 W hP
  obtain ⟨rfl, hB, f1, f2, hA, s1, hz, l0, l2, hp⟩ := hP
  have c1 : Steps p.tables e below (s₁.setTop (entryFrame m #[.ref a, .ref b] 2)) (s₁.setTop (mkF m 0 #[.val (.ref a), .val (.ref b)] [])) := entry rfl
  have c2 : Steps p.tables e below (s₁.setTop (entryFrame m #[.ref a, .ref b] 2)) (s₁.setTop (mkF m 6 #[.val (.ref a), .val (.ref b)] [.null, .int (Int32.ofNat A.slots.size), .int 0, .ref b, .ref a])) := c1.trans (by
    refine XS.aloadN X0.here hexec rfl (hb hbytes d0) rfl rfl ?_
    refine XS.aloadN X0.here hexec rfl (hb hbytes d1) rfl rfl ?_
    refine iconstV X0.here hexec rfl 0 (hb hbytes d2) (by decide) ?_
    refine XS.aloadN X0.here hexec rfl (hb hbytes d3) rfl rfl ?_
    refine X0.alen hexec (hA.1.mv X0.warmed.alike hh0) rfl rfl (hb hbytes d4) ?_
    refine XS.aconstNull X0.here hexec rfl (hb hbytes d5) ?_
    exact Steps.refl _)
  obtain ⟨v3, T3, X3, E3, g3⟩ := X0.callN hexec (New4.law l a D fV fC b A z 0 A.slots.size) rfl hown (wks W (initW "java/lang/String" 27 New4.yN)) (W New4.tab (by simp only [site, List.mem_cons, List.mem_append, true_or, or_true])) (W := 0) (Nat.le_of_ble_eq_true rfl) (Nat.le_of_ble_eq_true rfl) (Nat.le_refl _) (by show 0 + A.slots.size ≤ A.slots.size; omega) (g := (mkF m 6 #[.val (.ref a), .val (.ref b)] [.null, .int (Int32.ofNat A.slots.size), .int (Int32.ofNat 0), .ref b, .ref a])) rfl (by rw [hml]; rfl) c2 (argsL := [.ref b, .int (Int32.ofNat 0), .int (Int32.ofNat A.slots.size), .null]) (rest := []) rfl rfl (by show 2 * 0 + 0 ≤ _; decide) (hb hbytes d6) (⟨rfl, hB.mv X0.warmed.alike hh0, f1.al X0.warmed.alike, f2.al X0.warmed.alike, hA.mv X0.warmed.alike hh0, s1.there X0.warmed.alike hh0, hz, l0, by omega, l2, fun i hi => by rw [Nat.zero_add]; exact hp i hi⟩)
  have e0 := Got.mv _ s₁ s _ _ hh0.symm (Vm.Alike.refl _) rfl E3
  obtain rfl := e0.1
  have c4 : Steps p.tables e below (s₁.setTop (entryFrame m #[.ref a, .ref b] 2)) (T3.setTop (mkF m 9 #[.val (.ref a), .val (.ref b)] [])) := g3
  exact ⟨T3, none, _, _, _, X3, by simp, rfl, by omega, (fun _ => rfl), e0, fun fs hl => c4.trans (X3.returnOut hexec hret (hb hbytes d9) hl)⟩
theorem pays {l : Launch} {R : Room} {p : Program} {e : Env} {below : List Frame} {s : State} {sargs : Array Value} {len W : Nat} (a : Addr) (D : Cell) (fV fC : Field) (b : Addr) (A : Cell) (z : Int32) (htab : tab.before sargs s = true) (hfr : 4 ≤ R.frames) (hlo : W + 65 ≤ R.locals) :
    Back l R p e below s sargs yN len W (fun A₁ a₁ => A₁.cells + 1 ≤ R.cells ∧ A₁.slots + A.slots.size ≤ R.slots ∧ P a D fV fC b A z a₁ A₁.U) (fun A₁ _ v₁ B₁ => E a D fV fC A v₁ A₁.U B₁.U ∧ B₁.locs = A₁.locs ++ [⟨a, fC.slot⟩, ⟨a, fV.slot⟩] ∧ B₁.cells = A₁.cells + 1 ∧ B₁.slots = A₁.slots + A.slots.size) :=
  (law l a D fV fC b A z).pays htab hfr (by omega)
end New1
/-- the byte, read back as charAt reads it, is the char -/
theorem lo8_mask {x : Int32} (h0 : ¬ x < 0) (h1 : ¬ 255 < x) : lo8 x &&& 255 = x := by
  have t : ∀ k : Fin 256, lo8 (Int32.ofNat k.val) &&& 255 = Int32.ofNat k.val := by decide +kernel
  rw [Int32.lt_iff_toInt_lt] at h0 h1
  have e0 : (0 : Int32).toInt = 0 := rfl
  have e1 : (255 : Int32).toInt = 255 := rfl
  obtain ⟨k, hk⟩ : ∃ k : Nat, x.toInt = k := ⟨x.toInt.toNat, by omega⟩
  have hx : x = Int32.ofNat k := Int32.toInt_inj.mp (by rw [hk, Int32.toInt_ofNat_small (by omega)])
  rw [hx]
  exact t ⟨k, by omega⟩
end StrChars
namespace StrChars.Road
open Jvm Sem ClassFile Op Lib Jvm.Stand Jvm.Free Jvm.Free.XT
open Jvm.Lib.Cold (StaticIs)
abbrev ST : String := "java/lang/String"
/-- every table word that New1's law asks, flat -/
abbrev words : List Jvm.Cond := [.code New1.yN New1.yB 2 none, .initialized ST, .methodLink ST 27 New4.yN, .instanceMethod New4.yN,
  .code New4.yN New4.yB 6 none, .fieldLink ST 38 ST "COMPACT_STRINGS" "Z", .laysFinal ST ST "value" "[B", .fieldLink ST 9 ST "value" "[B", .laysFinal ST ST "coder" "B", .fieldLink ST 15 ST "coder" "B",
  .methodLink ST 1 Lib.objectInit, .instanceMethod Lib.objectInit, .code Lib.objectInit ⟨#[0xb1]⟩ 1 none, .methodLink ST 177 Cmp3.yN, .static Cmp3.yN, .methodLink ST 47 CodL.yN, .static CodL.yN,
  .code Cmp3.yN Cmp3.yB 6 (some (.array .byte)), .initialized U16, .arrayClass .byte, .methodLink U16 115 Cmp5.yN, .static Cmp5.yN, .code Cmp5.yN Cmp5.yB 7 (some .int), .code CodL.yN CodL.yB 2 (some .byte)]
theorem tab_of {a : Array Value} {s : State} (h : ∀ w ∈ words, w.before a s = true) : New1.tab.before a s = true := by
  have h5 : Cmp5.tab.before a s = true := unparts (wk h (.code Cmp5.yN Cmp5.yB 7 (some .int))) (wks h (.initialized Cmp5.yN.cls :: Cmp5.site))
  have hc : CodL.tab.before a s = true := unparts (wk h (.code CodL.yN CodL.yB 2 (some .byte))) (wks h (.initialized CodL.yN.cls :: CodL.site))
  have q5 : ∀ w ∈ Cmp5.tab :: words, w.before a s = true := fun w hw => (List.mem_cons.mp hw).elim (fun e => e ▸ h5) (h w)
  have h3 : Cmp3.tab.before a s = true := unparts (wk q5 (.code Cmp3.yN Cmp3.yB 6 (some (.array .byte)))) (wks q5 (.initialized Cmp3.yN.cls :: Cmp3.site))
  have q3 : ∀ w ∈ Cmp3.tab :: CodL.tab :: words, w.before a s = true := fun w hw => (List.mem_cons.mp hw).elim (fun e => e ▸ h3) fun hw => (List.mem_cons.mp hw).elim (fun e => e ▸ hc) (h w)
  have h4 : New4.tab.before a s = true := unparts (wk q3 (.code New4.yN New4.yB 6 none)) (wks q3 (.initialized New4.yN.cls :: New4.site))
  have q4 : ∀ w ∈ New4.tab :: words, w.before a s = true := fun w hw => (List.mem_cons.mp hw).elim (fun e => e ▸ h4) (h w)
  exact unparts (wk q4 (.code New1.yN New1.yB 2 none)) (wks q4 (.initialized New1.yN.cls :: New1.site))
/-- the words ride from the start Z to the walk's own state -/
theorem moved {Z s : State} {a0 args : Array Value} (hZ : Z.Warmed39 s.vm) (hw : ∀ d ∈ words, d.before a0 Z = true) : ∀ d ∈ words, d.before args s = true := fun d hd => by
  have q := hw d hd
  have t : ∀ d ∈ words, d = .arrayClass .byte ∨ (d.onTables && d.keepsFace) = true := by decide +kernel
  rcases t d hd with rfl | t
  · exact RoadKit.mvA hZ q
  · exact RoadKit.mv hZ q t
/-- WHAT COMES BACK, over the tables of the start Z: h the heap at the call, h' behind it -/
def Q (Z : State) (x : Addr) (A : Cell) (h : Heap) (v : Option Value) (h' : Heap) (L : List Loc) : Prop := v = none ∧ (∀ y ∈ L, y.base = x) ∧ RoadKit.Keep h h' [x] ∧ h'.size = h.size + 1 ∧ RoadKit.Exa Z h' x ST ∧ RoadKit.Fld Z h' x ST "value" "[B" (.ref h.size) ∧ RoadKit.Fld Z h' x ST "coder" "B" (.int 0) ∧
  (∃ V : Cell, RoadKit.Arr Z h' h.size V .byte ∧ V.vm = .none ∧ Z.vm.findClass "[B" = some V.cls ∧ V.slots.size = A.slots.size ∧ ∀ j, j < A.slots.size → V.slots[j]? = some (.int (lo8 (cv A j)))) ∧
  ∀ (O n d : String) (w : Value), RoadKit.Fld Z h x O n d w → RoadKit.slotOf Z O n d ≠ RoadKit.slotOf Z ST "value" "[B" → RoadKit.slotOf Z O n d ≠ RoadKit.slotOf Z ST "coder" "B" → RoadKit.Fld Z h' x O n d w
/-- **new String(chars) AT A CALL, IN THE ROAD'S FORM**: for specialBack behind newO: x the fresh String, b the char[] with the cell A -/
theorem back {p : Program} {l : Launch} {e : Env} {R : Room} {s : State} {args : Array Value} {below : List Frame} {len W : Nat} {Z : State} {a0 : Array Value} {h : Heap} (hZ : Z.Warmed39 s.vm) (hw : ∀ d ∈ words, d.before a0 Z = true) {kI : Nat} (wi : (Jvm.Cond.instantiable ST kI).before a0 Z = true)
    {x b : Addr} {A : Cell} {z : Int32} {v0 c0 : Value} (E : RoadKit.Exa Z h x ST) (V : RoadKit.Fld Z h x ST "value" "[B" v0) (C : RoadKit.Fld Z h x ST "coder" "B" c0) (K : RoadKit.Arr Z h b A .char) (hty : Typed .char A) (S : RoadKit.Sta Z h ST "COMPACT_STRINGS" "Z" (.int z)) (hz : ¬ z = 0)
    (l0 : 0 < A.slots.size) (l2 : A.slots.size ≤ 536870912) (hp : ∀ i, i < A.slots.size → ¬ 255 < cv A i) (hfr : 4 ≤ R.frames) (hlo : W + 65 ≤ R.locals) :
    Back l R p e below s args New1.yN len W (fun P a => a = #[.ref x, .ref b] ∧ P.U.heap = h ∧ P.cells + 1 ≤ R.cells ∧ P.slots + A.slots.size ≤ R.slots)
      (fun P _ v B => ∃ L, Q Z x A h v B.U.heap L ∧ B.locs = P.locs ++ L ∧ B.cells = P.cells + 1 ∧ B.slots = P.slots + A.slots.size) := by
  intro m meth c P g ig mk a X hg hsize hdg hW hn hp'
  obtain ⟨rfl, rfl, r1, r2⟩ := hp'
  have al : Z.vm.Alike P.U.vm := hZ.alike.trans X.warmed.alike
  obtain ⟨D, cfV, kV, iV, fV, hD, gV, stV, knV, obV, asV, slV⟩ := id V
  obtain ⟨D', cfC, kC, iC, fC, hD', gC, stC, -, -, asC, slC⟩ := id C
  cases hD.symm.trans hD'
  obtain ⟨D2, kD, e1, e2, e3, e4, e5⟩ := id E
  cases hD.symm.trans e1
  obtain ⟨c2, k2, i1, i2, i3, -⟩ := Cond.instantiable_spec wi
  cases e2.symm.trans i1
  cases e3.symm.trans i2
  obtain ⟨kU, u1, u2⟩ := al.2.2 _ _ e3
  have hB : Blank ST x D P.U := ⟨hD, ⟨knV, fun q hq => by rw [hq] at obV; cases obV⟩, by rw [al.findClass]; exact e2, kU, u1, by rw [u2]; exact i3, by rw [u2]; exact e5 i3⟩
  have F1 : Found ST "value" "[B" fV P.U := ⟨SBG.found_only al ⟨cfV, kV, iV, gV⟩, stV⟩
  have F2 : Found ST "coder" "B" fC P.U := ⟨SBG.found_only al ⟨cfC, kC, iC, gC⟩, stC⟩
  have hA : Ch b A P.U := ⟨⟨K.1, State.isArrayOf_alike al K.2.1, K.2.2, by omega⟩, hty⟩
  have hS : StaticIs P.U ST "COMPACT_STRINGS" "Z" (.int z) := by
    obtain ⟨cfS, iS, kS, fS, st, cS, t1, t2, t3, t4, t5, t6, t7⟩ := S
    exact StaticIs.there (s := { Z with heap := P.U.heap }) ⟨cfS, iS, kS, fS, st, cS, t1, t2, t3, t4, t5, (fun q => by rw [q] at t6; cases t6), t7⟩ al rfl
  obtain ⟨v, B, X', ⟨⟨hv, E', V', q1, q2, q3, q4, q5, q6, q7, q8, q9, q10, q11⟩, hl, hc, hs⟩, st⟩ := New1.pays x D fV fC b A z (tab_of (moved hZ hw)) hfr hlo m meth c P g ig mk _ X hg hsize hdg hW hn ⟨r1, r2, rfl, hB, F1, F2, hA, hS, hz, l0, l2, hp⟩
  have al' : Z.vm.Alike B.U.vm := hZ.alike.trans X'.warmed.alike
  have hsz : E'.slots.size = D.slots.size := by
    obtain ⟨-, -, -, kB, w1, w2, w3⟩ := q1
    obtain ⟨kB', y1, y2⟩ := al'.2.2 _ _ e3
    rw [q2.2.1] at w1
    cases w1.symm.trans y1
    rw [w3, e5 i3, y2]
  refine ⟨v, B, X', ⟨_, ⟨hv, ?_, ⟨by omega, fun y cy hy hn' => q10 y cy (by simpa using hn') hy, fun y cy hy => ?_⟩, q11, ⟨E', _, q1.1, by rw [q2.2.1]; exact e2, by rw [q2.2.1]; exact e3, by rw [q2.1]; exact obV, fun _ => by rw [hsz]; exact e5 i3⟩,
    ⟨E', cfV, kV, iV, fV, q1.1, gV, stV, by rw [q2.1]; exact knV, by rw [q2.1]; exact obV, by rw [q2.2.1]; exact asV, q3⟩, ⟨E', cfC, kC, iC, fC, q1.1, gC, stC, by rw [q2.1]; exact knV, by rw [q2.1]; exact obV, by rw [q2.2.1]; exact asC, q4⟩,
    ⟨V', ⟨q5.1, State.isArrayOf_alike al'.symm q5.2.1, q5.2.2.1⟩, q6, by rw [← al'.findClass]; exact q7, q8, fun j hj => by have := q9 j hj; rwa [Nat.zero_add] at this⟩, fun O n d w F n1 n2 => ?_⟩, hl, hc, hs⟩, st⟩
  · intro y hy
    simp only [List.mem_cons, List.not_mem_nil, or_false] at hy
    rcases hy with rfl | rfl <;> rfl
  · by_cases q : y = x
    · subst q
      cases hD.symm.trans hy
      exact ⟨E', q1.1, q2.2.1, q2.1, hsz⟩
    · exact ⟨cy, q10 y cy q hy, rfl, rfl, rfl⟩
  · obtain ⟨D3, cf, k, i, f, g1, g2, g3, g4, g5, g6, g7⟩ := F
    cases hD.symm.trans g1
    simp only [RoadKit.slotOf, g2, gV, gC, Option.map_some, Option.getD_some] at n1 n2
    exact ⟨E', cf, k, i, f, q1.1, g2, g3, by rw [q2.1]; exact g4, by rw [q2.1]; exact g5, by rw [q2.2.1]; exact g6, by rw [q2.2.2 f.slot (by simp [n1, n2])]; exact g7⟩
end StrChars.Road
namespace StrChars.Road
open Jvm Sem ClassFile Op Lib Jvm.Stand Jvm.Free Jvm.Free.XT
/-- WHAT COMES BACK, the byte[] as a list of values -/
def QA (Z : State) (x : Addr) (zn : Int32) (cs : List Int32) (h : Heap) (v : Option Value) (h' : Heap) (L : List Loc) : Prop := v = none ∧ (∀ y ∈ L, y.base = x) ∧ RoadKit.Keep h h' [x] ∧ h'.size = h.size + 1 ∧ RoadKit.Exa Z h' x ST ∧ RoadKit.Fld Z h' x ST "value" "[B" (.ref h.size) ∧ RoadKit.Fld Z h' x ST "coder" "B" (.int 0) ∧
  (∃ kb, Z.vm.findClass "[B" = some kb ∧ RoadKit.Arv Z h' h.size kb .byte zn (cs.map fun c => .int (lo8 c)) (.int 0)) ∧
  ∀ (O n d : String) (w : Value), RoadKit.Fld Z h x O n d w → RoadKit.slotOf Z O n d ≠ RoadKit.slotOf Z ST "value" "[B" → RoadKit.slotOf Z O n d ≠ RoadKit.slotOf Z ST "coder" "B" → RoadKit.Fld Z h' x O n d w
/-- **new String(chars) AT A CALL, THE ARRAYS AS LISTS**: the char[] at b holds cs, not empty, no char above 255 -/
theorem backArv {p : Program} {l : Launch} {e : Env} {R : Room} {s : State} {args : Array Value} {below : List Frame} {len W : Nat} {Z : State} {a0 : Array Value} {h : Heap} (hZ : Z.Warmed39 s.vm) (hw : ∀ d ∈ words, d.before a0 Z = true) {kI : Nat} (wi : (Jvm.Cond.instantiable ST kI).before a0 Z = true)
    {x b : Addr} {k : ClassId} {zn z : Int32} {cs : List Int32} {dv v0 c0 : Value} (E : RoadKit.Exa Z h x ST) (V : RoadKit.Fld Z h x ST "value" "[B" v0) (C : RoadKit.Fld Z h x ST "coder" "B" c0) (K : RoadKit.Arv Z h b k .char zn (cs.map Value.int) dv) (S : RoadKit.Sta Z h ST "COMPACT_STRINGS" "Z" (.int z)) (hz : ¬ z = 0)
    (hlen : zn.toNatClampNeg = cs.length) (h0 : 0 < cs.length) (hbig : cs.length ≤ 536870912) (hall : ∀ c ∈ cs, ¬ 255 < c) (hfr : 4 ≤ R.frames) (hlo : W + 65 ≤ R.locals) :
    Back l R p e below s args New1.yN len W (fun P a => a = #[.ref x, .ref b] ∧ P.U.heap = h ∧ P.cells + 1 ≤ R.cells ∧ P.slots + cs.length ≤ R.slots)
      (fun P _ v B => ∃ L, QA Z x zn cs h v B.U.heap L ∧ B.locs = P.locs ++ L ∧ B.cells = P.cells + 1 ∧ B.slots = P.slots + cs.length) := by
  obtain ⟨A, K1, K2, K3, K4, K5, K6⟩ := K
  have e : A.slots.size = cs.length := K3.trans hlen
  have hat : ∀ (i : Nat) (hi : i < cs.length), A.slots[i]? = some (.int cs[i]) := fun i hi => by rw [K5 i (by omega)]; simp [List.getD_eq_getElem?_getD, hi]
  have hcv : ∀ (i : Nat) (hi : i < cs.length), cv A i = cs[i] := fun i hi => by unfold cv; rw [hat i hi]
  have hty : Typed .char A := fun i v hv => by
    have hi : i < A.slots.size := (Array.getElem?_eq_some_iff.mp hv).1
    have q := K5 i hi
    rw [hv] at q
    rw [Option.some.inj q]
    exact K6 i hi
  refine Back.mono (back hZ hw wi E V C K1 hty S hz (by omega) (by omega) (fun i hi => by rw [hcv i (by omega)]; exact hall _ (List.getElem_mem _)) hfr hlo) (fun P a hp => ⟨hp.1, hp.2.1, hp.2.2.1, by rw [e]; exact hp.2.2.2⟩) (fun P a v B hp hq => ?_)
  obtain ⟨L, ⟨q1, q2, q3, q4, q5, q6, q7, ⟨V', v1, v2, v3, v4, v5⟩, q9⟩, hl, hc, hs⟩ := hq
  refine ⟨L, ⟨q1, q2, q3, q4, q5, q6, q7, ⟨V'.cls, v3, V', v1, rfl, by rw [v4, e, hlen], K4, fun i hi => ?_, fun i hi => ?_⟩, q9⟩, hl, hc, by rw [hs, e]⟩
  · have hi' : i < cs.length := by omega
    rw [v5 i (by omega), hcv i hi']; simp [List.getD_eq_getElem?_getD, hi']
  · have hi' : i < cs.length := by omega
    simp only [List.getD_eq_getElem?_getD, List.getElem?_map, List.getElem?_eq_getElem hi', Option.map_some, Option.getD_some]
    exact fits_lo8 _
end StrChars.Road
namespace StrChars.Road
open Jvm Sem ClassFile Op Lib Jvm.Stand Jvm.Free Jvm.Free.XT
/-- WHAT COMES BACK, in the writer's own shape -/
def QV (Z : State) (x : Addr) (N : Int32) (bs : List Int32) (h : Heap) (n0 : Nat) (v : Option Value) (h' : Heap) (L : List Loc) : Prop := v = none ∧ RoadKit.Fr n0 L ∧ RoadKit.Keep h h' [x] ∧ RoadKit.Exa Z h' x ST ∧ RoadKit.Fld Z h' x ST "coder" "B" (.int 0) ∧
  ∃ (t : Addr) (kb : ClassId), n0 ≤ t ∧ h.size ≤ t ∧ ¬ t = x ∧ RoadKit.Fld Z h' x ST "value" "[B" (.ref t) ∧ RoadKit.Arv Z h' t kb .byte N (bs.map Value.int) (.int 0)
/-- **new String(chars) AT A CALL, FOR THE WRITER**: a char[] of n known ints, each 0 to 255 -/
theorem backV {p : Program} {l : Launch} {e : Env} {R : Room} {s : State} {args : Array Value} {below : List Frame} {len W : Nat} {Z : State} {a0 : Array Value} {h : Heap} (hZ : Z.Warmed39 s.vm) (hw : ∀ d ∈ words, d.before a0 Z = true) {kI : Nat} (wi : (Jvm.Cond.instantiable ST kI).before a0 Z = true)
    {x b : Addr} {kC : ClassId} {cs bs : List Int32} {d v0 c0 : Value} {z N : Int32} {n n0 : Nat} (hx0 : n0 ≤ x) (hh0 : n0 ≤ h.size) (E : RoadKit.Exa Z h x ST) (V : RoadKit.Fld Z h x ST "value" "[B" v0) (C : RoadKit.Fld Z h x ST "coder" "B" c0) (K : RoadKit.Arv Z h b kC .char N (cs.map Value.int) d) (S : RoadKit.Sta Z h ST "COMPACT_STRINGS" "Z" (.int z)) (hz : ¬ z = 0)
    (hn : cs.length = n) (hN : N = Int32.ofNat n) (l0 : 0 < n) (l2 : n ≤ 4000) (hp : ∀ c ∈ cs, ¬ c < 0 ∧ ¬ (255 : Int32) < c) (hb : bs = cs.map (fun c => c.toInt8.toInt32)) (hfr : 4 ≤ R.frames) (hlo : W + 65 ≤ R.locals) :
    Back l R p e below s args (⟨"java/lang/String", "<init>", "([C)V"⟩ : MethodName) len W (fun P a => a = #[.ref x, .ref b] ∧ P.U.heap = h ∧ P.cells + 1 ≤ R.cells ∧ P.slots + n ≤ R.slots)
      (fun P _ v B => ∃ L, QV Z x N bs h n0 v B.U.heap L ∧ B.locs = P.locs ++ L ∧ B.cells = P.cells + 1 ∧ B.slots = P.slots + n) := by
  subst hn hN hb
  refine Back.mono (backArv hZ hw wi E V C K S hz (n32 (by omega)) l0 (by omega) (fun c hc => (hp c hc).2) hfr hlo) (fun P a hp => hp) (fun P a v B hp hq => ?_)
  obtain ⟨L, ⟨q1, q2, q3, q4, q5, q6, q7, ⟨kb, v1, v2⟩, q9⟩, hl, hc, hs⟩ := hq
  exact ⟨L, ⟨q1, fun y hy => by rw [q2 y hy]; exact hx0, q3, q5, q7, h.size, kb, hh0, Nat.le_refl _, Nat.ne_of_gt E.lt, q6, by rw [List.map_map]; exact v2⟩, hl, hc, hs⟩
end StrChars.Road
namespace StrChars
open Jvm Sem ClassFile Op Lib Jvm.Stand Jvm.Free.XT Jvm.Free.ALB Jvm.Free.JM Jvm.Free
open Jvm.Lib.Cold (StaticIs)
def hi8 (x : Int32) : Int32 := lo8 (x >>> ((8 : Int32) &&& 31))
/-- what StringUTF16.getChar makes of two bytes -/
def pairCh (u v : Int32) : Int32 := (((u &&& 255) <<< ((0 : Int32) &&& 31)) ||| ((v &&& 255) <<< ((8 : Int32) &&& 31))).toUInt32.toUInt16.toUInt32.toInt32
theorem lo8_and (x : Int32) : (lo8 x &&& 255).toBitVec.toNat = x.toBitVec.toNat % 256 := by
  have h : (lo8 x).toBitVec = (x.toBitVec.signExtend 8).signExtend 32 := by rw [lo8, Int8.toBitVec_toInt32, Int32.toBitVec_toInt8]
  rw [Int32.toBitVec_and, BitVec.toNat_and, h]
  have e : ((x.toBitVec.signExtend 8).signExtend 32).toNat % 256 = x.toBitVec.toNat % 256 := by
    rw [BitVec.toNat_signExtend]
    have hlt := x.toBitVec.isLt
    simp only [BitVec.toNat_setWidth, BitVec.toNat_signExtend]
    split <;> split <;> omega
  rw [← e]
  exact Nat.and_two_pow_sub_one_eq_mod _ 8
theorem pair_says {c : Int32} (h0 : ¬ c < 0) (h1 : ¬ 65535 < c) : pairCh (lo8 c) (hi8 c) = c := by
  rw [Int32.lt_iff_toInt_lt] at h0 h1
  have e0 : (0 : Int32).toInt = 0 := rfl
  have e1 : (65535 : Int32).toInt = 65535 := rfl
  have hc : c.toInt = c.toBitVec.toNat := by
    have := c.toBitVec.isLt
    have e : c.toInt = c.toBitVec.toInt := rfl
    rw [e] at h0 h1
    rw [e]
    rw [BitVec.toInt_eq_toNat_cond] at h0 h1 ⊢
    split at h0 <;> split <;> omega
  have hn : c.toBitVec.toNat < 65536 := by omega
  have a1 := lo8_and c
  have a2 : (hi8 c &&& 255).toBitVec.toNat = c.toBitVec.toNat / 256 := by
    rw [hi8, lo8_and]
    have e : ((8 : Int32) &&& 31) = 8 := by decide
    rw [e, Int32.toBitVec_shiftRight]
    have e2 : ((8 : Int32).toBitVec.smod 32) = 8#32 := by decide
    rw [e2, BitVec.sshiftRight_eq', BitVec.toNat_sshiftRight_of_msb_false (by rw [BitVec.msb_eq_false_iff_two_mul_lt]; omega)]
    show c.toBitVec.toNat >>> 8 % 256 = _
    rw [Nat.shiftRight_eq_div_pow]
    omega
  unfold pairCh
  apply Int32.toBitVec_inj.mp
  apply BitVec.eq_of_toNat_eq
  have f0 : ((0 : Int32) &&& 31) = 0 := by decide
  have f8 : ((8 : Int32) &&& 31) = 8 := by decide
  rw [f0, f8]
  have g : (((lo8 c &&& 255) <<< (0 : Int32)) ||| ((hi8 c &&& 255) <<< (8 : Int32))).toBitVec.toNat = c.toBitVec.toNat := by
    rw [Int32.toBitVec_or, Int32.toBitVec_shiftLeft, Int32.toBitVec_shiftLeft]
    have s0 : ((0 : Int32).toBitVec.smod 32) = 0#32 := by decide
    have s8 : ((8 : Int32).toBitVec.smod 32) = 8#32 := by decide
    rw [s0, s8, BitVec.toNat_or]
    simp only [BitVec.shiftLeft_eq', BitVec.toNat_shiftLeft, a1, a2]
    show (c.toBitVec.toNat % 256) <<< 0 % 2 ^ 32 ||| (c.toBitVec.toNat / 256) <<< 8 % 2 ^ 32 = _
    rw [Nat.shiftLeft_zero, Nat.mod_eq_of_lt (show c.toBitVec.toNat % 256 < 2 ^ 32 by omega), Nat.mod_eq_of_lt (show (c.toBitVec.toNat / 256) <<< 8 < 2 ^ 32 by rw [Nat.shiftLeft_eq]; omega), Nat.or_comm, ← Nat.shiftLeft_add_eq_or_of_lt (by omega), Nat.shiftLeft_eq]
    omega
  show BitVec.toNat (((((lo8 c &&& 255) <<< (0 : Int32)) ||| ((hi8 c &&& 255) <<< (8 : Int32))).toBitVec.setWidth 16).setWidth 32) = _
  rw [BitVec.toNat_setWidth, BitVec.toNat_setWidth, g]
  omega
end StrChars
namespace StrChars
open Jvm Sem ClassFile Op Lib Jvm.Stand Jvm.Free.XT Jvm.Free.ALB Jvm.Free.JM Jvm.Free
open Jvm.Lib.Cold (StaticIs)
/-- the array's cell V codes the n chars f 0 .. f (n - 1) by the coder cd, as the JDK does: coder 1 just where some char is above 255 -/
def Cod (cd : Int32) (n : Nat) (f : Nat → Int32) (V : Cell) : Prop := (cd = 0 ∧ V.slots.size = n ∧ ∀ j, j < n → V.slots[j]? = some (.int (lo8 (f j))) ∧ ¬ 255 < f j) ∨ (cd = 1 ∧ V.slots.size = 2 * n ∧ (∀ j, j < n → V.slots[2 * j]? = some (.int (lo8 (f j))) ∧ V.slots[2 * j + 1]? = some (.int (hi8 (f j)))) ∧ ∃ j, j < n ∧ 255 < f j)
/-- **x is a String of the n chars f 0 .. f (n - 1)**, Latin-1 or UTF-16; its array at t has the cell V -/
def Txt (x t : Addr) (V : Cell) (cd : Int32) (n : Nat) (f : Nat → Int32) (U : State) : Prop := Exact "java/lang/String" x U ∧ Has x "java/lang/String" "value" "[B" (.ref t) U ∧ Has x "java/lang/String" "coder" "B" (.int cd) U ∧ XT.Arr .byte t V U ∧ Cod cd n f V ∧ ∀ j, j < n → ¬ f j < 0 ∧ ¬ 65535 < f j
theorem Txt.mv {x t : Addr} {V : Cell} {cd : Int32} {n : Nat} {f : Nat → Int32} {U U' : State} (h : Txt x t V cd n f U) (hal : U.vm.Alike U'.vm) (hh : U'.heap = U.heap) : Txt x t V cd n f U' := ⟨h.1.mv hal hh, h.2.1.mv hal hh, h.2.2.1.mv hal hh, h.2.2.2.1.mv hal hh, h.2.2.2.2⟩
end StrChars
namespace StrChars.Road
open Jvm Sem ClassFile Op Lib Jvm.Stand Jvm.Free Jvm.Free.XT
open Jvm.Lib.Cold (StaticIs)
theorem consq {a : Array Value} {s : State} {c : Jvm.Cond} {L : List Jvm.Cond} (h0 : c.before a s = true) (h : ∀ w ∈ L, w.before a s = true) : ∀ w ∈ c :: L, w.before a s = true := fun w hw => (List.mem_cons.mp hw).elim (fun e => e ▸ h0) (h w)
/-- the bytes of the chars cs, low before high -/
def wideBytes : List Int32 → List Value
  | [] => []
  | c :: cs => .int (lo8 c) :: .int (hi8 c) :: wideBytes cs
theorem wide_lo (d : Value) : ∀ (cs : List Int32) (j : Nat), j < cs.length → (wideBytes cs).getD (2 * j) d = .int (lo8 (cs.getD j 0))
  | [], j, h => absurd h (Nat.not_lt_zero j)
  | c :: cs, 0, _ => rfl
  | c :: cs, j + 1, h => by
    have q := wide_lo d cs j (by simpa using h)
    rw [show 2 * (j + 1) = 2 * j + 1 + 1 from by omega]
    simpa [wideBytes] using q
theorem wide_hi (d : Value) : ∀ (cs : List Int32) (j : Nat), j < cs.length → (wideBytes cs).getD (2 * j + 1) d = .int (hi8 (cs.getD j 0))
  | [], j, h => absurd h (Nat.not_lt_zero j)
  | c :: cs, 0, _ => rfl
  | c :: cs, j + 1, h => by
    have q := wide_hi d cs j (by simpa using h)
    rw [show 2 * (j + 1) + 1 = 2 * j + 1 + 1 + 1 from by omega]
    simpa [wideBytes] using q
theorem low_at (d : Value) (cs : List Int32) (j : Nat) (h : j < cs.length) : (cs.map fun c => Value.int (lo8 c)).getD j d = .int (lo8 (cs.getD j 0)) := by
  simp [List.getD_eq_getElem?_getD, h]
/-- an array of N2 bytes vs codes the chars cs by the coder cd -/
def CodA (cs : List Int32) (cd N2 : Int32) (vs : List Value) : Prop := (cd = 0 ∧ N2 = Int32.ofNat cs.length ∧ vs = (cs.map fun c => Value.int (lo8 c)) ∧ ∀ c ∈ cs, ¬ 255 < c) ∨ (cd = 1 ∧ N2 = Int32.ofNat (2 * cs.length) ∧ vs = wideBytes cs ∧ ∃ c ∈ cs, 255 < c)
theorem CodA.cod {cs : List Int32} {cd N2 : Int32} {vs : List Value} {V : Cell} (h : CodA cs cd N2 vs) (hn : 2 * cs.length < 2 ^ 31) (hs : V.slots.size = N2.toNatClampNeg) (hv : RoadKit.Has V vs (.int 0)) : Cod cd cs.length (fun j => cs.getD j 0) V := by
  rcases h with ⟨rfl, rfl, rfl, h⟩ | ⟨rfl, rfl, rfl, c, hc, hw⟩
  · rw [n32 (by omega)] at hs
    exact Or.inl ⟨rfl, hs, fun j hj => ⟨by rw [hv j (by omega), low_at _ _ _ hj], by
      have e : cs.getD j 0 = cs[j] := by simp [List.getD_eq_getElem?_getD, hj]
      show ¬ 255 < cs.getD j 0
      rw [e]; exact h _ (List.getElem_mem _)⟩⟩
  · rw [n32 (by omega)] at hs
    obtain ⟨j, hj, rfl⟩ := List.getElem_of_mem hc
    exact Or.inr ⟨rfl, hs, fun j hj => ⟨by rw [hv _ (by omega), wide_lo _ _ _ hj], by rw [hv _ (by omega), wide_hi _ _ _ hj]⟩, j, hj, by
      have e : cs.getD j 0 = cs[j] := by simp [List.getD_eq_getElem?_getD, hj]
      show 255 < cs.getD j 0
      rw [e]; exact hw⟩
/-- an object of exactly java/lang/String, its two fields found: as the laws ask it -/
theorem strObj {Z U : State} {a0 : Array Value} {kI : Nat} (wi : (Jvm.Cond.instantiable ST kI).before a0 Z = true) (al : Z.vm.Alike U.vm) {x : Addr} {v0 c0 : Value} (E : RoadKit.Exa Z U.heap x ST) (V : RoadKit.Fld Z U.heap x ST "value" "[B" v0) (C : RoadKit.Fld Z U.heap x ST "coder" "B" c0) :
    ∃ (D : Cell) (fV fC : Field), Blank ST x D U ∧ Found ST "value" "[B" fV U ∧ Found ST "coder" "B" fC U ∧ D.slots[fV.slot]? = some v0 ∧ D.slots[fC.slot]? = some c0 ∧ RoadKit.slotOf Z ST "value" "[B" = fV.slot ∧ RoadKit.slotOf Z ST "coder" "B" = fC.slot := by
  obtain ⟨D, cfV, kV, iV, fV, hD, gV, stV, knV, obV, asV, slV⟩ := V
  obtain ⟨D', cfC, kC, iC, fC, hD', gC, stC, -, -, asC, slC⟩ := C
  cases hD.symm.trans hD'
  obtain ⟨D2, kD, e1, e2, e3, e4, e5⟩ := E
  cases hD.symm.trans e1
  obtain ⟨c2, k2, i1, i2, i3, -⟩ := Cond.instantiable_spec wi
  cases e2.symm.trans i1
  cases e3.symm.trans i2
  obtain ⟨kU, u1, u2⟩ := al.2.2 _ _ e3
  exact ⟨D, fV, fC, ⟨hD, ⟨knV, fun q hq => by rw [hq] at obV; cases obV⟩, by rw [al.findClass]; exact e2, kU, u1, by rw [u2]; exact i3, by rw [u2]; exact e5 i3⟩, ⟨SBG.found_only al ⟨cfV, kV, iV, gV⟩, stV⟩, ⟨SBG.found_only al ⟨cfC, kC, iC, gC⟩, stC⟩, slV, slC, by simp [RoadKit.slotOf, gV], by simp [RoadKit.slotOf, gC]⟩
theorem sta_is {Z U : State} (al : Z.vm.Alike U.vm) {C n d : String} {v : Value} (S : RoadKit.Sta Z U.heap C n d v) : StaticIs U C n d v := by
  obtain ⟨cfS, iS, kS, fS, st, cS, t1, t2, t3, t4, t5, t6, t7⟩ := S
  exact StaticIs.there (s := { Z with heap := U.heap }) ⟨cfS, iS, kS, fS, st, cS, t1, t2, t3, t4, t5, (fun q => by rw [q] at t6; cases t6), t7⟩ al rfl
end StrChars.Road
namespace StrChars
open Jvm Sem ClassFile Op Lib Jvm.Stand Jvm.Free.XT Jvm.Free.ALB Jvm.Free.JM Jvm.Free
open Jvm.Lib.Cold (StaticIs)
/-- what place i of a byte[]'s cell holds -/
def yv (A : Cell) (i : Nat) : Int32 := match A.slots[i]? with | some (.int x) => x | _ => 0
theorem yv_get {a : Addr} {A : Cell} {U : State} (h : XT.Arr .byte a A U) (ht : Typed .byte A) {i : Nat} (hi : i < A.slots.size) : A.slots[i]? = some (.int (yv A i)) := by
  have e := Array.getElem?_eq_getElem hi
  have f := ht i _ e
  unfold yv; rw [e]
  generalize A.slots[i] = v at f
  cases v <;> simp [fits] at f ⊢
/-- the two arrays are equal, place for place -/
def EqC (A B : Cell) : Prop := A.slots.size = B.slots.size ∧ ∀ i, i < A.slots.size → yv A i = yv B i
/-- a boolean that says whether p -/
def Says01 (q : Prop) (r : Option Value) (s u : State) : Prop := ∃ v : Int32, r = some (.int v) ∧ u.heap = s.heap ∧ ((v = 1 ∧ q) ∨ (v = 0 ∧ ¬ q))
theorem Says01.mv {q : Prop} : ∀ r (U U' V V' : State), U'.heap = U.heap → V.vm.Alike V'.vm → V'.heap = V.heap → Says01 q r U V → Says01 q r U' V' :=
  fun r U U' V V' h1 _ h2 ⟨v, a, b, c⟩ => ⟨v, a, by rw [h1, h2]; exact b, c⟩
namespace LEq
def yN : MethodName := ⟨"java/lang/StringLatin1", "equals", "([B[B)Z"⟩
abbrev yB : ByteArray := jdk_43_method_13_code
theorem d0 : decode yB 0 = .ok (.aload_n 0, 1) := by decide +kernel
theorem d1 : decode yB 1 = .ok (.arraylength, 1) := by decide +kernel
theorem d2 : decode yB 2 = .ok (.aload_n 1, 1) := by decide +kernel
theorem d3 : decode yB 3 = .ok (.arraylength, 1) := by decide +kernel
theorem d4 : decode yB 4 = .ok (.if_icmp (.ne) 30, 3) := by decide +kernel
theorem d7 : decode yB 7 = .ok (.iconst 0, 1) := by decide +kernel
theorem d8 : decode yB 8 = .ok (.istore_n 2, 1) := by decide +kernel
theorem d9 : decode yB 9 = .ok (.iload_n 2, 1) := by decide +kernel
theorem d10 : decode yB 10 = .ok (.aload_n 0, 1) := by decide +kernel
theorem d11 : decode yB 11 = .ok (.arraylength, 1) := by decide +kernel
theorem d12 : decode yB 12 = .ok (.if_icmp (.ge) 20, 3) := by decide +kernel
theorem d15 : decode yB 15 = .ok (.aload_n 0, 1) := by decide +kernel
theorem d16 : decode yB 16 = .ok (.iload_n 2, 1) := by decide +kernel
theorem d17 : decode yB 17 = .ok (.baload, 1) := by decide +kernel
theorem d18 : decode yB 18 = .ok (.aload_n 1, 1) := by decide +kernel
theorem d19 : decode yB 19 = .ok (.iload_n 2, 1) := by decide +kernel
theorem d20 : decode yB 20 = .ok (.baload, 1) := by decide +kernel
theorem d21 : decode yB 21 = .ok (.if_icmp (.eq) 5, 3) := by decide +kernel
theorem d24 : decode yB 24 = .ok (.iconst 0, 1) := by decide +kernel
theorem d25 : decode yB 25 = .ok (.ireturn, 1) := by decide +kernel
theorem d26 : decode yB 26 = .ok (.iinc 2 1, 3) := by decide +kernel
theorem d29 : decode yB 29 = .ok (.goto (-20), 3) := by decide +kernel
theorem d32 : decode yB 32 = .ok (.iconst 1, 1) := by decide +kernel
theorem d33 : decode yB 33 = .ok (.ireturn, 1) := by decide +kernel
theorem d34 : decode yB 34 = .ok (.iconst 0, 1) := by decide +kernel
theorem d35 : decode yB 35 = .ok (.ireturn, 1) := by decide +kernel
def site : List Cond := []
def tab : Cond := tabOf yN yB 3 (some .boolean) site
def P (a : Addr) (A : Cell) (b : Addr) (B : Cell) (args : Array Value) (s : State) : Prop := args = #[.ref a, .ref b] ∧ XT.Arr .byte a A s ∧ Typed .byte A ∧ XT.Arr .byte b B s ∧ Typed .byte B
/-- whether two byte[] are equal, place for place -/
theorem law (l : Launch) (a : Addr) (A : Cell) (b : Addr) (B : Cell) : Law l yN 2 2 0 0 yB 3 (some .boolean) site (P a A b B) (Says01 (EqC A B)) [] 0 0 := by
  refine Law.of_walk (plainFor_of_name (by decide +kernel)) (by decide +kernel) (by decide +kernel) (by decide) (fun _ _ h => by rw [h.1]; rfl) (fun _ U U' hal hh h => ⟨h.1, h.2.1.mv hal hh, h.2.2.1, h.2.2.2.1.mv hal hh, h.2.2.2.2⟩) (fun r U U' V V' h1 hal h2 h => Says01.mv r U U' V V' h1 hal h2 h) ?_
  intro p e s m args below meth c s₁ X0 hexec hbytes hml hret hlk hnm hown hh0 W hP
  obtain ⟨rfl, hA, tA, hB, tB⟩ := hP
  have a31 := hA.2.2.2
  have b31 := hB.2.2.2
  have hA0 := hA.mv X0.warmed.alike hh0
  have hB0 := hB.mv X0.warmed.alike hh0
  have c1 : Steps p.tables e below (s₁.setTop (entryFrame m #[.ref a, .ref b] 3)) (s₁.setTop (mkF m 0 #[.val (.ref a), .val (.ref b), .unset] [])) := entry rfl
  have c2 : Steps p.tables e below (s₁.setTop (entryFrame m #[.ref a, .ref b] 3)) (s₁.setTop (mkF m 4 #[.val (.ref a), .val (.ref b), .unset] [.int (Int32.ofNat B.slots.size), .int (Int32.ofNat A.slots.size)])) := c1.trans (by
    refine XS.aloadN X0.here hexec rfl (hb hbytes d0) rfl rfl ?_
    refine X0.alen hexec hA0 rfl rfl (hb hbytes d1) ?_
    refine XS.aloadN X0.here hexec rfl (hb hbytes d2) rfl rfl ?_
    refine X0.alen hexec hB0 rfl rfl (hb hbytes d3) ?_
    exact Steps.refl _)
  by_cases hs : A.slots.size = B.slots.size
  · have c3 : Steps p.tables e below (s₁.setTop (entryFrame m #[.ref a, .ref b] 3)) (s₁.setTop (mkF m 9 #[.val (.ref a), .val (.ref b), .val (.int 0)] [])) := c2.trans (by
      refine XS.icmpNo X0.here hexec rfl (hb hbytes d4) rfl (ii_ne_f (by rw [hs])) ?_
      refine iconstV X0.here hexec rfl 0 (hb hbytes d7) (by decide) ?_
      refine XS.istoreN X0.here hexec rfl (hb hbytes d8) rfl rfl ?_
      exact Steps.refl _)
    have loop : ∀ (r i : Nat), i + r = A.slots.size → (∀ j, j < i → yv A j = yv B j) → Steps p.tables e below (s₁.setTop (entryFrame m #[.ref a, .ref b] 3)) (s₁.setTop (mkF m 9 #[.val (.ref a), .val (.ref b), .val (.int (Int32.ofNat i))] [])) → ∃ (pc : Nat) (Ls : Array Slot) (v : Int32), (pc = 25 ∨ pc = 33) ∧ ((v = 1 ∧ EqC A B) ∨ (v = 0 ∧ ¬ EqC A B)) ∧ Steps p.tables e below (s₁.setTop (entryFrame m #[.ref a, .ref b] 3)) (s₁.setTop (mkF m pc Ls [.int v])) := by
      intro r
      induction r with
      | zero =>
        intro i hi he cl
        exact ⟨33, _, 1, Or.inr rfl, Or.inl ⟨rfl, hs, fun j hj => he j (by omega)⟩, cl.trans (by
          refine XS.iloadN X0.here hexec rfl (hb hbytes d9) rfl ?_
          refine XS.aloadN X0.here hexec rfl (hb hbytes d10) rfl rfl ?_
          refine X0.alen hexec hA0 rfl rfl (hb hbytes d11) ?_
          refine XS.icmpYes X0.here hexec rfl (pc0 := 12) rfl (hb hbytes d12) rfl (ii_ge_t (nlt32 (by omega) (by omega))) (by decide) rfl ?_
          refine iconstV X0.here hexec rfl 1 (hb hbytes d32) (by decide) ?_
          exact Steps.refl _)⟩
      | succ r ih =>
        intro i hi he cl
        have c4 : Steps p.tables e below (s₁.setTop (entryFrame m #[.ref a, .ref b] 3)) (s₁.setTop (mkF m 21 #[.val (.ref a), .val (.ref b), .val (.int (Int32.ofNat i))] [.int (yv B i), .int (yv A i)])) := cl.trans (by
          refine XS.iloadN X0.here hexec rfl (hb hbytes d9) rfl ?_
          refine XS.aloadN X0.here hexec rfl (hb hbytes d10) rfl rfl ?_
          refine X0.alen hexec hA0 rfl rfl (hb hbytes d11) ?_
          refine XS.icmpNo X0.here hexec rfl (hb hbytes d12) rfl (ii_ge_f (lt32 (by omega) (by omega))) ?_
          refine XS.aloadN X0.here hexec rfl (hb hbytes d15) rfl rfl ?_
          refine XS.iloadN X0.here hexec rfl (hb hbytes d16) rfl ?_
          refine X0.aget hexec hA0 rfl (yv_get hA tA (i := i) (by omega)) rfl rfl (hb hbytes d17) ?_
          refine XS.aloadN X0.here hexec rfl (hb hbytes d18) rfl rfl ?_
          refine XS.iloadN X0.here hexec rfl (hb hbytes d19) rfl ?_
          refine X0.aget hexec hB0 rfl (yv_get hB tB (i := i) (by omega)) rfl rfl (hb hbytes d20) ?_
          exact Steps.refl _)
        by_cases hv : yv A i = yv B i
        · have c5 : Steps p.tables e below (s₁.setTop (entryFrame m #[.ref a, .ref b] 3)) (s₁.setTop (mkF m 9 #[.val (.ref a), .val (.ref b), .val (.int (Int32.ofNat i + 1))] [])) := c4.trans (by
            refine XS.icmpYes X0.here hexec rfl (pc0 := 21) rfl (hb hbytes d21) rfl (ii_eq_t hv) (by decide) rfl ?_
            refine iincV X0.here hexec rfl 1 (hb hbytes d26) (by decide) rfl rfl ?_
            refine XS.goto X0.here hexec rfl (pc0 := 29) rfl (hb hbytes d29) (by decide) rfl ?_
            exact Steps.refl _)
          rw [succ32] at c5
          exact ih (i + 1) (by omega) (fun j hj => by
            by_cases e : j = i
            · rw [e]; exact hv
            · exact he j (by omega)) c5
        · exact ⟨25, _, 0, Or.inl rfl, Or.inr ⟨rfl, fun q => hv (q.2 i (by omega))⟩, c4.trans (by
            refine XS.icmpNo X0.here hexec rfl (hb hbytes d21) rfl (ii_eq_f hv) ?_
            refine iconstV X0.here hexec rfl 0 (hb hbytes d24) (by decide) ?_
            exact Steps.refl _)⟩
    obtain ⟨pc, Ls, v, hpc, hv, cz⟩ := loop A.slots.size 0 (by omega) (fun j hj => absurd hj (Nat.not_lt_zero j)) c3
    have nv : narrow .boolean (.int v) = .int v := by rcases hv with ⟨rfl, -⟩ | ⟨rfl, -⟩ <;> rfl
    rcases hpc with rfl | rfl
    · exact ⟨s₁, some (.int v), _, _, _, X0, rfl, rfl, rfl, (fun h => by cases h), ⟨v, rfl, hh0, hv⟩, fun fs hl => cz.trans (X0.ireturnOut hexec hret nv (Or.inr (Or.inl rfl)) (hb hbytes d25) hl)⟩
    · exact ⟨s₁, some (.int v), _, _, _, X0, rfl, rfl, rfl, (fun h => by cases h), ⟨v, rfl, hh0, hv⟩, fun fs hl => cz.trans (X0.ireturnOut hexec hret nv (Or.inr (Or.inl rfl)) (hb hbytes d33) hl)⟩
  · have c3 : Steps p.tables e below (s₁.setTop (entryFrame m #[.ref a, .ref b] 3)) (s₁.setTop (mkF m 35 #[.val (.ref a), .val (.ref b), .unset] [.int 0])) := c2.trans (by
      refine XS.icmpYes X0.here hexec rfl (pc0 := 4) rfl (hb hbytes d4) rfl (ii_ne_t (ne32 a31 b31 hs)) (by decide) rfl ?_
      refine iconstV X0.here hexec rfl 0 (hb hbytes d34) (by decide) ?_
      exact Steps.refl _)
    exact ⟨s₁, some (.int 0), _, _, _, X0, rfl, rfl, rfl, (fun h => by cases h), ⟨0, rfl, hh0, Or.inr ⟨rfl, fun q => hs q.1⟩⟩, fun fs hl => c3.trans (X0.ireturnOut hexec hret rfl (Or.inr (Or.inl rfl)) (hb hbytes d35) hl)⟩
end LEq
theorem Cod.ty {cd : Int32} {n : Nat} {f : Nat → Int32} {V : Cell} (h : Cod cd n f V) : Typed .byte V := fun i v hv => by
  have hi : i < V.slots.size := (Array.getElem?_eq_some_iff.mp hv).1
  rcases h with ⟨-, k1, k2⟩ | ⟨-, k1, k2, -⟩
  · rw [(k2 i (by omega)).1] at hv; cases hv; exact fits_lo8 _
  · rcases Nat.mod_two_eq_zero_or_one i with e | e
    · obtain ⟨j, rfl⟩ : ∃ j, i = 2 * j := ⟨i / 2, by omega⟩
      rw [(k2 j (by omega)).1] at hv; cases hv; exact fits_lo8 _
    · obtain ⟨j, rfl⟩ : ∃ j, i = 2 * j + 1 := ⟨i / 2, by omega⟩
      rw [(k2 j (by omega)).2] at hv; cases hv; exact fits_lo8 _
/-- the same text -/
def SameT (n : Nat) (f : Nat → Int32) (k : Nat) (g : Nat → Int32) : Prop := n = k ∧ ∀ j, j < n → f j = g j
theorem lo8_inj {x y : Int32} (h0 : ¬ x < 0) (h1 : ¬ 255 < x) (k0 : ¬ y < 0) (k1 : ¬ 255 < y) (h : lo8 x = lo8 y) : x = y := by
  rw [← lo8_mask h0 h1, ← lo8_mask k0 k1, h]
/-- arrays coded by one coder are equal just where the texts are -/
theorem Cod.eqv {cd : Int32} {n k : Nat} {f g : Nat → Int32} {V V' : Cell} (h : Cod cd n f V) (h' : Cod cd k g V') (hf : ∀ j, j < n → ¬ f j < 0 ∧ ¬ 65535 < f j) (hg : ∀ j, j < k → ¬ g j < 0 ∧ ¬ 65535 < g j) : EqC V V' ↔ SameT n f k g := by
  have yvv : ∀ {W : Cell} {i : Nat} {x : Int32}, W.slots[i]? = some (.int x) → yv W i = x := fun q => by unfold yv; rw [q]
  rcases h with ⟨rfl, k1, k2⟩ | ⟨rfl, k1, k2, -⟩
  · rcases h' with ⟨-, m1, m2⟩ | ⟨e, -⟩
    · constructor
      · rintro ⟨e1, e2⟩
        refine ⟨by omega, fun j hj => ?_⟩
        have q := e2 j (by omega)
        rw [yvv (k2 j hj).1, yvv (m2 j (by omega)).1] at q
        exact lo8_inj (hf j hj).1 (k2 j hj).2 (hg j (by omega)).1 (m2 j (by omega)).2 q
      · rintro ⟨rfl, e2⟩
        refine ⟨by omega, fun j hj => ?_⟩
        rw [yvv (k2 j (by omega)).1, yvv (m2 j (by omega)).1, e2 j (by omega)]
    · exact absurd e (by decide)
  · rcases h' with ⟨e, -⟩ | ⟨-, m1, m2, -⟩
    · exact absurd e (by decide)
    · constructor
      · rintro ⟨e1, e2⟩
        refine ⟨by omega, fun j hj => ?_⟩
        have q1 := e2 (2 * j) (by omega)
        have q2 := e2 (2 * j + 1) (by omega)
        rw [yvv (k2 j hj).1, yvv (m2 j (by omega)).1] at q1
        rw [yvv (k2 j hj).2, yvv (m2 j (by omega)).2] at q2
        rw [← pair_says (hf j hj).1 (hf j hj).2, ← pair_says (hg j (by omega)).1 (hg j (by omega)).2, q1, q2]
      · rintro ⟨rfl, e2⟩
        refine ⟨by omega, fun i hi => ?_⟩
        rcases Nat.mod_two_eq_zero_or_one i with e | e
        · obtain ⟨j, rfl⟩ : ∃ j, i = 2 * j := ⟨i / 2, by omega⟩
          rw [yvv (k2 j (by omega)).1, yvv (m2 j (by omega)).1, e2 j (by omega)]
        · obtain ⟨j, rfl⟩ : ∃ j, i = 2 * j + 1 := ⟨i / 2, by omega⟩
          rw [yvv (k2 j (by omega)).2, yvv (m2 j (by omega)).2, e2 j (by omega)]
/-- two codings differ: so do the texts -/
theorem Cod.dif {cd cd' : Int32} {n k : Nat} {f g : Nat → Int32} {V V' : Cell} (h : Cod cd n f V) (h' : Cod cd' k g V') (hne : ¬ cd = cd') : ¬ SameT n f k g := by
  rintro ⟨rfl, e⟩
  rcases h with ⟨rfl, -, k2⟩ | ⟨rfl, -, -, j, hj, hw⟩
  · rcases h' with ⟨rfl, -⟩ | ⟨-, -, -, j, hj, hw⟩
    · exact hne rfl
    · exact (k2 j hj).2 (by rw [e j hj]; exact hw)
  · rcases h' with ⟨-, -, m2⟩ | ⟨rfl, -⟩
    · exact (m2 j hj).2 (by rw [← e j hj]; exact hw)
    · exact hne rfl
/-- an object of exactly C is an instance of C -/
theorem cinst {p : Program} {l : Launch} {e : Env} {R : Room} {s : State} {m : MethodId} {args : Array Value} {below : List Frame} {meth : Method} {c : Code} {T : State} {locs : List Loc} {cells slots : Nat} (X : Stand p l e R s m args below meth c T locs cells slots) (hexec : p.tables.exec = Jvm.exec) {own C : String} {index : Nat} (hown : s.vm.findClass own = some m.cls) (hlink : (Cond.classLink own index C).before args s = true) {a : Addr} (hE : Exact C a T)
    {g : JFrame} (hg : g.method = m) {rest : List Value} (hstack : g.stack = .ref a :: rest) (hdg : decode c.code g.pc = .ok (.instanceof index, 3)) :
    ∃ T', Stand p l e R s m args below meth c T' locs cells slots ∧ T'.heap = T.heap ∧ ∀ target, Steps p.tables e below (T'.setTop { g with pc := g.pc + 3, stack := .int 1 :: rest }) target → Steps p.tables e below (T.setTop g) target := by
  obtain ⟨cB, h1, D, h2, h3, h4⟩ := hE
  have h1' : s.vm.findClass C = some cB := by rw [← X.warmed.alike.findClass]; exact h1
  obtain ⟨vm', X', st⟩ := X.instanceofYes hexec hown hlink h2 h4 h1' (by rw [h3]; exact Jvm.Free.SB.assignable_self _ _) hg hstack hdg
  exact ⟨_, X', rfl, st⟩
theorem cself {p : Program} {l : Launch} {e : Env} {R : Room} {s : State} {m : MethodId} {args : Array Value} {below : List Frame} {meth : Method} {c : Code} {T : State} {locs : List Loc} {cells slots : Nat} (X : Stand p l e R s m args below meth c T locs cells slots) (hexec : p.tables.exec = Jvm.exec) {own C : String} {index : Nat} (hown : s.vm.findClass own = some m.cls) (hlink : (Cond.classLink own index C).before args s = true) {a : Addr} (hE : Exact C a T)
    {g : JFrame} (hg : g.method = m) {rest : List Value} (hstack : g.stack = .ref a :: rest) (hdg : decode c.code g.pc = .ok (.checkcast index, 3)) :
    ∃ T', Stand p l e R s m args below meth c T' locs cells slots ∧ T'.heap = T.heap ∧ ∀ target, Steps p.tables e below (T'.setTop { g with pc := g.pc + 3, stack := .ref a :: rest }) target → Steps p.tables e below (T.setTop g) target := by
  obtain ⟨cB, h1, D, h2, h3, h4⟩ := hE
  have h1' : s.vm.findClass C = some cB := by rw [← X.warmed.alike.findClass]; exact h1
  obtain ⟨vm', X', st⟩ := X.checkcastYes hexec hown hlink h2 h4 h1' (by rw [h3]; exact Jvm.Free.SB.assignable_self _ _) hg hstack hdg
  exact ⟨_, X', rfl, fun t h => st t (by rw [← hstack] at h; exact h)⟩
namespace SEq
def yN : MethodName := ⟨"java/lang/String", "equals", "(Ljava/lang/Object;)Z"⟩
abbrev yB : ByteArray := jdk_42_method_66_code
theorem d0 : decode yB 0 = .ok (.aload_n 0, 1) := by decide +kernel
theorem d1 : decode yB 1 = .ok (.aload_n 1, 1) := by decide +kernel
theorem d2 : decode yB 2 = .ok (.if_acmp (.ne) 5, 3) := by decide +kernel
theorem d5 : decode yB 5 = .ok (.iconst 1, 1) := by decide +kernel
theorem d6 : decode yB 6 = .ok (.ireturn, 1) := by decide +kernel
theorem d7 : decode yB 7 = .ok (.aload_n 1, 1) := by decide +kernel
theorem d8 : decode yB 8 = .ok (.instanceof 10, 3) := by decide +kernel
theorem d11 : decode yB 11 = .ok (.ifCond (.eq) 43, 3) := by decide +kernel
theorem d14 : decode yB 14 = .ok (.aload_n 1, 1) := by decide +kernel
theorem d15 : decode yB 15 = .ok (.checkcast 10, 3) := by decide +kernel
theorem d18 : decode yB 18 = .ok (.astore_n 2, 1) := by decide +kernel
theorem d19 : decode yB 19 = .ok (.getstatic 38, 3) := by decide +kernel
theorem d22 : decode yB 22 = .ok (.ifCond (.eq) 14, 3) := by decide +kernel
theorem d25 : decode yB 25 = .ok (.aload_n 0, 1) := by decide +kernel
theorem d26 : decode yB 26 = .ok (.getfield 15, 3) := by decide +kernel
theorem d29 : decode yB 29 = .ok (.aload_n 2, 1) := by decide +kernel
theorem d30 : decode yB 30 = .ok (.getfield 15, 3) := by decide +kernel
theorem d33 : decode yB 33 = .ok (.if_icmp (.ne) 21, 3) := by decide +kernel
theorem d36 : decode yB 36 = .ok (.aload_n 0, 1) := by decide +kernel
theorem d37 : decode yB 37 = .ok (.getfield 9, 3) := by decide +kernel
theorem d40 : decode yB 40 = .ok (.aload_n 2, 1) := by decide +kernel
theorem d41 : decode yB 41 = .ok (.getfield 9, 3) := by decide +kernel
theorem d44 : decode yB 44 = .ok (.invokestatic 541, 3) := by decide +kernel
theorem d47 : decode yB 47 = .ok (.ifCond (.eq) 7, 3) := by decide +kernel
theorem d50 : decode yB 50 = .ok (.iconst 1, 1) := by decide +kernel
theorem d51 : decode yB 51 = .ok (.goto 4, 3) := by decide +kernel
theorem d54 : decode yB 54 = .ok (.iconst 0, 1) := by decide +kernel
theorem d55 : decode yB 55 = .ok (.ireturn, 1) := by decide +kernel
def site : List Cond := [.classLink "java/lang/String" 10 "java/lang/String", .fieldLink "java/lang/String" 38 "java/lang/String" "COMPACT_STRINGS" "Z", .fieldLink "java/lang/String" 15 "java/lang/String" "coder" "B", .fieldLink "java/lang/String" 9 "java/lang/String" "value" "[B", LEq.tab] ++ staticW "java/lang/String" 541 LEq.yN
def tab : Cond := tabOf yN yB 3 (some .boolean) site
def P (x t : Addr) (V : Cell) (cd : Int32) (n : Nat) (f : Nat → Int32) (y t' : Addr) (V' : Cell) (cd' : Int32) (k : Nat) (g : Nat → Int32) (z : Int32) (args : Array Value) (s : State) : Prop := args = #[.ref x, .ref y] ∧ Txt x t V cd n f s ∧ Txt y t' V' cd' k g s ∧ StaticIs s "java/lang/String" "COMPACT_STRINGS" "Z" (.int z) ∧ ¬ z = 0
/-- equals(Object) of two Strings: whether the texts are the same -/
theorem law (l : Launch) (x t : Addr) (V : Cell) (cd : Int32) (n : Nat) (f : Nat → Int32) (y t' : Addr) (V' : Cell) (cd' : Int32) (k : Nat) (g : Nat → Int32) (z : Int32) : Law l yN 2 1 1 14 yB 3 (some .boolean) site (P x t V cd n f y t' V' cd' k g z) (Says01 (SameT n f k g)) [] 0 0 := by
  refine Law.of_walk (plainFor_of_name (by decide +kernel)) (by decide +kernel) (by decide +kernel) (by decide) (fun _ _ h => by rw [h.1]; rfl) (fun _ U U' hal hh h => ⟨h.1, h.2.1.mv hal hh, h.2.2.1.mv hal hh, h.2.2.2.1.there hal hh, h.2.2.2.2⟩) (fun r U U' V V' h1 hal h2 h => Says01.mv r U U' V V' h1 hal h2 h) ?_
  intro p e s m args below meth c s₁ X0 hexec hbytes hml hret hlk hnm hown hh0 W hP
  obtain ⟨rfl, hx, hy, s1, hz⟩ := hP
  have c1 : Steps p.tables e below (s₁.setTop (entryFrame m #[.ref x, .ref y] 3)) (s₁.setTop (mkF m 2 #[.val (.ref x), .val (.ref y), .unset] [.ref y, .ref x])) := Steps.trans (entry rfl) (by
    show Steps p.tables e below (s₁.setTop (mkF m 0 #[.val (.ref x), .val (.ref y), .unset] [])) _
    refine XS.aloadN X0.here hexec rfl (hb hbytes d0) rfl rfl ?_
    refine XS.aloadN X0.here hexec rfl (hb hbytes d1) rfl rfl ?_
    exact Steps.refl _)
  by_cases hxy : x = y
  · have c2 : Steps p.tables e below (s₁.setTop (entryFrame m #[.ref x, .ref y] 3)) (s₁.setTop (mkF m 6 #[.val (.ref x), .val (.ref y), .unset] [.int 1])) := c1.trans (by
      refine acmpNo X0.here hexec rfl (hb hbytes d2) rfl rfl rfl (by simp [acmp, hxy]) ?_
      refine iconstV X0.here hexec rfl 1 (hb hbytes d5) (by decide) ?_
      exact Steps.refl _)
    subst hxy
    have ec : cd = cd' := by
      obtain ⟨D, fd, a1, a2, a3⟩ := hx.2.2.1
      obtain ⟨D', fd', b1, b2, b3⟩ := hy.2.2.1
      cases a1.symm.trans b1
      obtain ⟨q1, q2, q3, q4⟩ := a2.1
      obtain ⟨r1, r2, r3, r4⟩ := b2.1
      cases q4.symm.trans r4
      cases a3.symm.trans b3; rfl
    have et : t = t' := by
      obtain ⟨D, fd, a1, a2, a3⟩ := hx.2.1
      obtain ⟨D', fd', b1, b2, b3⟩ := hy.2.1
      cases a1.symm.trans b1
      obtain ⟨q1, q2, q3, q4⟩ := a2.1
      obtain ⟨r1, r2, r3, r4⟩ := b2.1
      cases q4.symm.trans r4
      cases a3.symm.trans b3; rfl
    subst ec et
    have ev : V = V' := by cases hx.2.2.2.1.1.symm.trans hy.2.2.2.1.1; rfl
    subst ev
    have hs : SameT n f k g := (Cod.eqv hx.2.2.2.2.1 hy.2.2.2.2.1 hx.2.2.2.2.2 hy.2.2.2.2.2).mp ⟨rfl, fun _ _ => rfl⟩
    exact ⟨s₁, some (.int 1), _, _, _, X0, rfl, rfl, rfl, (fun h => by cases h), ⟨1, rfl, hh0, Or.inl ⟨rfl, hs⟩⟩, fun fs hl => c2.trans (X0.ireturnOut hexec hret rfl (Or.inr (Or.inl rfl)) (hb hbytes d6) hl)⟩
  · have c2 : Steps p.tables e below (s₁.setTop (entryFrame m #[.ref x, .ref y] 3)) (s₁.setTop (mkF m 8 #[.val (.ref x), .val (.ref y), .unset] [.ref y])) := c1.trans (by
      refine acmpYes X0.here hexec rfl (pc0 := 2) rfl (hb hbytes d2) rfl rfl rfl (by simp [acmp, hxy]) (by decide) rfl ?_
      refine XS.aloadN X0.here hexec rfl (hb hbytes d7) rfl rfl ?_
      exact Steps.refl _)
    obtain ⟨T3, X3, q3, st3⟩ := cinst X0 hexec hown (wk W (.classLink "java/lang/String" 10 "java/lang/String")) (hy.mv X0.warmed.alike hh0).1 (g := (mkF m 8 #[.val (.ref x), .val (.ref y), .unset] [.ref y])) rfl (rest := []) rfl (hb hbytes d8)
    have hh3 := q3.trans hh0
    have c4 : Steps p.tables e below (s₁.setTop (entryFrame m #[.ref x, .ref y] 3)) (T3.setTop (mkF m 15 #[.val (.ref x), .val (.ref y), .unset] [.ref y])) := (c2.trans (st3 _ (Steps.refl _))).trans (by
      refine XS.ifNo X3.here hexec rfl (hb hbytes d11) rfl (i0_eq_f (by decide)) ?_
      refine XS.aloadN X3.here hexec rfl (hb hbytes d14) rfl rfl ?_
      exact Steps.refl _)
    obtain ⟨T5, X5, q5, st5⟩ := cself X3 hexec hown (wk W (.classLink "java/lang/String" 10 "java/lang/String")) (hy.mv X3.warmed.alike hh3).1 (g := (mkF m 15 #[.val (.ref x), .val (.ref y), .unset] [.ref y])) rfl (rest := []) rfl (hb hbytes d15)
    have hh5 := q5.trans hh3
    have c6 : Steps p.tables e below (s₁.setTop (entryFrame m #[.ref x, .ref y] 3)) (T5.setTop (mkF m 19 #[.val (.ref x), .val (.ref y), .val (.ref y)] [])) := (c4.trans (st5 _ (Steps.refl _))).trans (by
      refine XS.astoreN X5.here hexec rfl (hb hbytes d18) rfl rfl rfl ?_
      exact Steps.refl _)
    obtain ⟨T7, X7, q7, st7⟩ := X5.sget hexec hown (wk W (.fieldLink "java/lang/String" 38 "java/lang/String" "COMPACT_STRINGS" "Z")) s1 (fun _ _ h => by rw [hh5]; exact h) (g := (mkF m 19 #[.val (.ref x), .val (.ref y), .val (.ref y)] [])) rfl (hb hbytes d19)
    have hh7 := q7.trans hh5
    have c8 : Steps p.tables e below (s₁.setTop (entryFrame m #[.ref x, .ref y] 3)) (T7.setTop (mkF m 26 #[.val (.ref x), .val (.ref y), .val (.ref y)] [.ref x])) := (c6.trans (st7 _ (Steps.refl _))).trans (by
      refine XS.ifNo X7.here hexec rfl (hb hbytes d22) rfl (i0_eq_f hz) ?_
      refine XS.aloadN X7.here hexec rfl (hb hbytes d25) rfl rfl ?_
      exact Steps.refl _)
    obtain ⟨T9, X9, q9, st9⟩ := X7.hget hexec hown (wk W (.fieldLink "java/lang/String" 15 "java/lang/String" "coder" "B")) (hx.mv X7.warmed.alike hh7).2.2.1 (g := (mkF m 26 #[.val (.ref x), .val (.ref y), .val (.ref y)] [.ref x])) rfl (rest := []) rfl (hb hbytes d26)
    have hh9 := q9.trans hh7
    have c10 : Steps p.tables e below (s₁.setTop (entryFrame m #[.ref x, .ref y] 3)) (T9.setTop (mkF m 30 #[.val (.ref x), .val (.ref y), .val (.ref y)] [.ref y, .int cd])) := (c8.trans (st9 _ (Steps.refl _))).trans (by
      refine XS.aloadN X9.here hexec rfl (hb hbytes d29) rfl rfl ?_
      exact Steps.refl _)
    obtain ⟨T11, X11, q11, st11⟩ := X9.hget hexec hown (wk W (.fieldLink "java/lang/String" 15 "java/lang/String" "coder" "B")) (hy.mv X9.warmed.alike hh9).2.2.1 (g := (mkF m 30 #[.val (.ref x), .val (.ref y), .val (.ref y)] [.ref y, .int cd])) rfl (rest := [.int cd]) rfl (hb hbytes d30)
    have hh11 := q11.trans hh9
    have c12 : Steps p.tables e below (s₁.setTop (entryFrame m #[.ref x, .ref y] 3)) (T11.setTop (mkF m 33 #[.val (.ref x), .val (.ref y), .val (.ref y)] [.int cd', .int cd])) := c10.trans (st11 _ (Steps.refl _))
    by_cases hcd : cd = cd'
    · subst hcd
      have c13 : Steps p.tables e below (s₁.setTop (entryFrame m #[.ref x, .ref y] 3)) (T11.setTop (mkF m 37 #[.val (.ref x), .val (.ref y), .val (.ref y)] [.ref x])) := c12.trans (by
        refine XS.icmpNo X11.here hexec rfl (hb hbytes d33) rfl (ii_ne_f rfl) ?_
        refine XS.aloadN X11.here hexec rfl (hb hbytes d36) rfl rfl ?_
        exact Steps.refl _)
      obtain ⟨T14, X14, q14, st14⟩ := X11.hget hexec hown (wk W (.fieldLink "java/lang/String" 9 "java/lang/String" "value" "[B")) (hx.mv X11.warmed.alike hh11).2.1 (g := (mkF m 37 #[.val (.ref x), .val (.ref y), .val (.ref y)] [.ref x])) rfl (rest := []) rfl (hb hbytes d37)
      have hh14 := q14.trans hh11
      have c15 : Steps p.tables e below (s₁.setTop (entryFrame m #[.ref x, .ref y] 3)) (T14.setTop (mkF m 41 #[.val (.ref x), .val (.ref y), .val (.ref y)] [.ref y, .ref t])) := (c13.trans (st14 _ (Steps.refl _))).trans (by
        refine XS.aloadN X14.here hexec rfl (hb hbytes d40) rfl rfl ?_
        exact Steps.refl _)
      obtain ⟨T16, X16, q16, st16⟩ := X14.hget hexec hown (wk W (.fieldLink "java/lang/String" 9 "java/lang/String" "value" "[B")) (hy.mv X14.warmed.alike hh14).2.1 (g := (mkF m 41 #[.val (.ref x), .val (.ref y), .val (.ref y)] [.ref y, .ref t])) rfl (rest := [.ref t]) rfl (hb hbytes d41)
      have hh16 := q16.trans hh14
      have c17 : Steps p.tables e below (s₁.setTop (entryFrame m #[.ref x, .ref y] 3)) (T16.setTop (mkF m 44 #[.val (.ref x), .val (.ref y), .val (.ref y)] [.ref t', .ref t])) := c15.trans (st16 _ (Steps.refl _))
      obtain ⟨v18, T18, X18, E18, g18⟩ := X16.callS hexec (LEq.law l t V t' V') hown (wks W (staticW "java/lang/String" 541 LEq.yN)) (wk W LEq.tab) (W := 0) (Nat.le_of_ble_eq_true rfl) (Nat.le_of_ble_eq_true rfl) (Nat.le_refl _) (Nat.le_refl _) (g := (mkF m 44 #[.val (.ref x), .val (.ref y), .val (.ref y)] [.ref t', .ref t])) rfl (by rw [hml]; rfl) c17 (argsL := [.ref t, .ref t']) (rest := []) rfl rfl (by show 2 * 0 + 0 ≤ _; decide) (hb hbytes d44) (⟨rfl, hx.2.2.2.1.mv X16.warmed.alike hh16, hx.2.2.2.2.1.ty, hy.2.2.2.1.mv X16.warmed.alike hh16, hy.2.2.2.2.1.ty⟩)
      obtain ⟨v, rfl, q18, hv⟩ := E18
      have iff := Cod.eqv hx.2.2.2.2.1 hy.2.2.2.2.1 hx.2.2.2.2.2 hy.2.2.2.2.2
      rcases hv with ⟨rfl, he⟩ | ⟨rfl, he⟩
      · have c19 : Steps p.tables e below (s₁.setTop (entryFrame m #[.ref x, .ref y] 3)) (T18.setTop (mkF m 55 #[.val (.ref x), .val (.ref y), .val (.ref y)] [.int 1])) := Steps.trans g18 (by
          refine XS.ifNo X18.here hexec rfl (hb hbytes d47) rfl (i0_eq_f (by decide)) ?_
          refine iconstV X18.here hexec rfl 1 (hb hbytes d50) (by decide) ?_
          refine XS.goto X18.here hexec rfl (pc0 := 51) rfl (hb hbytes d51) (by decide) rfl ?_
          exact Steps.refl _)
        exact ⟨T18, some (.int 1), _, _, _, X18, rfl, rfl, rfl, (fun h => by cases h), ⟨1, rfl, q18.trans hh16, Or.inl ⟨rfl, iff.mp he⟩⟩, fun fs hl => c19.trans (X18.ireturnOut hexec hret rfl (Or.inr (Or.inl rfl)) (hb hbytes d55) hl)⟩
      · have c19 : Steps p.tables e below (s₁.setTop (entryFrame m #[.ref x, .ref y] 3)) (T18.setTop (mkF m 55 #[.val (.ref x), .val (.ref y), .val (.ref y)] [.int 0])) := Steps.trans g18 (by
          refine XS.ifYes X18.here hexec rfl (pc0 := 47) rfl (hb hbytes d47) rfl (i0_eq_t rfl) (by decide) rfl ?_
          refine iconstV X18.here hexec rfl 0 (hb hbytes d54) (by decide) ?_
          exact Steps.refl _)
        exact ⟨T18, some (.int 0), _, _, _, X18, rfl, rfl, rfl, (fun h => by cases h), ⟨0, rfl, q18.trans hh16, Or.inr ⟨rfl, fun q => he (iff.mpr q)⟩⟩, fun fs hl => c19.trans (X18.ireturnOut hexec hret rfl (Or.inr (Or.inl rfl)) (hb hbytes d55) hl)⟩
    · have c13 : Steps p.tables e below (s₁.setTop (entryFrame m #[.ref x, .ref y] 3)) (T11.setTop (mkF m 55 #[.val (.ref x), .val (.ref y), .val (.ref y)] [.int 0])) := c12.trans (by
        refine XS.icmpYes X11.here hexec rfl (pc0 := 33) rfl (hb hbytes d33) rfl (ii_ne_t hcd) (by decide) rfl ?_
        refine iconstV X11.here hexec rfl 0 (hb hbytes d54) (by decide) ?_
        exact Steps.refl _)
      exact ⟨T11, some (.int 0), _, _, _, X11, rfl, rfl, rfl, (fun h => by cases h), ⟨0, rfl, hh11, Or.inr ⟨rfl, Cod.dif hx.2.2.2.2.1 hy.2.2.2.2.1 hcd⟩⟩, fun fs hl => c13.trans (X11.ireturnOut hexec hret rfl (Or.inr (Or.inl rfl)) (hb hbytes d55) hl)⟩
theorem pays {l : Launch} {R : Room} {p : Program} {e : Env} {below : List Frame} {s : State} {sargs : Array Value} {len W : Nat} (x t : Addr) (V : Cell) (cd : Int32) (n : Nat) (f : Nat → Int32) (y t' : Addr) (V' : Cell) (cd' : Int32) (k : Nat) (g : Nat → Int32) (z : Int32) (htab : tab.before sargs s = true) (hfr : 2 ≤ R.frames) (hlo : W + 28 ≤ R.locals) :
    Back l R p e below s sargs yN len W (fun A₁ a₁ => A₁.cells + 0 ≤ R.cells ∧ A₁.slots + 0 ≤ R.slots ∧ P x t V cd n f y t' V' cd' k g z a₁ A₁.U) (fun A₁ _ v₁ B₁ => Says01 (SameT n f k g) v₁ A₁.U B₁.U ∧ B₁.locs = A₁.locs ++ [] ∧ B₁.cells = A₁.cells + 0 ∧ B₁.slots = A₁.slots + 0) :=
  (law l x t V cd n f y t' V' cd' k g z).pays htab hfr (by omega)
end SEq
end StrChars
namespace StrChars.Road
open Jvm Sem ClassFile Op Lib Jvm.Stand Jvm.Free Jvm.Free.XT
open Jvm.Lib.Cold (StaticIs)
/-- the words of String.equals(Object) -/
abbrev wordsEq : List Jvm.Cond := [.code SEq.yN SEq.yB 3 (some .boolean), .initialized ST, .classLink ST 10 ST, .fieldLink ST 38 ST "COMPACT_STRINGS" "Z", .fieldLink ST 15 ST "coder" "B", .fieldLink ST 9 ST "value" "[B", .methodLink ST 541 LEq.yN, .static LEq.yN, .code LEq.yN LEq.yB 3 (some .boolean), .initialized "java/lang/StringLatin1"]
theorem tabEq_of {a : Array Value} {s : State} (h : ∀ w ∈ wordsEq, w.before a s = true) : SEq.tab.before a s = true := by
  have hl : LEq.tab.before a s = true := unparts (wk h (.code LEq.yN LEq.yB 3 (some .boolean))) (wks h (.initialized LEq.yN.cls :: LEq.site))
  have q := consq hl h
  exact unparts (wk q (.code SEq.yN SEq.yB 3 (some .boolean))) (wks q (.initialized SEq.yN.cls :: SEq.site))
theorem movedEq {Z s : State} {a0 args : Array Value} (hZ : Z.Warmed39 s.vm) (hw : ∀ d ∈ wordsEq, d.before a0 Z = true) : ∀ d ∈ wordsEq, d.before args s = true := fun d hd => by
  have t : ∀ d ∈ wordsEq, (d.onTables && d.keepsFace) = true := by decide +kernel
  exact RoadKit.mv hZ (hw d hd) (t d hd)
/-- the road's facts of a String, as the laws ask it -/
theorem txt_of {Z U : State} {a0 : Array Value} {kI : Nat} (wi : (Jvm.Cond.instantiable ST kI).before a0 Z = true) (al : Z.vm.Alike U.vm) {x t : Addr} {kb : ClassId} {cs : List Int32} {cd N2 : Int32} {vs : List Value} (E : RoadKit.Exa Z U.heap x ST) (V : RoadKit.Fld Z U.heap x ST "value" "[B" (.ref t)) (C : RoadKit.Fld Z U.heap x ST "coder" "B" (.int cd)) (K : RoadKit.Arv Z U.heap t kb .byte N2 vs (.int 0)) (hc : CodA cs cd N2 vs) (hb : ∀ c ∈ cs, ¬ c < 0 ∧ ¬ (65535 : Int32) < c) (l2 : cs.length ≤ 4000) :
    ∃ A, Txt x t A cd cs.length (fun j => cs.getD j 0) U := by
  obtain ⟨A, K1, K2, K3, K4, K5, K6⟩ := K
  have hcod := hc.cod (by omega) K3 K5
  obtain ⟨D, fV, fC, hB, F1, F2, g1, g2, -, -⟩ := strObj wi al E V C
  exact ⟨A, ⟨_, hB.2.2.1, D, hB.1, rfl, by cases q : D.vm <;> first | rfl | exact absurd q (hB.2.1.2 _)⟩, Has.of hB F1 g1, Has.of hB F2 g2, ⟨K1.1, State.isArrayOf_alike al K1.2.1, K1.2.2, by rcases hcod with ⟨-, q, -⟩ | ⟨-, q, -⟩ <;> omega⟩, hcod, fun j hj => by
    have e : cs.getD j 0 = cs[j] := by simp [List.getD_eq_getElem?_getD, hj]
    show ¬ cs.getD j 0 < 0 ∧ ¬ 65535 < cs.getD j 0
    rw [e]; exact hb _ (List.getElem_mem _)⟩
theorem same_list (cs ds : List Int32) : SameT cs.length (fun j => cs.getD j 0) ds.length (fun j => ds.getD j 0) ↔ cs = ds := by
  constructor
  · rintro ⟨e, q⟩
    refine List.ext_getElem e fun j h1 h2 => ?_
    have := q j h1
    simpa [List.getD_eq_getElem?_getD, h1, h2] using this
  · rintro rfl
    exact ⟨rfl, fun _ _ => rfl⟩
/-- **equals(Object) OF TWO SUCH STRINGS**: 1 just where the chars are the same -/
theorem eqW {p : Program} {l : Launch} {e : Env} {R : Room} {s : State} {args : Array Value} {below : List Frame} {len W : Nat} {Z : State} {a0 : Array Value} {h : Heap} (hZ : Z.Warmed39 s.vm) (hw : ∀ d ∈ wordsEq, d.before a0 Z = true) {kI : Nat} (wi : (Jvm.Cond.instantiable ST kI).before a0 Z = true)
    {x t : Addr} {kb : ClassId} {cs : List Int32} {cd N2 : Int32} {vs : List Value} (E : RoadKit.Exa Z h x ST) (V : RoadKit.Fld Z h x ST "value" "[B" (.ref t)) (C : RoadKit.Fld Z h x ST "coder" "B" (.int cd)) (K : RoadKit.Arv Z h t kb .byte N2 vs (.int 0)) (hc : CodA cs cd N2 vs) (hb : ∀ c ∈ cs, ¬ c < 0 ∧ ¬ (65535 : Int32) < c) (l2 : cs.length ≤ 4000)
    {y t' : Addr} {kb' : ClassId} {ds : List Int32} {cd' N2' : Int32} {vs' : List Value} (E' : RoadKit.Exa Z h y ST) (V' : RoadKit.Fld Z h y ST "value" "[B" (.ref t')) (C' : RoadKit.Fld Z h y ST "coder" "B" (.int cd')) (K' : RoadKit.Arv Z h t' kb' .byte N2' vs' (.int 0)) (hc' : CodA ds cd' N2' vs') (hb' : ∀ c ∈ ds, ¬ c < 0 ∧ ¬ (65535 : Int32) < c) (l2' : ds.length ≤ 4000)
    {z : Int32} (S : RoadKit.Sta Z h ST "COMPACT_STRINGS" "Z" (.int z)) (hz : ¬ z = 0) (hfr : 2 ≤ R.frames) (hlo : W + 28 ≤ R.locals) :
    Back l R p e below s args (⟨"java/lang/String", "equals", "(Ljava/lang/Object;)Z"⟩ : MethodName) len W (fun P a => a = #[.ref x, .ref y] ∧ P.U.heap = h ∧ P.cells + 0 ≤ R.cells ∧ P.slots + 0 ≤ R.slots)
      (fun P _ v B => ∃ L, (((v = some (.int 1) ∧ cs = ds) ∨ (v = some (.int 0) ∧ ¬ cs = ds)) ∧ L = [] ∧ B.U.heap = h) ∧ B.locs = P.locs ++ L ∧ B.cells = P.cells + 0 ∧ B.slots = P.slots + 0) := by
  intro m meth c P g ig mk a X hg hsize hdg hW hn hp'
  obtain ⟨rfl, rfl, r1, r2⟩ := hp'
  have al : Z.vm.Alike P.U.vm := hZ.alike.trans X.warmed.alike
  obtain ⟨A, hx⟩ := txt_of wi al E V C K hc hb l2
  obtain ⟨A', hy⟩ := txt_of wi al E' V' C' K' hc' hb' l2'
  obtain ⟨v, B, X', ⟨⟨w, hv, hh, hq⟩, hl, hk, hs⟩, st⟩ := SEq.pays x t A cd cs.length (fun j => cs.getD j 0) y t' A' cd' ds.length (fun j => ds.getD j 0) z (tabEq_of (movedEq hZ hw)) hfr hlo m meth c P g ig mk _ X hg hsize hdg hW hn ⟨r1, r2, rfl, hx, hy, sta_is al S, hz⟩
  refine ⟨v, B, X', ⟨[], ⟨?_, rfl, hh⟩, hl, hk, hs⟩, st⟩
  rcases hq with ⟨rfl, q⟩ | ⟨rfl, q⟩
  · exact Or.inl ⟨hv, (same_list cs ds).mp q⟩
  · exact Or.inr ⟨hv, fun e => q ((same_list cs ds).mpr e)⟩
end StrChars.Road
end Jvm.Pilot.@@N@@
namespace Jvm.Pilot.@@N@@
open Jvm Jvm.ClassFile Sem Op Lib Jvm.Free Jvm.Stand Jvm.LawKit Jvm.RoadKit Bundle Jvm.Pilot.@@N@@.Jvm.D
def Goes (p : Program) (e : Env) (below : List Frame) (Post : Outcome → State → Prop) (T : State) (g : JFrame) : Prop := ∃ (t : State) (o : Outcome), Steps p.tables e below (T.setTop g) t ∧ t.status = .running ∧ Ended t below o ∧ Post o t
theorem Goes.step {p : Program} {e : Env} {below : List Frame} {Post : Outcome → State → Prop} {T T' : State} {g g' : JFrame} (k : ∀ t, Steps p.tables e below (T'.setTop g') t → Steps p.tables e below (T.setTop g) t) (h : Goes p e below Post T' g') : Goes p e below Post T g := by
  obtain ⟨t, o, h1, h2⟩ := h; exact ⟨t, o, k _ h1, h2⟩
theorem Goes.run {p : Program} {e : Env} {below : List Frame} {Post : Outcome → State → Prop} {T T' : State} {g g' : JFrame} (k : Steps p.tables e below (T.setTop g) (T'.setTop g')) (h : Goes p e below Post T' g') : Goes p e below Post T g := by
  obtain ⟨t, o, h1, h2⟩ := h; exact ⟨t, o, k.trans h1, h2⟩
theorem own_cat {v : Value} (h : v.isRef = true) : v.category = 1 := by rcases ref_cases h with rfl | ⟨_, rfl⟩ <;> rfl
theorem own_nref {v : Value} {C : String} (h : v.isRef = true) : narrow (.object C) v = v := by rcases ref_cases h with rfl | ⟨_, rfl⟩ <;> rfl
theorem own_nref' {v : Value} {t : FieldType} (h : v.isRef = true) : narrow t v = v := by rcases ref_cases h with rfl | ⟨_, rfl⟩ <;> cases t <;> rfl
theorem own_fref {v : Value} {C : String} (h : v.isRef = true) : fits (.object C) v = true := by rcases ref_cases h with rfl | ⟨_, rfl⟩ <;> rfl
theorem own_n0 {Z : State} {n0 : Nat} {h : Heap} (O : Old Z n0 h) : n0 ≤ h.size := O.1 ▸ O.2.1
theorem own_since0 (s : State) (n : Nat) : s.Since s.vm n := (State.WarmedH.refl s).since n
theorem own_mono {s t : State} {o : Outcome} {L : List Loc} {k n k' n' : Nat} (h : ReturnedEndW s o t L k n) (hk : k ≤ k') (hn : n ≤ n') : ReturnedEndW s o t L k' n' := ⟨h.1, h.2.1, h.2.2.1, h.2.2.2.mono hk hn⟩
/-- a value that is null or a String -/
def SN (Z : State) (h : Heap) (r : Value) : Prop := r.isRef = true ∧ (r = .null ∨ ∃ a, r = .ref a ∧ Exa Z h a "java/lang/String")
theorem SN.ext {Z : State} {h h' : Heap} {r : Value} (F : SN Z h r) (E : Ext h h') : SN Z h' r := ⟨F.1, F.2.imp id fun ⟨a, q, G⟩ => ⟨a, q, G.ext E⟩⟩
theorem SN.wr {Z : State} {h h' : Heap} {r : Value} {a : Addr} {sl : Nat} {v : Value} (F : SN Z h r) (W : Wr h h' a sl v) : SN Z h' r := ⟨F.1, F.2.imp id fun ⟨a, q, G⟩ => ⟨a, q, G.wr W⟩⟩
theorem SN.keep {Z : State} {h h' : Heap} {r : Value} {ws : List Addr} (F : SN Z h r) (K : Keep h h' ws) : SN Z h' r := ⟨F.1, F.2.imp id fun ⟨a, q, G⟩ => ⟨a, q, G.keep K⟩⟩
theorem own_and255 (x : Int32) : ¬ (x &&& 255) < 0 ∧ ¬ (255 : Int32) < (x &&& 255) := by
  have e : (x &&& 255).toBitVec = x.toBitVec &&& 255#32 := rfl
  have e1 : (x &&& 255).toInt = (x.toBitVec &&& 255#32).toInt := by rw [← e]; rfl
  have e2 : (x.toBitVec &&& 255#32).toNat < 256 := by
    rw [BitVec.toNat_and]; exact Nat.lt_of_le_of_lt Nat.and_le_right (by decide)
  have e3 : (x.toBitVec &&& 255#32).toInt = (x.toBitVec &&& 255#32).toNat := by
    rw [BitVec.toInt_eq_toNat_of_lt]; omega
  rw [Int32.lt_iff_toInt_lt, Int32.lt_iff_toInt_lt, e1, e3]
  have : (0 : Int32).toInt = 0 := rfl
  have : (255 : Int32).toInt = 255 := rfl
  omega
theorem own_nar8 (x : Int32) : nar .char (x &&& 255) = x &&& 255 := i2c_mask x
theorem own_c8 (x : Int32) : ¬ nar .char ((x &&& 255).toUInt32.toUInt16.toUInt32.toInt32) < 0 ∧ ¬ (255 : Int32) < nar .char ((x &&& 255).toUInt32.toUInt16.toUInt32.toInt32) := by
  rw [i2c_mask, own_nar8]; exact own_and255 x
abbrev EL : List (String × Nat) := consts_1
theorem own_safeNull {Z : State} {vm : Vm} {h : Heap} {x : Addr} (hal : Z.vm.Alike vm) (E : Exa Z h x "java/lang/String") (F : Fld Z h x "java/lang/String" "value" "[B" .null) : Safe Z EL vm h x := fun B => by
  obtain ⟨cell, k, e1, e2, e3, -, -⟩ := E
  obtain ⟨cell2, cf, kf, i, f, f1, f2, -, -, -, -, f7⟩ := F
  cases e1.symm.trans f1
  obtain ⟨p, -, u, a, -, q, -, F, rfl | rfl⟩ := B
  · cases (show h[q.sa]? = some q.sC from F.ha).symm.trans e1
    obtain ⟨cS, ⟨⟨s1, s2, s3, ⟨cv, kv, iv, s4, s4'⟩, ⟨cc, kc, ic, s5, s5'⟩, s6, s7, s8, s9, r⟩, hfS, hcS⟩, -⟩ := F
    obtain ⟨kv', z4⟩ := ff_back (U := Wst Z vm h) hal s4
    cases f2.symm.trans z4
    cases f7.symm.trans s8
  · cases (show h[q.sd]? = some q.SA from F.hd).symm.trans e1
    obtain ⟨cS, -, -, g, -⟩ := F
    have g' : Z.vm.findClass "[B" = some q.SA.cls := by rw [← hal.findClass]; exact g
    obtain ⟨k1, q1, q2⟩ := Vm.findClass_spec g'
    obtain ⟨k2, q3, q4⟩ := Vm.findClass_spec e2
    cases q1.symm.trans q3
    exact absurd (q2.symm.trans q4) (by decide)
theorem own_wS {Z : State} {a0 : Array Value} (hw : ∀ d ∈ tables_1, d.before a0 Z = true) : ∀ a ∈ Bundle.stringAtoms, a.before a0 Z = true := fun a ha => by
  simp only [Bundle.stringAtoms, List.mem_cons, List.not_mem_nil, or_false] at ha
  rcases ha with rfl | rfl | rfl | rfl | rfl | rfl | rfl
  · exact (hw _ (List.mem_of_getElem? (i := 13) rfl))
  · exact (hw _ (List.mem_of_getElem? (i := 12) rfl))
  · exact (hw _ (List.mem_of_getElem? (i := 26) rfl))
  · exact (hw _ (List.mem_of_getElem? (i := 27) rfl))
  · exact (hw _ (List.mem_of_getElem? (i := 28) rfl))
  · exact (hw _ (List.mem_of_getElem? (i := 29) rfl))
  · exact (hw _ (List.mem_of_getElem? (i := 30) rfl))
theorem own_EW {Z : State} {a0 : Array Value} (hw : ∀ d ∈ tables_1, d.before a0 Z = true) : EW Z a0 EL := EW.cons (hw _ (List.mem_of_getElem? (i := 45) rfl)) (by decide) (EW.cons (hw _ (List.mem_of_getElem? (i := 25) rfl)) (by decide) (EW.nil))
theorem own_wBV {Z : State} {a0 : Array Value} (hw : ∀ d ∈ tables_1, d.before a0 Z = true) : ∀ d ∈ StrChars.Road.words, d.before a0 Z = true := fun d hd => hw d ((by decide +kernel : ∀ d ∈ StrChars.Road.words, d ∈ tables_1) d hd)
theorem own_kext {h h' : Heap} (K : Keep h h' []) : Ext h h' := ⟨K.1, fun a c q => K.2.1 a c q nin0⟩
/-- a compact String of these chars -/
def SX (Z : State) (h : Heap) (a : Addr) (cs : List Int32) : Prop := Exa Z h a "java/lang/String" ∧ Fld Z h a "java/lang/String" "coder" "B" (.int 0) ∧ (∀ c ∈ cs, ¬ c < 0 ∧ ¬ (255 : Int32) < c) ∧ ∃ (t : Addr) (kb : ClassId), Fld Z h a "java/lang/String" "value" "[B" (.ref t) ∧ Arv Z h t kb .byte (Int32.ofNat cs.length) (cs.map fun c => .int (c.toInt8.toInt32)) (.int 0)
theorem SX.ext {Z : State} {h h' : Heap} {a : Addr} {cs : List Int32} (F : SX Z h a cs) (E : Ext h h') : SX Z h' a cs := by
  obtain ⟨f1, f2, f3, t, kb, f4, f5⟩ := F; exact ⟨f1.ext E, f2.ext E, f3, t, kb, f4.ext E, f5.ext E⟩
theorem SX.keepE {Z : State} {a0 : Array Value} {h h' : Heap} {a o : Addr} {cs : List Int32} {C : String} {n : Nat} (F : SX Z h a cs) (K : Keep h h' [o]) (E : Exa Z h o C) (hC : C ≠ "java/lang/String") (wi : (Cond.instantiable C n).before a0 Z = true) : SX Z h' a cs := by
  obtain ⟨f1, f2, f3, t, kb, f4, f5⟩ := F
  have n1 : a ≠ o := (ne_exa E f1 hC).symm
  have n2 : t ≠ o := (Exa.neArv E f5 wi).symm
  exact ⟨f1.keep K, f2.keep K (ninS n1 nin0), f3, t, kb, f4.keep K (ninS n1 nin0), f5.keep K (ninS n2 nin0)⟩
theorem SX.wrE {Z : State} {a0 : Array Value} {h h' : Heap} {a o : Addr} {sl : Nat} {v : Value} {cs : List Int32} {C : String} {n : Nat} (F : SX Z h a cs) (W : Wr h h' o sl v) (E : Exa Z h o C) (hC : C ≠ "java/lang/String") (wi : (Cond.instantiable C n).before a0 Z = true) : SX Z h' a cs := F.keepE (Keep.of_wr W) E hC wi
theorem own_wEq {Z : State} {a0 : Array Value} (hw : ∀ d ∈ tables_1, d.before a0 Z = true) : ∀ d ∈ StrChars.Road.wordsEq, d.before a0 Z = true := fun d hd => hw d ((by decide +kernel : ∀ d ∈ StrChars.Road.wordsEq, d ∈ tables_1) d hd)
theorem own_cod {cs : List Int32} (h : ∀ c ∈ cs, ¬ c < 0 ∧ ¬ (255 : Int32) < c) : StrChars.Road.CodA cs 0 (Int32.ofNat cs.length) (cs.map fun c => .int (c.toInt8.toInt32)) := Or.inl ⟨rfl, rfl, rfl, fun c hc => (h c hc).2⟩
theorem own_up {cs : List Int32} (h : ∀ c ∈ cs, ¬ c < 0 ∧ ¬ (255 : Int32) < c) : ∀ c ∈ cs, ¬ c < 0 ∧ ¬ (65535 : Int32) < c := fun c hc => ⟨(h c hc).1, fun q => (h c hc).2 (Int32.lt_trans (by decide) q)⟩
theorem own_eqW {p : Program} {l : Launch} {e : Env} {R : Room} {s : State} {args : Array Value} {below : List Frame} {len W : Nat} {Z : State} {a0 : Array Value} {h : Heap} (hZ : Z.Warmed39 s.vm) (hw : ∀ d ∈ tables_1, d.before a0 Z = true) (wi : (Jvm.Cond.instantiable "java/lang/String" 4).before a0 Z = true)
    {x y : Addr} {cs ds : List Int32} (F : SX Z h x cs) (G : SX Z h y ds) (l1 : cs.length ≤ 4000) (l2 : ds.length ≤ 4000) {z : Int32} (S : Sta Z h "java/lang/String" "COMPACT_STRINGS" "Z" (.int z)) (hz : ¬ z = 0) (hfr : 2 ≤ R.frames) (hlo : W + 28 ≤ R.locals) :
    Back l R p e below s args (⟨"java/lang/String", "equals", "(Ljava/lang/Object;)Z"⟩ : MethodName) len W (fun P a => a = #[.ref x, .ref y] ∧ P.U.heap = h ∧ P.cells + 0 ≤ R.cells ∧ P.slots + 0 ≤ R.slots)
      (fun P _ v B => ∃ L, (v = some (.int (if cs = ds then 1 else 0)) ∧ L = [] ∧ B.U.heap = h) ∧ B.locs = P.locs ++ L ∧ B.cells = P.cells + 0 ∧ B.slots = P.slots + 0) := by
  obtain ⟨f1, f2, f3, t, kb, f4, f5⟩ := F
  obtain ⟨g1, g2, g3, t', kb', g4, g5⟩ := G
  refine Back.mono (StrChars.Road.eqW hZ (own_wEq hw) (kI := 4) wi f1 f4 f2 f5 (own_cod f3) (own_up f3) l1 g1 g4 g2 g5 (own_cod g3) (own_up g3) l2 S hz hfr hlo) (fun P a hp => hp) (fun P a v B hp hq => ?_)
  obtain ⟨L, ⟨q, r⟩, hl⟩ := hq
  refine ⟨L, ⟨?_, r⟩, hl⟩
  rcases q with ⟨rfl, q⟩ | ⟨rfl, q⟩
  · rw [if_pos q]
  · rw [if_neg q]
def LN (x : Int32) : Int32 := if (2 : Int32) < ((x.toUInt32 >>> ((16 : Int32) &&& 31).toUInt32).toInt32 &&& (3 : Int32)) then 2 else ((x.toUInt32 >>> ((16 : Int32) &&& 31).toUInt32).toInt32 &&& (3 : Int32))
def CA0 (x : Int32) : Int32 := nar .char ((x &&& (255 : Int32)).toUInt32.toUInt16.toUInt32.toInt32)
def CA1 (x : Int32) : Int32 := nar .char ((((x.toUInt32 >>> ((8 : Int32) &&& 31).toUInt32).toInt32) &&& (255 : Int32)).toUInt32.toUInt16.toUInt32.toInt32)
def TX (x : Int32) : List Int32 := if LN x = 0 then [] else if LN x = 1 then [CA0 x] else [CA0 x, CA1 x]
theorem own_and3 (x : Int32) : x &&& 3 = 0 ∨ x &&& 3 = 1 ∨ x &&& 3 = 2 ∨ x &&& 3 = 3 := by
  have e2 : (x.toBitVec &&& 3#32).toNat < 4 := by
    rw [BitVec.toNat_and]; exact Nat.lt_of_le_of_lt Nat.and_le_right (by decide)
  have e1 : (x &&& 3).toInt = (x.toBitVec &&& 3#32).toNat := by
    show (x.toBitVec &&& 3#32).toInt = _
    rw [BitVec.toInt_eq_toNat_of_lt]; omega
  have : ∀ n : Int, (n = 0 ∨ n = 1 ∨ n = 2 ∨ n = 3) → (x &&& 3).toInt = n → x &&& 3 = 0 ∨ x &&& 3 = 1 ∨ x &&& 3 = 2 ∨ x &&& 3 = 3 := by
    rintro n (rfl | rfl | rfl | rfl) h
    · exact Or.inl (Int32.toInt_inj.mp h)
    · exact Or.inr (Or.inl (Int32.toInt_inj.mp h))
    · exact Or.inr (Or.inr (Or.inl (Int32.toInt_inj.mp h)))
    · exact Or.inr (Or.inr (Or.inr (Int32.toInt_inj.mp h)))
  exact this _ (by omega) e1
theorem own_if0 {A : Prop} [Decidable A] (h : (if A then (1 : Int32) else 0) = 0) : ¬ A := fun q => by rw [if_pos q] at h; exact absurd h (by decide)
theorem own_if1 {A : Prop} [Decidable A] (h : ¬ (if A then (1 : Int32) else 0) = 0) : A := Decidable.byContradiction fun q => h (if_neg q)
theorem own_LN (x : Int32) : LN x = 0 ∨ LN x = 1 ∨ LN x = 2 := by
  unfold LN
  rcases own_and3 ((x.toUInt32 >>> ((16 : Int32) &&& 31).toUInt32).toInt32) with h | h | h | h <;> rw [h] <;> decide
theorem own_C0 (x : Int32) : ¬ CA0 x < 0 ∧ ¬ (255 : Int32) < CA0 x := own_c8 x
theorem own_C1 (x : Int32) : ¬ CA1 x < 0 ∧ ¬ (255 : Int32) < CA1 x := own_c8 _
theorem own_narC (y : Int32) : nar .char (nar .char y) = nar .char y := by
  have h : ∀ u : UInt16, (u.toUInt32.toInt32).toUInt32.toUInt16 = u := fun u => by
    rw [show u.toUInt32.toInt32.toUInt32 = u.toUInt32 from rfl]; exact UInt16.toUInt16_toUInt32 u
  show ((y.toUInt32.toUInt16).toUInt32.toInt32).toUInt32.toUInt16.toUInt32.toInt32 = _
  rw [h]; rfl
theorem own_TXlen (x : Int32) : (TX x).length ≤ 4000 := by unfold TX; split <;> (try split) <;> simp
theorem own_TXeq (x y : Int32) : TX x = TX y ↔ LN x = LN y ∧ (LN x < 1 ∨ CA0 x = CA0 y) ∧ (LN x < 2 ∨ CA1 x = CA1 y) := by
  unfold TX
  rcases own_LN x with h | h | h <;> rcases own_LN y with g | g | g <;> rw [h, g] <;> simp <;> decide
theorem d_jdk_42_method_149_0 : decode jdk_42_method_149_code 0 = .ok (.aload_n 0, 1) := by decide +kernel
theorem d_jdk_42_method_149_1 : decode jdk_42_method_149_code 1 = .ok (.invokespecial 1, 3) := by decide +kernel
theorem d_jdk_42_method_149_4 : decode jdk_42_method_149_code 4 = .ok (.iload_n 3, 1) := by decide +kernel
theorem d_jdk_42_method_149_5 : decode jdk_42_method_149_code 5 = .ok (.ifCond .ne 22, 3) := by decide +kernel
theorem d_jdk_42_method_149_8 : decode jdk_42_method_149_code 8 = .ok (.aload_n 0, 1) := by decide +kernel
theorem d_jdk_42_method_149_9 : decode jdk_42_method_149_code 9 = .ok (.ldc 7, 2) := by decide +kernel
theorem d_jdk_42_method_149_11 : decode jdk_42_method_149_code 11 = .ok (.getfield 9, 3) := by decide +kernel
theorem d_jdk_42_method_149_14 : decode jdk_42_method_149_code 14 = .ok (.putfield 9, 3) := by decide +kernel
theorem d_jdk_42_method_149_17 : decode jdk_42_method_149_code 17 = .ok (.aload_n 0, 1) := by decide +kernel
theorem d_jdk_42_method_149_18 : decode jdk_42_method_149_code 18 = .ok (.ldc 7, 2) := by decide +kernel
theorem d_jdk_42_method_149_20 : decode jdk_42_method_149_code 20 = .ok (.getfield 15, 3) := by decide +kernel
theorem d_jdk_42_method_149_23 : decode jdk_42_method_149_code 23 = .ok (.putfield 15, 3) := by decide +kernel
theorem d_jdk_42_method_149_26 : decode jdk_42_method_149_code 26 = .ok (.return_, 1) := by decide +kernel
theorem pn_0 : plainName "java/lang/String" = true := by first | (simp [plainName, overriddenIn]; done) | decide +kernel
theorem ef_init4e (m : MethodId) (a1 : Addr) (a2 : Addr) : entryFrame m #[(.ref a1), (.ref a2), (.int (0 : Int32)), (.int (0 : Int32)), .null] 6 = mkF m 0 #[.val (.ref a1), .val (.ref a2), .val (.int (0 : Int32)), .val (.int (0 : Int32)), .val .null, .unset] [] := by first | (simp [entryFrame, mkF, argsToLocals, Value.category, maxLocals]; done) | rfl
def Q_init4e (Z : State) (a1 : Addr) (a2 : Addr) (h0 : Heap) (n0 : Nat) (v : Option Value) (h : Heap) (L : List Loc) : Prop := ∃ t : Addr, ∃ kt : ClassId, (v = none) ∧ (Fr n0 L) ∧ (Keep h0 h [a1]) ∧ (Exa Z h a1 "java/lang/String") ∧ (Fld Z h a1 "java/lang/String" "coder" "B" (.int (0 : Int32))) ∧ (Fld Z h a1 "java/lang/String" "value" "[B" (.ref t)) ∧ (Arv Z h t kt .byte (0 : Int32) [] (.int 0))
set_option maxRecDepth 65536 in
set_option maxHeartbeats 40000000 in
theorem rm_init4e (l : Launch) (Z : State) (a0 : Array Value) (hw : ∀ d ∈ tables_1, d.before a0 Z = true) (ws : List Jvm.Cond) (hEL : EW Z a0 EL) (a1 : Addr) (a2 : Addr) (h0 : Heap) (n0 : Nat) (O0 : Old Z n0 h0)  (E_a1 : Exa Z h0 a1 "java/lang/String") (F_a1_value : Fld Z h0 a1 "java/lang/String" "value" "[B" .null) (F_a1_coder : Fld Z h0 a1 "java/lang/String" "coder" "B" (.int (0 : Int32))) (g_a1 : n0 ≤ a1) :
    MetFree l (⟨"java/lang/String", "<init>", "([CIILjava/lang/Void;)V"⟩ : MethodName) (head1 ((Jvm.Cond.code (⟨"java/lang/String", "<init>", "([CIILjava/lang/Void;)V"⟩ : MethodName) jdk_42_method_149_code 6 none) :: ws) ({ frames := 1, cells := 4, slots := 8, locals := 12 } : Room)) (fun a U => a = #[(.ref a1), (.ref a2), (.int (0 : Int32)), (.int (0 : Int32)), .null] ∧ Z.Warmed39 U.vm ∧ U.heap = h0 ∧ CHv Z EL U.vm h0) (fun _ _ _ _ _ => True) (fun _ U o U' => ∃ v L, o = .returned v ∧ Q_init4e Z a1 a2 h0 n0 v U'.heap L ∧ CHr Z EL U.vm U.heap U'.vm U'.heap ∧ ReturnedEndW U o U' L ({ frames := 1, cells := 4, slots := 8, locals := 12 } : Room).cells ({ frames := 1, cells := 4, slots := 8, locals := 12 } : Room).slots) := by
  refine MetFree.of_bodySF (plainFor_of_name pn_0) hisR ?_
  intro p e s m args below meth c s₁ Bd hml0 hP hK
  obtain ⟨rfl, hZ, hh, hCH⟩ := hP
  have hx := Bd.exec
  have hby := Bd.bytes
  have hml : c.maxLocals = 6 := hml0
  have hown : (s.setVm s.vm).vm.findClass "java/lang/String" = some m.cls := findClass_of_methodNamed Bd.named
  have hnm := (name_of_methodNamed Bd.named Bd.method).1
  have X0 : Stand p l e ({ frames := 1, cells := 4, slots := 8, locals := 12 } : Room) (s.setVm s.vm) m #[(.ref a1), (.ref a2), (.int (0 : Int32)), (.int (0 : Int32)), .null] below meth c s₁ [] 0 0 := Stand.of_body Bd
  have e0 : s₁.heap = h0 := by rw [← hh, Bd.state]; rfl
  have N0 := Fr.nil n0
  have K0 : Keep h0 h0 [a1] := Keep.refl _ _
  have C0 : CHr Z EL s.vm h0 s.vm h0 := CHr.refl hCH
  have hS0 : s.Since s.vm h0.size := own_since0 s _
  have hk0 : h0.size ≤ h0.size := Nat.le_refl _
  suffices hG : Goes p e below (fun o U' => ∃ v L, o = .returned v ∧ Q_init4e Z a1 a2 h0 n0 v U'.heap L ∧ CHr Z EL s.vm s.heap U'.vm U'.heap ∧ ReturnedEndW s o U' L ({ frames := 1, cells := 4, slots := 8, locals := 12 } : Room).cells ({ frames := 1, cells := 4, slots := 8, locals := 12 } : Room).slots) s₁ (mkF m 0 #[.val (.ref a1), .val (.ref a2), .val (.int (0 : Int32)), .val (.int (0 : Int32)), .val .null, .unset] []) by
    obtain ⟨t, o, h1, h2⟩ := hG; exact ⟨t, o, castTop (ef_init4e m a1 a2) h1, h2⟩
  have S_a1 : Safe Z EL s.vm h0 a1 := own_safeNull hZ.alike E_a1 F_a1_value
  refine Goes.step (T' := s₁) (g' := (mkF m 1 #[.val (.ref a1), .val (.ref a2), .val (.int (0 : Int32)), .val (.int (0 : Int32)), .val .null, .unset] [(.ref a1)])) (fun _ k => XS.aloadN X0.here hx rfl (hb hby d_jdk_42_method_149_0) rfl rfl k) ?_
  obtain ⟨T1, X1, e1, st1⟩ := initO X0 hx hZ hown (hw _ (List.mem_of_getElem? (i := 22) rfl)) (hw _ (List.mem_of_getElem? (i := 23) rfl)) (hw _ (List.mem_of_getElem? (i := 24) rfl)) e0 (g := (mkF m 1 #[.val (.ref a1), .val (.ref a2), .val (.int (0 : Int32)), .val (.int (0 : Int32)), .val .null, .unset] [(.ref a1)])) rfl (by rw [hml]; rfl) rfl (hb hby d_jdk_42_method_149_1) (by decide) (W := 0) (by show 2 * 0 + _ ≤ _; exact Nat.le_of_eq rfl) (by decide)
  refine Goes.step (T' := T1) (g' := (mkF m 4 #[.val (.ref a1), .val (.ref a2), .val (.int (0 : Int32)), .val (.int (0 : Int32)), .val .null, .unset] [])) st1 ?_
  refine Goes.step (T' := T1) (g' := (mkF m 5 #[.val (.ref a1), .val (.ref a2), .val (.int (0 : Int32)), .val (.int (0 : Int32)), .val .null, .unset] [(.int (0 : Int32))])) (fun _ k => XS.iloadN X1.here hx rfl (hb hby d_jdk_42_method_149_4) rfl  k) ?_
  refine Goes.step (T' := T1) (g' := (mkF m 8 #[.val (.ref a1), .val (.ref a2), .val (.int (0 : Int32)), .val (.int (0 : Int32)), .val .null, .unset] [])) (fun _ k => XS.ifNo X1.here hx rfl (hb hby d_jdk_42_method_149_5) rfl ((if0 _ _).trans (teq (by decide : ((0 : Int32) = (0 : Int32)))).2) k) ?_
  refine Goes.step (T' := T1) (g' := (mkF m 9 #[.val (.ref a1), .val (.ref a2), .val (.int (0 : Int32)), .val (.int (0 : Int32)), .val .null, .unset] [(.ref a1)])) (fun _ k => XS.aloadN X1.here hx rfl (hb hby d_jdk_42_method_149_8) rfl rfl k) ?_
  obtain ⟨ca2, T2, h2, k2, ct2, kc2, X2, e2, Ex2, hS2, hk2, hZ2, hown2, E_ca2, F_ca2_coder, F_ca2_value, V_ct2, la2, lt2, C2, Lit2, hne2, st2⟩ := ldcCH X1 hx hZ hown (hw _ (List.mem_of_getElem? (i := 25) rfl)) (own_wS hw) e1 hS0 hk0 hEL (by simp [EL, consts_1]) C0.1 (vs := []) (z := 0) (by decide) (by decide) (by decide) (g := (mkF m 9 #[.val (.ref a1), .val (.ref a2), .val (.int (0 : Int32)), .val (.int (0 : Int32)), .val .null, .unset] [(.ref a1)])) rfl (hb hby d_jdk_42_method_149_9) (n := 0) (by decide) (by decide) (by decide) (by decide)
  replace S_a1 := C2.safe E_a1.lt S_a1
  replace C0 := C0.trans C2
  replace E_a1 := E_a1.ext Ex2
  replace F_a1_value := F_a1_value.ext Ex2
  replace F_a1_coder := F_a1_coder.ext Ex2
  replace O0 := O0.ext Ex2
  replace K0 := K0.ext Ex2
  clear hS0 hk0 hZ hown
  have hS0 := hS2
  have hk0 := hk2
  have hZ := hZ2
  have hown := hown2
  have ne_a1_ca2 := (hne2 _ S_a1).1
  have ne_a1_ct2 := (hne2 _ S_a1).2
  refine Goes.step (T' := T2) (g' := (mkF m 11 #[.val (.ref a1), .val (.ref a2), .val (.int (0 : Int32)), .val (.int (0 : Int32)), .val .null, .unset] [(.ref ca2), (.ref a1)])) st2 ?_
  obtain ⟨T3, X3, e3, st3⟩ := getF X2 hx hZ hown (host := "") (Or.inl (hw _ (List.mem_of_getElem? (i := 31) rfl))) Via.refl e2 F_ca2_value (g := (mkF m 11 #[.val (.ref a1), .val (.ref a2), .val (.int (0 : Int32)), .val (.int (0 : Int32)), .val .null, .unset] [(.ref ca2), (.ref a1)])) rfl rfl (hb hby d_jdk_42_method_149_11)
  refine Goes.step (T' := T3) (g' := (mkF m 14 #[.val (.ref a1), .val (.ref a2), .val (.int (0 : Int32)), .val (.int (0 : Int32)), .val .null, .unset] [(.ref ct2), (.ref a1)])) st3 ?_
  obtain ⟨T4, h4, X4, e4, W4, st4⟩ := putF X3 hx hZ hown (host := "") (Or.inl (hw _ (List.mem_of_getElem? (i := 31) rfl))) Via.refl e3 F_a1_value E_a1 (Or.inr ⟨(hw _ (List.mem_of_getElem? (i := 27) rfl)), rfl, hnm⟩) (hw _ (List.mem_of_getElem? (i := 12) rfl)) (ty := (.array .byte)) (by decide) rfl rfl (g := (mkF m 14 #[.val (.ref a1), .val (.ref a2), .val (.int (0 : Int32)), .val (.int (0 : Int32)), .val .null, .unset] [(.ref ct2), (.ref a1)])) rfl rfl (hb hby d_jdk_42_method_149_14)
  replace N0 := Fr.snoc X4 N0 g_a1
  have Sw := S_a1
  replace S_a1 := Safe.wr W4 Sw C0.1 S_a1
  replace C0 := C0.trans (CHr.wr W4 Sw C0.1)
  replace hk0 := Nat.le_trans hk0 (Nat.le_of_eq W4.size.symm)
  replace E_a1 := E_a1.wr W4
  replace F_a1_value := F_a1_value.same W4
  replace F_a1_coder := F_a1_coder.other W4 (Or.inr (slot_ne (Or.inr (hw _ (List.mem_of_getElem? (i := 28) rfl))) (Or.inr (hw _ (List.mem_of_getElem? (i := 27) rfl))) (by decide) (t := .byte) (t' := (.array .byte)) (by decide) (by decide)))
  replace E_ca2 := E_ca2.wr W4
  replace F_ca2_coder := F_ca2_coder.other W4 (Or.inl (Ne.symm ne_a1_ca2))
  replace F_ca2_value := F_ca2_value.other W4 (Or.inl (Ne.symm ne_a1_ca2))
  replace V_ct2 := V_ct2.other W4 (Ne.symm ne_a1_ct2)
  replace O0 := O0.wr W4 g_a1
  replace K0 := K0.wr W4 (Or.inl (List.mem_of_getElem? (i := 0) rfl))
  refine Goes.step (T' := T4) (g' := (mkF m 17 #[.val (.ref a1), .val (.ref a2), .val (.int (0 : Int32)), .val (.int (0 : Int32)), .val .null, .unset] [])) st4 ?_
  refine Goes.step (T' := T4) (g' := (mkF m 18 #[.val (.ref a1), .val (.ref a2), .val (.int (0 : Int32)), .val (.int (0 : Int32)), .val .null, .unset] [(.ref a1)])) (fun _ k => XS.aloadN X4.here hx rfl (hb hby d_jdk_42_method_149_17) rfl rfl k) ?_
  obtain ⟨ca5, T5, h5, k5, ct5, kc5, X5, e5, Ex5, hS5, hk5, hZ5, hown5, E_ca5, F_ca5_coder, F_ca5_value, V_ct5, la5, lt5, C5, Lit5, hne5, st5⟩ := ldcCH X4 hx hZ hown (hw _ (List.mem_of_getElem? (i := 25) rfl)) (own_wS hw) e4 hS0 hk0 hEL (by simp [EL, consts_1]) C0.1 (vs := []) (z := 0) (by decide) (by decide) (by decide) (g := (mkF m 18 #[.val (.ref a1), .val (.ref a2), .val (.int (0 : Int32)), .val (.int (0 : Int32)), .val .null, .unset] [(.ref a1)])) rfl (hb hby d_jdk_42_method_149_18) (n := 0) (by decide) (by decide) (by decide) (by decide)
  replace S_a1 := C5.safe E_a1.lt S_a1
  replace C0 := C0.trans C5
  replace E_a1 := E_a1.ext Ex5
  replace F_a1_value := F_a1_value.ext Ex5
  replace F_a1_coder := F_a1_coder.ext Ex5
  replace E_ca2 := E_ca2.ext Ex5
  replace F_ca2_coder := F_ca2_coder.ext Ex5
  replace F_ca2_value := F_ca2_value.ext Ex5
  replace V_ct2 := V_ct2.ext Ex5
  replace O0 := O0.ext Ex5
  replace K0 := K0.ext Ex5
  clear hS0 hk0 hZ hown
  have hS0 := hS5
  have hk0 := hk5
  have hZ := hZ5
  have hown := hown5
  have ne_a1_ca5 := (hne5 _ S_a1).1
  have ne_a1_ct5 := (hne5 _ S_a1).2
  refine Goes.step (T' := T5) (g' := (mkF m 20 #[.val (.ref a1), .val (.ref a2), .val (.int (0 : Int32)), .val (.int (0 : Int32)), .val .null, .unset] [(.ref ca5), (.ref a1)])) st5 ?_
  obtain ⟨T6, X6, e6, st6⟩ := getF X5 hx hZ hown (host := "") (Or.inl (hw _ (List.mem_of_getElem? (i := 32) rfl))) Via.refl e5 F_ca5_coder (g := (mkF m 20 #[.val (.ref a1), .val (.ref a2), .val (.int (0 : Int32)), .val (.int (0 : Int32)), .val .null, .unset] [(.ref ca5), (.ref a1)])) rfl rfl (hb hby d_jdk_42_method_149_20)
  refine Goes.step (T' := T6) (g' := (mkF m 23 #[.val (.ref a1), .val (.ref a2), .val (.int (0 : Int32)), .val (.int (0 : Int32)), .val .null, .unset] [(.int (0 : Int32)), (.ref a1)])) st6 ?_
  obtain ⟨T7, h7, X7, e7, W7, st7⟩ := putF X6 hx hZ hown (host := "") (Or.inl (hw _ (List.mem_of_getElem? (i := 32) rfl))) Via.refl e6 F_a1_coder E_a1 (Or.inr ⟨(hw _ (List.mem_of_getElem? (i := 28) rfl)), rfl, hnm⟩) (hw _ (List.mem_of_getElem? (i := 12) rfl)) (ty := .byte) (by decide) rfl rfl (g := (mkF m 23 #[.val (.ref a1), .val (.ref a2), .val (.int (0 : Int32)), .val (.int (0 : Int32)), .val .null, .unset] [(.int (0 : Int32)), (.ref a1)])) rfl rfl (hb hby d_jdk_42_method_149_23)
  replace N0 := Fr.snoc X7 N0 g_a1
  have Sw := S_a1
  replace S_a1 := Safe.wr W7 Sw C0.1 S_a1
  replace C0 := C0.trans (CHr.wr W7 Sw C0.1)
  replace hk0 := Nat.le_trans hk0 (Nat.le_of_eq W7.size.symm)
  replace E_a1 := E_a1.wr W7
  replace F_a1_value := F_a1_value.other W7 (Or.inr (slot_ne (Or.inr (hw _ (List.mem_of_getElem? (i := 27) rfl))) (Or.inr (hw _ (List.mem_of_getElem? (i := 28) rfl))) (by decide) (t := (.array .byte)) (t' := .byte) (by decide) (by decide)))
  replace F_a1_coder := F_a1_coder.same W7
  replace E_ca2 := E_ca2.wr W7
  replace F_ca2_coder := F_ca2_coder.other W7 (Or.inl (Ne.symm ne_a1_ca2))
  replace F_ca2_value := F_ca2_value.other W7 (Or.inl (Ne.symm ne_a1_ca2))
  replace V_ct2 := V_ct2.other W7 (Ne.symm ne_a1_ct2)
  replace E_ca5 := E_ca5.wr W7
  replace F_ca5_coder := F_ca5_coder.other W7 (Or.inl (Ne.symm ne_a1_ca5))
  replace F_ca5_value := F_ca5_value.other W7 (Or.inl (Ne.symm ne_a1_ca5))
  replace V_ct5 := V_ct5.other W7 (Ne.symm ne_a1_ct5)
  replace O0 := O0.wr W7 g_a1
  replace K0 := K0.wr W7 (Or.inl (List.mem_of_getElem? (i := 0) rfl))
  refine Goes.step (T' := T7) (g' := (mkF m 26 #[.val (.ref a1), .val (.ref a2), .val (.int (0 : Int32)), .val (.int (0 : Int32)), .val .null, .unset] [])) st7 ?_
  obtain ⟨fs, hr, hrun, hended, hend⟩ := X7.leaveW hS0 (by rw [e7]; exact hk0) (v := none) (fun _ => rfl)
  exact ⟨_, _, X7.returnOut hx Bd.returns (hb hby d_jdk_42_method_149_26) hr, hrun, hended, _, _, rfl, (by show Q_init4e Z a1 a2 h0 n0 _ T7.heap _; rw [e7]; exact ⟨ct2, kc2, rfl, N0, K0, E_a1, F_a1_coder, F_a1_value, V_ct2⟩), (by show CHr Z EL s.vm s.heap T7.vm T7.heap; rw [e7, hh]; exact C0.trans (CHv.at X7 hZ hEL C0.1)), own_mono hend (by decide) (by decide)⟩
theorem d_jdk_42_method_3_0 : decode jdk_42_method_3_code 0 = .ok (.aload_n 0, 1) := by decide +kernel
theorem d_jdk_42_method_3_1 : decode jdk_42_method_3_code 1 = .ok (.aload_n 1, 1) := by decide +kernel
theorem d_jdk_42_method_3_2 : decode jdk_42_method_3_code 2 = .ok (.iconst 0, 1) := by decide +kernel
theorem d_jdk_42_method_3_3 : decode jdk_42_method_3_code 3 = .ok (.aload_n 1, 1) := by decide +kernel
theorem d_jdk_42_method_3_4 : decode jdk_42_method_3_code 4 = .ok (.arraylength, 1) := by decide +kernel
theorem d_jdk_42_method_3_5 : decode jdk_42_method_3_code 5 = .ok (.aconst_null, 1) := by decide +kernel
theorem d_jdk_42_method_3_6 : decode jdk_42_method_3_code 6 = .ok (.invokespecial 27, 3) := by decide +kernel
theorem pd_0 : parseMethodDescriptor "([CIILjava/lang/Void;)V" = some ⟨[(.array .char), .int, .int, (.object "java/lang/Void")], none⟩ := by decide +kernel
theorem d_jdk_42_method_3_9 : decode jdk_42_method_3_code 9 = .ok (.return_, 1) := by decide +kernel
theorem ef_initCe (m : MethodId) (a1 : Addr) (a2 : Addr) : entryFrame m #[(.ref a1), (.ref a2)] 2 = mkF m 0 #[.val (.ref a1), .val (.ref a2)] [] := by first | (simp [entryFrame, mkF, argsToLocals, Value.category, maxLocals]; done) | rfl
def Q_initCe (Z : State) (a1 : Addr) (a2 : Addr) (kc : ClassId) (dv : Value) (h0 : Heap) (n0 : Nat) (v : Option Value) (h : Heap) (L : List Loc) : Prop := ∃ t : Addr, ∃ kt : ClassId, (v = none) ∧ (Fr n0 L) ∧ (Keep h0 h [a1]) ∧ (Exa Z h a1 "java/lang/String") ∧ (Fld Z h a1 "java/lang/String" "coder" "B" (.int (0 : Int32))) ∧ (Fld Z h a1 "java/lang/String" "value" "[B" (.ref t)) ∧ (Arv Z h t kt .byte (0 : Int32) [] (.int 0))
set_option maxRecDepth 65536 in
set_option maxHeartbeats 40000000 in
theorem rm_initCe (l : Launch) (Z : State) (a0 : Array Value) (hw : ∀ d ∈ tables_1, d.before a0 Z = true) (ws : List Jvm.Cond) (hEL : EW Z a0 EL) (a1 : Addr) (a2 : Addr) (kc : ClassId) (dv : Value) (h0 : Heap) (n0 : Nat) (O0 : Old Z n0 h0)  (E_a1 : Exa Z h0 a1 "java/lang/String") (F_a1_value : Fld Z h0 a1 "java/lang/String" "value" "[B" .null) (F_a1_coder : Fld Z h0 a1 "java/lang/String" "coder" "B" (.int (0 : Int32))) (V_a2 : Arv Z h0 a2 kc .char (0 : Int32) [] dv) (ne_a2_a1 : a2 ≠ a1) (g_a1 : n0 ≤ a1) :
    MetFree l (⟨"java/lang/String", "<init>", "([C)V"⟩ : MethodName) (head1 ((Jvm.Cond.code (⟨"java/lang/String", "<init>", "([C)V"⟩ : MethodName) jdk_42_method_3_code 2 none) :: ws) ({ frames := 2, cells := 4, slots := 8, locals := 29 } : Room)) (fun a U => a = #[(.ref a1), (.ref a2)] ∧ Z.Warmed39 U.vm ∧ U.heap = h0 ∧ CHv Z EL U.vm h0) (fun _ _ _ _ _ => True) (fun _ U o U' => ∃ v L, o = .returned v ∧ Q_initCe Z a1 a2 kc dv h0 n0 v U'.heap L ∧ CHr Z EL U.vm U.heap U'.vm U'.heap ∧ ReturnedEndW U o U' L ({ frames := 2, cells := 4, slots := 8, locals := 29 } : Room).cells ({ frames := 2, cells := 4, slots := 8, locals := 29 } : Room).slots) := by
  refine MetFree.of_bodySF (plainFor_of_name pn_0) hisR ?_
  intro p e s m args below meth c s₁ Bd hml0 hP hK
  obtain ⟨rfl, hZ, hh, hCH⟩ := hP
  have hx := Bd.exec
  have hby := Bd.bytes
  have hml : c.maxLocals = 2 := hml0
  have hown : (s.setVm s.vm).vm.findClass "java/lang/String" = some m.cls := findClass_of_methodNamed Bd.named
  have hnm := (name_of_methodNamed Bd.named Bd.method).1
  have X0 : Stand p l e ({ frames := 2, cells := 4, slots := 8, locals := 29 } : Room) (s.setVm s.vm) m #[(.ref a1), (.ref a2)] below meth c s₁ [] 0 0 := Stand.of_body Bd
  have e0 : s₁.heap = h0 := by rw [← hh, Bd.state]; rfl
  have N0 := Fr.nil n0
  have K0 : Keep h0 h0 [a1] := Keep.refl _ _
  have C0 : CHr Z EL s.vm h0 s.vm h0 := CHr.refl hCH
  have hS0 : s.Since s.vm h0.size := own_since0 s _
  have hk0 : h0.size ≤ h0.size := Nat.le_refl _
  suffices hG : Goes p e below (fun o U' => ∃ v L, o = .returned v ∧ Q_initCe Z a1 a2 kc dv h0 n0 v U'.heap L ∧ CHr Z EL s.vm s.heap U'.vm U'.heap ∧ ReturnedEndW s o U' L ({ frames := 2, cells := 4, slots := 8, locals := 29 } : Room).cells ({ frames := 2, cells := 4, slots := 8, locals := 29 } : Room).slots) s₁ (mkF m 0 #[.val (.ref a1), .val (.ref a2)] []) by
    obtain ⟨t, o, h1, h2⟩ := hG; exact ⟨t, o, castTop (ef_initCe m a1 a2) h1, h2⟩
  refine Goes.step (T' := s₁) (g' := (mkF m 1 #[.val (.ref a1), .val (.ref a2)] [(.ref a1)])) (fun _ k => XS.aloadN X0.here hx rfl (hb hby d_jdk_42_method_3_0) rfl rfl k) ?_
  refine Goes.step (T' := s₁) (g' := (mkF m 2 #[.val (.ref a1), .val (.ref a2)] [(.ref a2), (.ref a1)])) (fun _ k => XS.aloadN X0.here hx rfl (hb hby d_jdk_42_method_3_1) rfl rfl k) ?_
  refine Goes.step (T' := s₁) (g' := (mkF m 3 #[.val (.ref a1), .val (.ref a2)] [(.int (0 : Int32)), (.ref a2), (.ref a1)])) (fun _ k => XS.iconst X0.here hx rfl (hb hby d_jdk_42_method_3_2) k) ?_
  refine Goes.step (T' := s₁) (g' := (mkF m 4 #[.val (.ref a1), .val (.ref a2)] [(.ref a2), (.int (0 : Int32)), (.ref a2), (.ref a1)])) (fun _ k => XS.aloadN X0.here hx rfl (hb hby d_jdk_42_method_3_3) rfl rfl k) ?_
  obtain ⟨cl8, Ar8, q8, Sz8, Nn8, Hs8, Gs8⟩ := (id V_a2 : Arv Z h0 a2 kc .char (0 : Int32) [] dv)
  have al8 := X0.arraylength hx (by rw [e0]; exact Ar8.1) (State.isArrayOf_alike hZ.alike Ar8.2.1) (g := (mkF m 4 #[.val (.ref a1), .val (.ref a2)] [(.ref a2), (.int (0 : Int32)), (.ref a2), (.ref a1)])) rfl rfl (hb hby d_jdk_42_method_3_4)
  rw [len_of Sz8 Nn8] at al8
  refine Goes.step (T' := s₁) (g' := (mkF m 5 #[.val (.ref a1), .val (.ref a2)] [(.int (0 : Int32)), (.int (0 : Int32)), (.ref a2), (.ref a1)])) al8 ?_
  refine Goes.step (T' := s₁) (g' := (mkF m 6 #[.val (.ref a1), .val (.ref a2)] [.null, (.int (0 : Int32)), (.int (0 : Int32)), (.ref a2), (.ref a1)])) (fun _ k => XS.aconstNull X0.here hx rfl (hb hby d_jdk_42_method_3_5) k) ?_
  obtain ⟨_, _, ⟨T9, L9, k9, n9⟩, -, X9, hS9, hgr9, ⟨Lc9, hQ9, l9, y9, z9, Ch9⟩, st9⟩ := X0.specialBackS hx (y := (⟨"java/lang/String", "<init>", "([CIILjava/lang/Void;)V"⟩ : MethodName)) rfl hown (mvT hZ (hw _ (List.mem_of_getElem? (i := 18) rfl))) (mvT hZ (hw _ (List.mem_of_getElem? (i := 19) rfl))) (mvT hZ (hw _ (List.mem_of_getElem? (i := 21) rfl))) (by decide) (backOfSH (W := 0) (rm_init4e l Z a0 hw [] hEL a1 a2 h0 n0 O0  E_a1 F_a1_value F_a1_coder g_a1) hZ (hw _ (List.mem_of_getElem? (i := 21) rfl)) (hw _ (List.mem_of_getElem? (i := 13) rfl)) (by decide) (by decide) hEL C0.1) (g := (mkF m 6 #[.val (.ref a1), .val (.ref a2)] [.null, (.int (0 : Int32)), (.int (0 : Int32)), (.ref a2), (.ref a1)])) rfl (by rw [hml]; rfl) (Steps.refl _) (a := a1) (argsL := [(.ref a2), (.int (0 : Int32)), (.int (0 : Int32)), .null]) (rest := []) (lenOf pd_0 rfl) rfl (by show 2 * 0 + _ ≤ _; exact Nat.le_of_eq rfl) (hb hby d_jdk_42_method_3_6) (fun _ _ => ⟨rfl, e0, (by decide : 0 + 4 ≤ _), (by decide : 0 + 8 ≤ _)⟩)
  dsimp only [Pt.U, Pt.locs, Pt.cells, Pt.slots] at X9 l9 y9 z9 st9 hQ9 hS9 hgr9 Ch9
  subst l9 y9 z9
  obtain ⟨h9, e9⟩ : ∃ z, T9.heap = z := ⟨_, rfl⟩
  rw [e9] at hQ9 Ch9
  obtain ⟨t_9, kt_9, rfl, Nq9, Kq9, E_a1_q9, F_a1_coder_q9, F_a1_value_q9, V_t_9_q9⟩ := hQ9
  replace N0 := Fr.app N0 Nq9
  replace C0 := C0.trans Ch9
  clear E_a1
  clear F_a1_value
  clear F_a1_coder
  replace V_a2 := V_a2.keep Kq9 (ninS ne_a2_a1 nin0)
  replace O0 := O0.keep Kq9 (allS g_a1 all0)
  replace K0 := K0.trans Kq9 (allS (Or.inl (List.mem_of_getElem? (i := 0) rfl)) all0)
  have E_a1 := E_a1_q9
  have F_a1_coder := F_a1_coder_q9
  have F_a1_value := F_a1_value_q9
  have V_t_9 := V_t_9_q9
  obtain ⟨X9, hS9, hZ9, hown9⟩ := rebS hS0 (by rw [e0]; exact hk0) X9 hS9 hgr9 hZ hown
  rw [e9] at hS9
  clear hS0 hk0 hZ hown
  have hS0 := hS9
  have hk0 : h9.size ≤ h9.size := Nat.le_refl _
  have hZ := hZ9
  have hown := hown9
  refine Goes.run (T' := T9) (g' := (mkF m 9 #[.val (.ref a1), .val (.ref a2)] [])) st9 ?_
  obtain ⟨fs, hr, hrun, hended, hend⟩ := X9.leaveW hS0 (by rw [e9]; exact hk0) (v := none) (fun _ => rfl)
  exact ⟨_, _, X9.returnOut hx Bd.returns (hb hby d_jdk_42_method_3_9) hr, hrun, hended, _, _, rfl, (by show Q_initCe Z a1 a2 kc dv h0 n0 _ T9.heap _; rw [e9]; exact ⟨t_9, kt_9, rfl, N0, K0, E_a1, F_a1_coder, F_a1_value, V_t_9⟩), (by show CHr Z EL s.vm s.heap T9.vm T9.heap; rw [e9, hh]; exact C0.trans (CHv.at X9 hZ hEL C0.1)), own_mono hend (by decide) (by decide)⟩
theorem d_jdk_30_method_1_0 : decode jdk_30_method_1_code 0 = .ok (.aload_n 0, 1) := by decide +kernel
theorem d_jdk_30_method_1_1 : decode jdk_30_method_1_code 1 = .ok (.invokespecial 1, 3) := by decide +kernel
theorem d_jdk_30_method_1_4 : decode jdk_30_method_1_code 4 = .ok (.return_, 1) := by decide +kernel
theorem pn_1 : plainName "java/lang/Record" = true := by first | (simp [plainName, overriddenIn]; done) | decide +kernel
theorem ef_recInit (m : MethodId) (a1 : Addr) : entryFrame m #[(.ref a1)] 1 = mkF m 0 #[.val (.ref a1)] [] := by first | (simp [entryFrame, mkF, argsToLocals, Value.category, maxLocals]; done) | rfl
def Q_recInit (Z : State) (a1 : Addr) (h0 : Heap) (n0 : Nat) (v : Option Value) (h : Heap) (L : List Loc) : Prop := (v = none) ∧ (L = []) ∧ (h = h0)
set_option maxRecDepth 65536 in
set_option maxHeartbeats 40000000 in
theorem rm_recInit (l : Launch) (Z : State) (a0 : Array Value) (hw : ∀ d ∈ tables_1, d.before a0 Z = true) (ws : List Jvm.Cond) (a1 : Addr) (h0 : Heap) (n0 : Nat) (O0 : Old Z n0 h0)   :
    MetFree l (⟨"java/lang/Record", "<init>", "()V"⟩ : MethodName) (head1 ((Jvm.Cond.code (⟨"java/lang/Record", "<init>", "()V"⟩ : MethodName) jdk_30_method_1_code 1 none) :: ws) ({ frames := 1, cells := 0, slots := 0, locals := 12 } : Room)) (fun a U => a = #[(.ref a1)] ∧ Z.Warmed39 U.vm ∧ U.heap = h0) (fun _ _ _ _ _ => True) (fun _ U o U' => ∃ v L, o = .returned v ∧ Q_recInit Z a1 h0 n0 v U'.heap L ∧ FrameEnd U o U' L ({ frames := 1, cells := 0, slots := 0, locals := 12 } : Room).cells ({ frames := 1, cells := 0, slots := 0, locals := 12 } : Room).slots) := by
  refine MetFree.of_bodySF (plainFor_of_name pn_1) hisR ?_
  intro p e s m args below meth c s₁ Bd hml0 hP hK
  obtain ⟨rfl, hZ, hh⟩ := hP
  have hx := Bd.exec
  have hby := Bd.bytes
  have hml : c.maxLocals = 1 := hml0
  have hown : s.vm.findClass "java/lang/Record" = some m.cls := findClass_of_methodNamed Bd.named
  have hnm := (name_of_methodNamed Bd.named Bd.method).1
  have X0 : Stand p l e ({ frames := 1, cells := 0, slots := 0, locals := 12 } : Room) s m #[(.ref a1)] below meth c s₁ [] 0 0 := Stand.of_body Bd
  have e0 : s₁.heap = h0 := by rw [← hh, Bd.state]; rfl
  have N0 := Fr.nil n0
  have K0 : Keep h0 h0 [] := Keep.refl _ _
  suffices hG : Goes p e below (fun o U' => ∃ v L, o = .returned v ∧ Q_recInit Z a1 h0 n0 v U'.heap L ∧ FrameEnd s o U' L ({ frames := 1, cells := 0, slots := 0, locals := 12 } : Room).cells ({ frames := 1, cells := 0, slots := 0, locals := 12 } : Room).slots) s₁ (mkF m 0 #[.val (.ref a1)] []) by
    obtain ⟨t, o, h1, h2⟩ := hG; exact ⟨t, o, castTop (ef_recInit m a1) h1, h2⟩
  refine Goes.step (T' := s₁) (g' := (mkF m 1 #[.val (.ref a1)] [(.ref a1)])) (fun _ k => XS.aloadN X0.here hx rfl (hb hby d_jdk_30_method_1_0) rfl rfl k) ?_
  obtain ⟨T10, X10, e10, st10⟩ := initO X0 hx hZ hown (hw _ (List.mem_of_getElem? (i := 44) rfl)) (hw _ (List.mem_of_getElem? (i := 23) rfl)) (hw _ (List.mem_of_getElem? (i := 24) rfl)) e0 (g := (mkF m 1 #[.val (.ref a1)] [(.ref a1)])) rfl (by rw [hml]; rfl) rfl (hb hby d_jdk_30_method_1_1) (by decide) (W := 0) (by show 2 * 0 + _ ≤ _; exact Nat.le_of_eq rfl) (by decide)
  refine Goes.step (T' := T10) (g' := (mkF m 4 #[.val (.ref a1)] [])) st10 ?_
  obtain ⟨fs, hr, hrun, hended, hW, hsame⟩ := X10.leave (v := none) (fun _ => rfl)
  exact ⟨_, _, X10.returnOut hx Bd.returns (hb hby d_jdk_30_method_1_4) hr, hrun, hended, _, _, rfl, (by show Q_recInit Z a1 h0 n0 _ T10.heap _; rw [e10]; exact ⟨rfl, rfl, rfl⟩), ⟨_, rfl⟩, hW, hsame.mono (by decide) (by decide)⟩
theorem d_jdk_29_method_69_0 : decode jdk_29_method_69_code 0 = .ok (.iload_n 0, 1) := by decide +kernel
theorem d_jdk_29_method_69_1 : decode jdk_29_method_69_code 1 = .ok (.iload_n 1, 1) := by decide +kernel
theorem d_jdk_29_method_69_2 : decode jdk_29_method_69_code 2 = .ok (.if_icmp .gt 7, 3) := by decide +kernel
theorem d_jdk_29_method_69_9 : decode jdk_29_method_69_code 9 = .ok (.iload_n 1, 1) := by decide +kernel
theorem d_jdk_29_method_69_10 : decode jdk_29_method_69_code 10 = .ok (.ireturn, 1) := by decide +kernel
theorem d_jdk_29_method_69_5 : decode jdk_29_method_69_code 5 = .ok (.iload_n 0, 1) := by decide +kernel
theorem d_jdk_29_method_69_6 : decode jdk_29_method_69_code 6 = .ok (.goto 4, 3) := by decide +kernel
theorem ef_mathmin (m : MethodId) (p1 : Int32) (p2 : Int32) : entryFrame m #[(.int p1), (.int p2)] 2 = mkF m 0 #[.val (.int p1), .val (.int p2)] [] := by first | (simp [entryFrame, mkF, argsToLocals, Value.category, maxLocals]; done) | rfl
def Q_mathmin (Z : State) (p1 : Int32) (p2 : Int32) (h0 : Heap) (n0 : Nat) (v : Option Value) (h : Heap) (L : List Loc) : Prop := (v = some (.int (if p2 < p1 then p2 else p1))) ∧ (L = []) ∧ (h = h0)
set_option maxRecDepth 65536 in
set_option maxHeartbeats 40000000 in
theorem rm_mathmin (l : Launch) (Z : State) (a0 : Array Value) (hw : ∀ d ∈ tables_1, d.before a0 Z = true) (ws : List Jvm.Cond) (p1 : Int32) (p2 : Int32) (h0 : Heap) (n0 : Nat) (O0 : Old Z n0 h0)   :
    MetFree l (⟨"java/lang/Math", "min", "(II)I"⟩ : MethodName) (head1 ((Jvm.Cond.code (⟨"java/lang/Math", "min", "(II)I"⟩ : MethodName) jdk_29_method_69_code 2 (some .int)) :: ws) ({ frames := 0, cells := 0, slots := 0, locals := 0 } : Room)) (fun a U => a = #[(.int p1), (.int p2)] ∧ Z.Warmed39 U.vm ∧ U.heap = h0) (fun _ _ _ _ _ => True) (fun _ U o U' => ∃ v L, o = .returned v ∧ Q_mathmin Z p1 p2 h0 n0 v U'.heap L ∧ FrameEnd U o U' L ({ frames := 0, cells := 0, slots := 0, locals := 0 } : Room).cells ({ frames := 0, cells := 0, slots := 0, locals := 0 } : Room).slots) := by
  refine MetFree.of_bodySF (Jvm.Free.JP.mathPlain rfl (by decide)) hisR ?_
  intro p e s m args below meth c s₁ Bd hml0 hP hK
  obtain ⟨rfl, hZ, hh⟩ := hP
  have hx := Bd.exec
  have hby := Bd.bytes
  have hml : c.maxLocals = 2 := hml0
  have hown : s.vm.findClass "java/lang/Math" = some m.cls := findClass_of_methodNamed Bd.named
  have hnm := (name_of_methodNamed Bd.named Bd.method).1
  have X0 : Stand p l e ({ frames := 0, cells := 0, slots := 0, locals := 0 } : Room) s m #[(.int p1), (.int p2)] below meth c s₁ [] 0 0 := Stand.of_body Bd
  have e0 : s₁.heap = h0 := by rw [← hh, Bd.state]; rfl
  have N0 := Fr.nil n0
  have K0 : Keep h0 h0 [] := Keep.refl _ _
  suffices hG : Goes p e below (fun o U' => ∃ v L, o = .returned v ∧ Q_mathmin Z p1 p2 h0 n0 v U'.heap L ∧ FrameEnd s o U' L ({ frames := 0, cells := 0, slots := 0, locals := 0 } : Room).cells ({ frames := 0, cells := 0, slots := 0, locals := 0 } : Room).slots) s₁ (mkF m 0 #[.val (.int p1), .val (.int p2)] []) by
    obtain ⟨t, o, h1, h2⟩ := hG; exact ⟨t, o, castTop (ef_mathmin m p1 p2) h1, h2⟩
  refine Goes.step (T' := s₁) (g' := (mkF m 1 #[.val (.int p1), .val (.int p2)] [(.int p1)])) (fun _ k => XS.iloadN X0.here hx rfl (hb hby d_jdk_29_method_69_0) rfl  k) ?_
  refine Goes.step (T' := s₁) (g' := (mkF m 2 #[.val (.int p1), .val (.int p2)] [(.int p2), (.int p1)])) (fun _ k => XS.iloadN X0.here hx rfl (hb hby d_jdk_29_method_69_1) rfl  k) ?_
  by_cases hc2_11 : p2 < p1
  ·
    refine Goes.step (T' := s₁) (g' := (mkF m 9 #[.val (.int p1), .val (.int p2)] [])) (fun _ k => XS.icmpYes X0.here hx rfl (pc0 := 2) (pc' := 9) rfl (hb hby d_jdk_29_method_69_2) rfl (tlt hc2_11).2.2.1 (by decide) (by decide) k) ?_
    refine Goes.step (T' := s₁) (g' := (mkF m 10 #[.val (.int p1), .val (.int p2)] [(.int p2)])) (fun _ k => XS.iloadN X0.here hx rfl (hb hby d_jdk_29_method_69_9) rfl  k) ?_
    obtain ⟨fs, hr, hrun, hended, hW, hsame⟩ := X0.leave (v := some (.int p2)) (fun h => by rw [Bd.returns] at h; cases h)
    exact ⟨_, _, retOut X0 hx Bd.returns rfl (Or.inl ⟨rfl, Or.inl rfl, _, rfl⟩) (hb hby d_jdk_29_method_69_10) hr, hrun, hended, _, _, rfl, (by show Q_mathmin Z p1 p2 h0 n0 _ s₁.heap _; rw [e0]; exact ⟨(by simp [hc2_11]), rfl, rfl⟩), ⟨_, rfl⟩, hW, hsame.mono (by decide) (by decide)⟩
  ·
    refine Goes.step (T' := s₁) (g' := (mkF m 5 #[.val (.int p1), .val (.int p2)] [])) (fun _ k => XS.icmpNo X0.here hx rfl (hb hby d_jdk_29_method_69_2) rfl (flt hc2_11).2.2.1 k) ?_
    refine Goes.step (T' := s₁) (g' := (mkF m 6 #[.val (.int p1), .val (.int p2)] [(.int p1)])) (fun _ k => XS.iloadN X0.here hx rfl (hb hby d_jdk_29_method_69_5) rfl  k) ?_
    refine Goes.step (T' := s₁) (g' := (mkF m 10 #[.val (.int p1), .val (.int p2)] [(.int p1)])) (fun _ k => XS.goto X0.here hx rfl (pc0 := 6) (pc' := 10) rfl (hb hby d_jdk_29_method_69_6) (by decide) (by decide) k) ?_
    obtain ⟨fs, hr, hrun, hended, hW, hsame⟩ := X0.leave (v := some (.int p1)) (fun h => by rw [Bd.returns] at h; cases h)
    exact ⟨_, _, retOut X0 hx Bd.returns rfl (Or.inl ⟨rfl, Or.inl rfl, _, rfl⟩) (hb hby d_jdk_29_method_69_10) hr, hrun, hended, _, _, rfl, (by show Q_mathmin Z p1 p2 h0 n0 _ s₁.heap _; rw [e0]; exact ⟨(by simp [hc2_11]), rfl, rfl⟩), ⟨_, rfl⟩, hW, hsame.mono (by decide) (by decide)⟩
theorem d_method_2_0 : decode method_2_code 0 = .ok (.iload_n 0, 1) := by decide +kernel
theorem d_method_2_1 : decode method_2_code 1 = .ok (.bipush 16, 2) := by decide +kernel
theorem d_method_2_3 : decode method_2_code 3 = .ok (.iushr, 1) := by decide +kernel
theorem d_method_2_4 : decode method_2_code 4 = .ok (.iconst 3, 1) := by decide +kernel
theorem d_method_2_5 : decode method_2_code 5 = .ok (.iand, 1) := by decide +kernel
theorem d_method_2_6 : decode method_2_code 6 = .ok (.iconst 2, 1) := by decide +kernel
theorem d_method_2_7 : decode method_2_code 7 = .ok (.invokestatic 7, 3) := by decide +kernel
theorem pd_1 : parseMethodDescriptor "(II)I" = some ⟨[.int, .int], some .int⟩ := by decide +kernel
theorem d_method_2_10 : decode method_2_code 10 = .ok (.ireturn, 1) := by decide +kernel
theorem pn_2 : plainName "com/example/wardkey/wardkey/policy/CodeOverlapsPinLaw" = true := by first | (simp [plainName, overriddenIn]; done) | decide +kernel
theorem ef_len (m : MethodId) (p1 : Int32) : entryFrame m #[(.int p1)] 1 = mkF m 0 #[.val (.int p1)] [] := by first | (simp [entryFrame, mkF, argsToLocals, Value.category, maxLocals]; done) | rfl
def Q_len (Z : State) (p1 : Int32) (h0 : Heap) (n0 : Nat) (v : Option Value) (h : Heap) (L : List Loc) : Prop := (v = some (.int (LN p1))) ∧ (L = []) ∧ (h = h0)
set_option maxRecDepth 65536 in
set_option maxHeartbeats 40000000 in
theorem rm_len (l : Launch) (Z : State) (a0 : Array Value) (hw : ∀ d ∈ tables_1, d.before a0 Z = true) (ws : List Jvm.Cond) (p1 : Int32) (h0 : Heap) (n0 : Nat) (O0 : Old Z n0 h0)   :
    MetFree l (⟨"com/example/wardkey/wardkey/policy/CodeOverlapsPinLaw", "len", "(I)I"⟩ : MethodName) (head1 ((Jvm.Cond.code (⟨"com/example/wardkey/wardkey/policy/CodeOverlapsPinLaw", "len", "(I)I"⟩ : MethodName) method_2_code 1 (some .int)) :: ws) ({ frames := 1, cells := 0, slots := 0, locals := 13 } : Room)) (fun a U => a = #[(.int p1)] ∧ Z.Warmed39 U.vm ∧ U.heap = h0) (fun _ _ _ _ _ => True) (fun _ U o U' => ∃ v L, o = .returned v ∧ Q_len Z p1 h0 n0 v U'.heap L ∧ FrameEnd U o U' L ({ frames := 1, cells := 0, slots := 0, locals := 13 } : Room).cells ({ frames := 1, cells := 0, slots := 0, locals := 13 } : Room).slots) := by
  refine MetFree.of_bodySF (plainFor_of_name pn_2) hisR ?_
  intro p e s m args below meth c s₁ Bd hml0 hP hK
  obtain ⟨rfl, hZ, hh⟩ := hP
  have hx := Bd.exec
  have hby := Bd.bytes
  have hml : c.maxLocals = 1 := hml0
  have hown : s.vm.findClass "com/example/wardkey/wardkey/policy/CodeOverlapsPinLaw" = some m.cls := findClass_of_methodNamed Bd.named
  have hnm := (name_of_methodNamed Bd.named Bd.method).1
  have X0 : Stand p l e ({ frames := 1, cells := 0, slots := 0, locals := 13 } : Room) s m #[(.int p1)] below meth c s₁ [] 0 0 := Stand.of_body Bd
  have e0 : s₁.heap = h0 := by rw [← hh, Bd.state]; rfl
  have N0 := Fr.nil n0
  have K0 : Keep h0 h0 [] := Keep.refl _ _
  suffices hG : Goes p e below (fun o U' => ∃ v L, o = .returned v ∧ Q_len Z p1 h0 n0 v U'.heap L ∧ FrameEnd s o U' L ({ frames := 1, cells := 0, slots := 0, locals := 13 } : Room).cells ({ frames := 1, cells := 0, slots := 0, locals := 13 } : Room).slots) s₁ (mkF m 0 #[.val (.int p1)] []) by
    obtain ⟨t, o, h1, h2⟩ := hG; exact ⟨t, o, castTop (ef_len m p1) h1, h2⟩
  refine Goes.step (T' := s₁) (g' := (mkF m 1 #[.val (.int p1)] [(.int p1)])) (fun _ k => XS.iloadN X0.here hx rfl (hb hby d_method_2_0) rfl  k) ?_
  refine Goes.step (T' := s₁) (g' := (mkF m 3 #[.val (.int p1)] [(.int (16 : Int32)), (.int p1)])) (fun _ k => XS.bipush X0.here hx rfl (hb hby d_method_2_1) k) ?_
  refine Goes.step (T' := s₁) (g' := (mkF m 4 #[.val (.int p1)] [(.int ((p1.toUInt32 >>> ((16 : Int32) &&& 31).toUInt32).toInt32))])) (fun _ k => XS.iushr X0.here hx rfl (hb hby d_method_2_3) rfl k) ?_
  refine Goes.step (T' := s₁) (g' := (mkF m 5 #[.val (.int p1)] [(.int (3 : Int32)), (.int ((p1.toUInt32 >>> ((16 : Int32) &&& 31).toUInt32).toInt32))])) (fun _ k => XS.iconst X0.here hx rfl (hb hby d_method_2_4) k) ?_
  refine Goes.step (T' := s₁) (g' := (mkF m 6 #[.val (.int p1)] [(.int (((p1.toUInt32 >>> ((16 : Int32) &&& 31).toUInt32).toInt32) &&& (3 : Int32)))])) (fun _ k => XS.iand X0.here hx rfl (hb hby d_method_2_5) rfl k) ?_
  refine Goes.step (T' := s₁) (g' := (mkF m 7 #[.val (.int p1)] [(.int (2 : Int32)), (.int (((p1.toUInt32 >>> ((16 : Int32) &&& 31).toUInt32).toInt32) &&& (3 : Int32)))])) (fun _ k => XS.iconst X0.here hx rfl (hb hby d_method_2_6) k) ?_
  obtain ⟨_, _, ⟨T12, L12, k12, n12⟩, -, X12, ⟨Lc12, hQ12, l12, y12, z12⟩, st12⟩ := Jvm.LawKit.callS X0 hx (y := (⟨"java/lang/Math", "min", "(II)I"⟩ : MethodName)) hown (mvT hZ (hw _ (List.mem_of_getElem? (i := 7) rfl))) (mvT hZ (hw _ (List.mem_of_getElem? (i := 8) rfl))) (mvT hZ (hw _ (List.mem_of_getElem? (i := 9) rfl))) (mvT hZ (hw _ (List.mem_of_getElem? (i := 10) rfl))) (by decide) (backOf (W := 0) (rm_mathmin l Z a0 hw [] (((p1.toUInt32 >>> ((16 : Int32) &&& 31).toUInt32).toInt32) &&& (3 : Int32)) (2 : Int32) h0 n0 O0  ) hZ (hw _ (List.mem_of_getElem? (i := 10) rfl)) (hw _ (List.mem_of_getElem? (i := 9) rfl)) (by decide) (by decide)) (g := (mkF m 7 #[.val (.int p1)] [(.int (2 : Int32)), (.int (((p1.toUInt32 >>> ((16 : Int32) &&& 31).toUInt32).toInt32) &&& (3 : Int32)))])) rfl (by rw [hml]; rfl) (argsL := [(.int (((p1.toUInt32 >>> ((16 : Int32) &&& 31).toUInt32).toInt32) &&& (3 : Int32))), (.int (2 : Int32))]) (rest := []) (lenOf pd_1 rfl) rfl (by show 2 * 0 + _ ≤ _; exact Nat.le_of_eq rfl) (hb hby d_method_2_7) (fun _ _ => ⟨rfl, e0, (by decide : 0 + 0 ≤ _), (by decide : 0 + 0 ≤ _)⟩)
  dsimp only [Pt.U, Pt.locs, Pt.cells, Pt.slots] at X12 l12 y12 z12 st12 hQ12
  subst l12 y12 z12
  obtain ⟨rfl, rfl, e12⟩ := hQ12
  replace N0 := Fr.app N0 (Fr.nil n0)
  refine Goes.step (T' := T12) (g' := (mkF m 10 #[.val (.int p1)] [(.int (if (2 : Int32) < (((p1.toUInt32 >>> ((16 : Int32) &&& 31).toUInt32).toInt32) &&& (3 : Int32)) then (2 : Int32) else (((p1.toUInt32 >>> ((16 : Int32) &&& 31).toUInt32).toInt32) &&& (3 : Int32))))])) st12 ?_
  obtain ⟨fs, hr, hrun, hended, hW, hsame⟩ := X12.leave (v := some (.int (if (2 : Int32) < (((p1.toUInt32 >>> ((16 : Int32) &&& 31).toUInt32).toInt32) &&& (3 : Int32)) then (2 : Int32) else (((p1.toUInt32 >>> ((16 : Int32) &&& 31).toUInt32).toInt32) &&& (3 : Int32))))) (fun h => by rw [Bd.returns] at h; cases h)
  exact ⟨_, _, retOut X12 hx Bd.returns rfl (Or.inl ⟨rfl, Or.inl rfl, _, rfl⟩) (hb hby d_method_2_10) hr, hrun, hended, _, _, rfl, (by show Q_len Z p1 h0 n0 _ T12.heap _; rw [e12]; exact ⟨rfl, rfl, rfl⟩), ⟨_, rfl⟩, hW, hsame.mono (by decide) (by decide)⟩
theorem d_method_3_0 : decode method_3_code 0 = .ok (.iload_n 0, 1) := by decide +kernel
theorem d_method_3_1 : decode method_3_code 1 = .ok (.sipush 255, 3) := by decide +kernel
theorem d_method_3_4 : decode method_3_code 4 = .ok (.iand, 1) := by decide +kernel
theorem d_method_3_5 : decode method_3_code 5 = .ok (.i2c, 1) := by decide +kernel
theorem d_method_3_6 : decode method_3_code 6 = .ok (.ireturn, 1) := by decide +kernel
theorem ef_c0 (m : MethodId) (p1 : Int32) : entryFrame m #[(.int p1)] 1 = mkF m 0 #[.val (.int p1)] [] := by first | (simp [entryFrame, mkF, argsToLocals, Value.category, maxLocals]; done) | rfl
def Q_c0 (Z : State) (p1 : Int32) (h0 : Heap) (n0 : Nat) (v : Option Value) (h : Heap) (L : List Loc) : Prop := (v = some (.int (CA0 p1))) ∧ (L = []) ∧ (h = h0)
set_option maxRecDepth 65536 in
set_option maxHeartbeats 40000000 in
theorem rm_c0 (l : Launch) (Z : State) (a0 : Array Value) (hw : ∀ d ∈ tables_1, d.before a0 Z = true) (ws : List Jvm.Cond) (p1 : Int32) (h0 : Heap) (n0 : Nat) (O0 : Old Z n0 h0)   :
    MetFree l (⟨"com/example/wardkey/wardkey/policy/CodeOverlapsPinLaw", "c0", "(I)C"⟩ : MethodName) (head1 ((Jvm.Cond.code (⟨"com/example/wardkey/wardkey/policy/CodeOverlapsPinLaw", "c0", "(I)C"⟩ : MethodName) method_3_code 1 (some .char)) :: ws) ({ frames := 0, cells := 0, slots := 0, locals := 0 } : Room)) (fun a U => a = #[(.int p1)] ∧ Z.Warmed39 U.vm ∧ U.heap = h0) (fun _ _ _ _ _ => True) (fun _ U o U' => ∃ v L, o = .returned v ∧ Q_c0 Z p1 h0 n0 v U'.heap L ∧ FrameEnd U o U' L ({ frames := 0, cells := 0, slots := 0, locals := 0 } : Room).cells ({ frames := 0, cells := 0, slots := 0, locals := 0 } : Room).slots) := by
  refine MetFree.of_bodySF (plainFor_of_name pn_2) hisR ?_
  intro p e s m args below meth c s₁ Bd hml0 hP hK
  obtain ⟨rfl, hZ, hh⟩ := hP
  have hx := Bd.exec
  have hby := Bd.bytes
  have hml : c.maxLocals = 1 := hml0
  have hown : s.vm.findClass "com/example/wardkey/wardkey/policy/CodeOverlapsPinLaw" = some m.cls := findClass_of_methodNamed Bd.named
  have hnm := (name_of_methodNamed Bd.named Bd.method).1
  have X0 : Stand p l e ({ frames := 0, cells := 0, slots := 0, locals := 0 } : Room) s m #[(.int p1)] below meth c s₁ [] 0 0 := Stand.of_body Bd
  have e0 : s₁.heap = h0 := by rw [← hh, Bd.state]; rfl
  have N0 := Fr.nil n0
  have K0 : Keep h0 h0 [] := Keep.refl _ _
  suffices hG : Goes p e below (fun o U' => ∃ v L, o = .returned v ∧ Q_c0 Z p1 h0 n0 v U'.heap L ∧ FrameEnd s o U' L ({ frames := 0, cells := 0, slots := 0, locals := 0 } : Room).cells ({ frames := 0, cells := 0, slots := 0, locals := 0 } : Room).slots) s₁ (mkF m 0 #[.val (.int p1)] []) by
    obtain ⟨t, o, h1, h2⟩ := hG; exact ⟨t, o, castTop (ef_c0 m p1) h1, h2⟩
  refine Goes.step (T' := s₁) (g' := (mkF m 1 #[.val (.int p1)] [(.int p1)])) (fun _ k => XS.iloadN X0.here hx rfl (hb hby d_method_3_0) rfl  k) ?_
  refine Goes.step (T' := s₁) (g' := (mkF m 4 #[.val (.int p1)] [(.int (255 : Int32)), (.int p1)])) (fun _ k => XS.sipush X0.here hx rfl (hb hby d_method_3_1) k) ?_
  refine Goes.step (T' := s₁) (g' := (mkF m 5 #[.val (.int p1)] [(.int (p1 &&& (255 : Int32)))])) (fun _ k => XS.iand X0.here hx rfl (hb hby d_method_3_4) rfl k) ?_
  refine Goes.step (T' := s₁) (g' := (mkF m 6 #[.val (.int p1)] [(.int ((p1 &&& (255 : Int32)).toUInt32.toUInt16.toUInt32.toInt32))])) (fun _ k => XS.i2c X0.here hx rfl (hb hby d_method_3_5) rfl k) ?_
  obtain ⟨fs, hr, hrun, hended, hW, hsame⟩ := X0.leave (v := some (.int (nar .char ((p1 &&& (255 : Int32)).toUInt32.toUInt16.toUInt32.toInt32)))) (fun h => by rw [Bd.returns] at h; cases h)
  exact ⟨_, _, retN X0 hx (t := .char) Bd.returns (by simp) (hb hby d_method_3_6) hr, hrun, hended, _, _, rfl, (by show Q_c0 Z p1 h0 n0 _ s₁.heap _; rw [e0]; exact ⟨rfl, rfl, rfl⟩), ⟨_, rfl⟩, hW, hsame.mono (by decide) (by decide)⟩
theorem d_method_4_0 : decode method_4_code 0 = .ok (.iload_n 0, 1) := by decide +kernel
theorem d_method_4_1 : decode method_4_code 1 = .ok (.bipush 8, 2) := by decide +kernel
theorem d_method_4_3 : decode method_4_code 3 = .ok (.iushr, 1) := by decide +kernel
theorem d_method_4_4 : decode method_4_code 4 = .ok (.sipush 255, 3) := by decide +kernel
theorem d_method_4_7 : decode method_4_code 7 = .ok (.iand, 1) := by decide +kernel
theorem d_method_4_8 : decode method_4_code 8 = .ok (.i2c, 1) := by decide +kernel
theorem d_method_4_9 : decode method_4_code 9 = .ok (.ireturn, 1) := by decide +kernel
theorem ef_c1 (m : MethodId) (p1 : Int32) : entryFrame m #[(.int p1)] 1 = mkF m 0 #[.val (.int p1)] [] := by first | (simp [entryFrame, mkF, argsToLocals, Value.category, maxLocals]; done) | rfl
def Q_c1 (Z : State) (p1 : Int32) (h0 : Heap) (n0 : Nat) (v : Option Value) (h : Heap) (L : List Loc) : Prop := (v = some (.int (CA1 p1))) ∧ (L = []) ∧ (h = h0)
set_option maxRecDepth 65536 in
set_option maxHeartbeats 40000000 in
theorem rm_c1 (l : Launch) (Z : State) (a0 : Array Value) (hw : ∀ d ∈ tables_1, d.before a0 Z = true) (ws : List Jvm.Cond) (p1 : Int32) (h0 : Heap) (n0 : Nat) (O0 : Old Z n0 h0)   :
    MetFree l (⟨"com/example/wardkey/wardkey/policy/CodeOverlapsPinLaw", "c1", "(I)C"⟩ : MethodName) (head1 ((Jvm.Cond.code (⟨"com/example/wardkey/wardkey/policy/CodeOverlapsPinLaw", "c1", "(I)C"⟩ : MethodName) method_4_code 1 (some .char)) :: ws) ({ frames := 0, cells := 0, slots := 0, locals := 0 } : Room)) (fun a U => a = #[(.int p1)] ∧ Z.Warmed39 U.vm ∧ U.heap = h0) (fun _ _ _ _ _ => True) (fun _ U o U' => ∃ v L, o = .returned v ∧ Q_c1 Z p1 h0 n0 v U'.heap L ∧ FrameEnd U o U' L ({ frames := 0, cells := 0, slots := 0, locals := 0 } : Room).cells ({ frames := 0, cells := 0, slots := 0, locals := 0 } : Room).slots) := by
  refine MetFree.of_bodySF (plainFor_of_name pn_2) hisR ?_
  intro p e s m args below meth c s₁ Bd hml0 hP hK
  obtain ⟨rfl, hZ, hh⟩ := hP
  have hx := Bd.exec
  have hby := Bd.bytes
  have hml : c.maxLocals = 1 := hml0
  have hown : s.vm.findClass "com/example/wardkey/wardkey/policy/CodeOverlapsPinLaw" = some m.cls := findClass_of_methodNamed Bd.named
  have hnm := (name_of_methodNamed Bd.named Bd.method).1
  have X0 : Stand p l e ({ frames := 0, cells := 0, slots := 0, locals := 0 } : Room) s m #[(.int p1)] below meth c s₁ [] 0 0 := Stand.of_body Bd
  have e0 : s₁.heap = h0 := by rw [← hh, Bd.state]; rfl
  have N0 := Fr.nil n0
  have K0 : Keep h0 h0 [] := Keep.refl _ _
  suffices hG : Goes p e below (fun o U' => ∃ v L, o = .returned v ∧ Q_c1 Z p1 h0 n0 v U'.heap L ∧ FrameEnd s o U' L ({ frames := 0, cells := 0, slots := 0, locals := 0 } : Room).cells ({ frames := 0, cells := 0, slots := 0, locals := 0 } : Room).slots) s₁ (mkF m 0 #[.val (.int p1)] []) by
    obtain ⟨t, o, h1, h2⟩ := hG; exact ⟨t, o, castTop (ef_c1 m p1) h1, h2⟩
  refine Goes.step (T' := s₁) (g' := (mkF m 1 #[.val (.int p1)] [(.int p1)])) (fun _ k => XS.iloadN X0.here hx rfl (hb hby d_method_4_0) rfl  k) ?_
  refine Goes.step (T' := s₁) (g' := (mkF m 3 #[.val (.int p1)] [(.int (8 : Int32)), (.int p1)])) (fun _ k => XS.bipush X0.here hx rfl (hb hby d_method_4_1) k) ?_
  refine Goes.step (T' := s₁) (g' := (mkF m 4 #[.val (.int p1)] [(.int ((p1.toUInt32 >>> ((8 : Int32) &&& 31).toUInt32).toInt32))])) (fun _ k => XS.iushr X0.here hx rfl (hb hby d_method_4_3) rfl k) ?_
  refine Goes.step (T' := s₁) (g' := (mkF m 7 #[.val (.int p1)] [(.int (255 : Int32)), (.int ((p1.toUInt32 >>> ((8 : Int32) &&& 31).toUInt32).toInt32))])) (fun _ k => XS.sipush X0.here hx rfl (hb hby d_method_4_4) k) ?_
  refine Goes.step (T' := s₁) (g' := (mkF m 8 #[.val (.int p1)] [(.int (((p1.toUInt32 >>> ((8 : Int32) &&& 31).toUInt32).toInt32) &&& (255 : Int32)))])) (fun _ k => XS.iand X0.here hx rfl (hb hby d_method_4_7) rfl k) ?_
  refine Goes.step (T' := s₁) (g' := (mkF m 9 #[.val (.int p1)] [(.int ((((p1.toUInt32 >>> ((8 : Int32) &&& 31).toUInt32).toInt32) &&& (255 : Int32)).toUInt32.toUInt16.toUInt32.toInt32))])) (fun _ k => XS.i2c X0.here hx rfl (hb hby d_method_4_8) rfl k) ?_
  obtain ⟨fs, hr, hrun, hended, hW, hsame⟩ := X0.leave (v := some (.int (nar .char ((((p1.toUInt32 >>> ((8 : Int32) &&& 31).toUInt32).toInt32) &&& (255 : Int32)).toUInt32.toUInt16.toUInt32.toInt32)))) (fun h => by rw [Bd.returns] at h; cases h)
  exact ⟨_, _, retN X0 hx (t := .char) Bd.returns (by simp) (hb hby d_method_4_9) hr, hrun, hended, _, _, rfl, (by show Q_c1 Z p1 h0 n0 _ s₁.heap _; rw [e0]; exact ⟨rfl, rfl, rfl⟩), ⟨_, rfl⟩, hW, hsame.mono (by decide) (by decide)⟩
theorem d_method_5_0 : decode method_5_code 0 = .ok (.iload_n 0, 1) := by decide +kernel
theorem d_method_5_1 : decode method_5_code 1 = .ok (.invokestatic 13, 3) := by decide +kernel
theorem pd_2 : parseMethodDescriptor "(I)I" = some ⟨[.int], some .int⟩ := by decide +kernel
theorem d_method_5_4 : decode method_5_code 4 = .ok (.istore_n 1, 1) := by decide +kernel
theorem d_method_5_5 : decode method_5_code 5 = .ok (.iload_n 1, 1) := by decide +kernel
theorem d_method_5_6 : decode method_5_code 6 = .ok (.ifCond .ne 14, 3) := by decide +kernel
theorem d_method_5_9 : decode method_5_code 9 = .ok (.new 19, 3) := by decide +kernel
theorem d_method_5_12 : decode method_5_code 12 = .ok (.dup, 1) := by decide +kernel
theorem d_method_5_13 : decode method_5_code 13 = .ok (.iconst 0, 1) := by decide +kernel
theorem d_method_5_14 : decode method_5_code 14 = .ok (.newarray .char, 2) := by decide +kernel
theorem d_method_5_16 : decode method_5_code 16 = .ok (.invokespecial 21, 3) := by decide +kernel
theorem pd_3 : parseMethodDescriptor "([C)V" = some ⟨[(.array .char)], none⟩ := by decide +kernel
theorem d_method_5_19 : decode method_5_code 19 = .ok (.areturn, 1) := by decide +kernel
theorem d_method_5_20 : decode method_5_code 20 = .ok (.iload_n 1, 1) := by decide +kernel
theorem d_method_5_21 : decode method_5_code 21 = .ok (.iconst 1, 1) := by decide +kernel
theorem d_method_5_22 : decode method_5_code 22 = .ok (.if_icmp .ne 23, 3) := by decide +kernel
theorem d_method_5_25 : decode method_5_code 25 = .ok (.iconst 1, 1) := by decide +kernel
theorem d_method_5_26 : decode method_5_code 26 = .ok (.newarray .char, 2) := by decide +kernel
theorem d_method_5_28 : decode method_5_code 28 = .ok (.astore_n 2, 1) := by decide +kernel
theorem d_method_5_29 : decode method_5_code 29 = .ok (.aload_n 2, 1) := by decide +kernel
theorem d_method_5_30 : decode method_5_code 30 = .ok (.iconst 0, 1) := by decide +kernel
theorem d_method_5_31 : decode method_5_code 31 = .ok (.iload_n 0, 1) := by decide +kernel
theorem d_method_5_32 : decode method_5_code 32 = .ok (.invokestatic 24, 3) := by decide +kernel
theorem pd_4 : parseMethodDescriptor "(I)C" = some ⟨[.int], some .char⟩ := by decide +kernel
theorem d_method_5_35 : decode method_5_code 35 = .ok (.castore, 1) := by decide +kernel
theorem d_method_5_36 : decode method_5_code 36 = .ok (.new 19, 3) := by decide +kernel
theorem d_method_5_39 : decode method_5_code 39 = .ok (.dup, 1) := by decide +kernel
theorem d_method_5_40 : decode method_5_code 40 = .ok (.aload_n 2, 1) := by decide +kernel
theorem d_method_5_41 : decode method_5_code 41 = .ok (.invokespecial 21, 3) := by decide +kernel
theorem d_method_5_44 : decode method_5_code 44 = .ok (.areturn, 1) := by decide +kernel
theorem d_method_5_45 : decode method_5_code 45 = .ok (.iconst 2, 1) := by decide +kernel
theorem d_method_5_46 : decode method_5_code 46 = .ok (.newarray .char, 2) := by decide +kernel
theorem d_method_5_48 : decode method_5_code 48 = .ok (.astore_n 2, 1) := by decide +kernel
theorem d_method_5_49 : decode method_5_code 49 = .ok (.aload_n 2, 1) := by decide +kernel
theorem d_method_5_50 : decode method_5_code 50 = .ok (.iconst 0, 1) := by decide +kernel
theorem d_method_5_51 : decode method_5_code 51 = .ok (.iload_n 0, 1) := by decide +kernel
theorem d_method_5_52 : decode method_5_code 52 = .ok (.invokestatic 24, 3) := by decide +kernel
theorem d_method_5_55 : decode method_5_code 55 = .ok (.castore, 1) := by decide +kernel
theorem d_method_5_56 : decode method_5_code 56 = .ok (.aload_n 2, 1) := by decide +kernel
theorem d_method_5_57 : decode method_5_code 57 = .ok (.iconst 1, 1) := by decide +kernel
theorem d_method_5_58 : decode method_5_code 58 = .ok (.iload_n 0, 1) := by decide +kernel
theorem d_method_5_59 : decode method_5_code 59 = .ok (.invokestatic 28, 3) := by decide +kernel
theorem d_method_5_62 : decode method_5_code 62 = .ok (.castore, 1) := by decide +kernel
theorem d_method_5_63 : decode method_5_code 63 = .ok (.new 19, 3) := by decide +kernel
theorem d_method_5_66 : decode method_5_code 66 = .ok (.dup, 1) := by decide +kernel
theorem d_method_5_67 : decode method_5_code 67 = .ok (.aload_n 2, 1) := by decide +kernel
theorem d_method_5_68 : decode method_5_code 68 = .ok (.invokespecial 21, 3) := by decide +kernel
theorem d_method_5_71 : decode method_5_code 71 = .ok (.areturn, 1) := by decide +kernel
theorem ef_text (m : MethodId) (p1 : Int32) : entryFrame m #[(.int p1)] 3 = mkF m 0 #[.val (.int p1), .unset, .unset] [] := by first | (simp [entryFrame, mkF, argsToLocals, Value.category, maxLocals]; done) | rfl
def Q_text (Z : State) (p1 : Int32) (h0 : Heap) (n0 : Nat) (v : Option Value) (h : Heap) (L : List Loc) : Prop := ∃ b : Addr, (v = some (.ref b)) ∧ (Fr n0 L) ∧ (Keep h0 h []) ∧ (h0.size ≤ b) ∧ (Exa Z h b "java/lang/String") ∧ (SX Z h b (TX p1))
set_option maxRecDepth 65536 in
set_option maxHeartbeats 40000000 in
theorem rm_text (l : Launch) (Z : State) (a0 : Array Value) (hw : ∀ d ∈ tables_1, d.before a0 Z = true) (ws : List Jvm.Cond) (hEL : EW Z a0 EL) (p1 : Int32) (h0 : Heap) (n0 : Nat) (O0 : Old Z n0 h0) (zcs : Int32) (Scs : Sta Z Z.heap "java/lang/String" "COMPACT_STRINGS" "Z" (.int zcs)) (hz_Scs : ¬ zcs = 0)  :
    MetFree l (⟨"com/example/wardkey/wardkey/policy/CodeOverlapsPinLaw", "text", "(I)Ljava/lang/String;"⟩ : MethodName) (head1 ((Jvm.Cond.code (⟨"com/example/wardkey/wardkey/policy/CodeOverlapsPinLaw", "text", "(I)Ljava/lang/String;"⟩ : MethodName) method_5_code 3 (some (.object "java/lang/String"))) :: ws) ({ frames := 4, cells := 6, slots := 12, locals := 66 } : Room)) (fun a U => a = #[(.int p1)] ∧ Z.Warmed39 U.vm ∧ U.heap = h0 ∧ CHv Z EL U.vm h0) (fun _ _ _ _ _ => True) (fun _ U o U' => ∃ v L, o = .returned v ∧ Q_text Z p1 h0 n0 v U'.heap L ∧ CHr Z EL U.vm U.heap U'.vm U'.heap ∧ ReturnedEndW U o U' L ({ frames := 4, cells := 6, slots := 12, locals := 66 } : Room).cells ({ frames := 4, cells := 6, slots := 12, locals := 66 } : Room).slots) := by
  refine MetFree.of_bodySF (plainFor_of_name pn_2) hisR ?_
  intro p e s m args below meth c s₁ Bd hml0 hP hK
  obtain ⟨rfl, hZ, hh, hCH⟩ := hP
  have hx := Bd.exec
  have hby := Bd.bytes
  have hml : c.maxLocals = 3 := hml0
  have hown : (s.setVm s.vm).vm.findClass "com/example/wardkey/wardkey/policy/CodeOverlapsPinLaw" = some m.cls := findClass_of_methodNamed Bd.named
  have hnm := (name_of_methodNamed Bd.named Bd.method).1
  have X0 : Stand p l e ({ frames := 4, cells := 6, slots := 12, locals := 66 } : Room) (s.setVm s.vm) m #[(.int p1)] below meth c s₁ [] 0 0 := Stand.of_body Bd
  have e0 : s₁.heap = h0 := by rw [← hh, Bd.state]; rfl
  have N0 := Fr.nil n0
  have K0 : Keep h0 h0 [] := Keep.refl _ _
  have C0 : CHr Z EL s.vm h0 s.vm h0 := CHr.refl hCH
  have hS0 : s.Since s.vm h0.size := own_since0 s _
  have hk0 : h0.size ≤ h0.size := Nat.le_refl _
  suffices hG : Goes p e below (fun o U' => ∃ v L, o = .returned v ∧ Q_text Z p1 h0 n0 v U'.heap L ∧ CHr Z EL s.vm s.heap U'.vm U'.heap ∧ ReturnedEndW s o U' L ({ frames := 4, cells := 6, slots := 12, locals := 66 } : Room).cells ({ frames := 4, cells := 6, slots := 12, locals := 66 } : Room).slots) s₁ (mkF m 0 #[.val (.int p1), .unset, .unset] []) by
    obtain ⟨t, o, h1, h2⟩ := hG; exact ⟨t, o, castTop (ef_text m p1) h1, h2⟩
  refine Goes.step (T' := s₁) (g' := (mkF m 1 #[.val (.int p1), .unset, .unset] [(.int p1)])) (fun _ k => XS.iloadN X0.here hx rfl (hb hby d_method_5_0) rfl  k) ?_
  obtain ⟨_, _, ⟨T13, L13, k13, n13⟩, -, X13, ⟨Lc13, hQ13, l13, y13, z13⟩, st13⟩ := Jvm.LawKit.callS X0 hx (y := (⟨"com/example/wardkey/wardkey/policy/CodeOverlapsPinLaw", "len", "(I)I"⟩ : MethodName)) hown (mvT hZ (hw _ (List.mem_of_getElem? (i := 4) rfl))) (mvT hZ (hw _ (List.mem_of_getElem? (i := 5) rfl))) (mvT hZ (hw _ (List.mem_of_getElem? (i := 2) rfl))) (mvT hZ (hw _ (List.mem_of_getElem? (i := 6) rfl))) (by decide) (backOf (W := 0) (rm_len l Z a0 hw [] p1 h0 n0 O0  ) hZ (hw _ (List.mem_of_getElem? (i := 6) rfl)) (hw _ (List.mem_of_getElem? (i := 2) rfl)) (by decide) (by decide)) (g := (mkF m 1 #[.val (.int p1), .unset, .unset] [(.int p1)])) rfl (by rw [hml]; rfl) (argsL := [(.int p1)]) (rest := []) (lenOf pd_2 rfl) rfl (by show 2 * 0 + _ ≤ _; exact Nat.le_of_eq rfl) (hb hby d_method_5_1) (fun _ _ => ⟨rfl, e0, (by decide : 0 + 0 ≤ _), (by decide : 0 + 0 ≤ _)⟩)
  dsimp only [Pt.U, Pt.locs, Pt.cells, Pt.slots] at X13 l13 y13 z13 st13 hQ13
  subst l13 y13 z13
  obtain ⟨rfl, rfl, e13⟩ := hQ13
  replace N0 := Fr.app N0 (Fr.nil n0)
  refine Goes.step (T' := T13) (g' := (mkF m 4 #[.val (.int p1), .unset, .unset] [(.int (LN p1))])) st13 ?_
  refine Goes.step (T' := T13) (g' := (mkF m 5 #[.val (.int p1), .val (.int (LN p1)), .unset] [])) (fun _ k => XS.istoreN X13.here hx rfl (hb hby d_method_5_4) rfl (l' := #[.val (.int p1), .val (.int (LN p1)), .unset]) rfl k) ?_
  refine Goes.step (T' := T13) (g' := (mkF m 6 #[.val (.int p1), .val (.int (LN p1)), .unset] [(.int (LN p1))])) (fun _ k => XS.iloadN X13.here hx rfl (hb hby d_method_5_5) rfl  k) ?_
  by_cases hc6_14 : (LN p1) = (0 : Int32)
  ·
    refine Goes.step (T' := T13) (g' := (mkF m 9 #[.val (.int p1), .val (.int (LN p1)), .unset] [])) (fun _ k => XS.ifNo X13.here hx rfl (hb hby d_method_5_6) rfl ((if0 _ _).trans (teq hc6_14).2) k) ?_
    obtain ⟨T15, h15, X15, e15, Ex15, A15, D15, -, st15⟩ := newO X13 hx hZ hown (hw _ (List.mem_of_getElem? (i := 11) rfl)) (hw _ (List.mem_of_getElem? (i := 12) rfl)) (hw _ (List.mem_of_getElem? (i := 13) rfl)) e13 (g := (mkF m 9 #[.val (.int p1), .val (.int (LN p1)), .unset] [])) rfl (hb hby d_method_5_9) (by decide) (by decide)
    obtain ⟨b15, gg15⟩ : ∃ z, z = h0.size := ⟨_, rfl⟩
    rw [← gg15] at A15 D15 st15
    have g_b15 : n0 ≤ b15 := Nat.le_trans (own_n0 O0) (Nat.le_of_eq gg15.symm)
    have sz_b15 : h0.size ≤ b15 := Nat.le_trans K0.1 (Nat.le_of_eq gg15.symm)
    have S_b15 := (Safe.new (Z := Z) (EL := EL) (vm := s.vm) (Nat.le_of_eq gg15.symm)).ext Ex15 C0.1
    replace O0 := O0.ext Ex15
    replace K0 := K0.ext Ex15
    replace C0 := C0.trans (CHr.ext Ex15 C0.1)
    replace hk0 := Nat.le_trans hk0 Ex15.1
    have E_b15 := A15
    have F_b15_value : Fld Z h15 b15 "java/lang/String" "value" "[B" .null := D15 (Or.inr (hw _ (List.mem_of_getElem? (i := 27) rfl))) (ty := (.array .byte)) (by decide)
    have F_b15_coder : Fld Z h15 b15 "java/lang/String" "coder" "B" (.int (0 : Int32)) := D15 (Or.inr (hw _ (List.mem_of_getElem? (i := 28) rfl))) (ty := .byte) (by decide)
    refine Goes.step (T' := T15) (g' := (mkF m 12 #[.val (.int p1), .val (.int (LN p1)), .unset] [(.ref b15)])) st15 ?_
    clear D15 A15
    refine Goes.step (T' := T15) (g' := (mkF m 13 #[.val (.int p1), .val (.int (LN p1)), .unset] [(.ref b15), (.ref b15)])) (fun _ k => XS.dup X15.here hx rfl (hb hby d_method_5_12) rfl rfl k) ?_
    refine Goes.step (T' := T15) (g' := (mkF m 14 #[.val (.int p1), .val (.int (LN p1)), .unset] [(.int (0 : Int32)), (.ref b15), (.ref b15)])) (fun _ k => XS.iconst X15.here hx rfl (hb hby d_method_5_13) k) ?_
    obtain ⟨T16, h16, kc16, X16, e16, Ex16, A16, st16⟩ := newP X15 hx hZ (hw _ (List.mem_of_getElem? (i := 14) rfl)) e15 (g := (mkF m 14 #[.val (.int p1), .val (.int (LN p1)), .unset] [(.int (0 : Int32)), (.ref b15), (.ref b15)])) rfl (hb hby d_method_5_14) rfl (by decide) (cap := 0) (by decide) (by decide) (by decide) (by decide)
    obtain ⟨b16, gg16⟩ : ∃ z, z = h15.size := ⟨_, rfl⟩
    rw [← gg16] at A16 st16
    have g_b16 : n0 ≤ b16 := Nat.le_trans (own_n0 O0) (Nat.le_of_eq gg16.symm)
    have sz_b16 : h0.size ≤ b16 := Nat.le_trans K0.1 (Nat.le_of_eq gg16.symm)
    have ne_b15_b16 : b15 ≠ b16 := Nat.ne_of_lt (Nat.lt_of_lt_of_le E_b15.lt (Nat.le_of_eq gg16.symm))
    have S_b16 := (Safe.new (Z := Z) (EL := EL) (vm := s.vm) (Nat.le_of_eq gg16.symm)).ext Ex16 C0.1
    replace S_b15 := S_b15.ext Ex16 C0.1
    replace E_b15 := E_b15.ext Ex16
    replace F_b15_value := F_b15_value.ext Ex16
    replace F_b15_coder := F_b15_coder.ext Ex16
    replace O0 := O0.ext Ex16
    replace K0 := K0.ext Ex16
    replace C0 := C0.trans (CHr.ext Ex16 C0.1)
    replace hk0 := Nat.le_trans hk0 Ex16.1
    have V_b16 : Arv Z h16 b16 kc16 .char (0 : Int32) [] (.int (0 : Int32)) := (Arv.new A16 (by decide)).pad (pad_rep [] (.int (0 : Int32)) 0)
    refine Goes.step (T' := T16) (g' := (mkF m 16 #[.val (.int p1), .val (.int (LN p1)), .unset] [(.ref b16), (.ref b15), (.ref b15)])) st16 ?_
    obtain ⟨_, _, ⟨T17, L17, k17, n17⟩, -, X17, hS17, hgr17, ⟨Lc17, hQ17, l17, y17, z17, Ch17⟩, st17⟩ := X16.specialBackS hx (y := (⟨"java/lang/String", "<init>", "([C)V"⟩ : MethodName)) rfl hown (mvT hZ (hw _ (List.mem_of_getElem? (i := 15) rfl))) (mvT hZ (hw _ (List.mem_of_getElem? (i := 16) rfl))) (mvT hZ (hw _ (List.mem_of_getElem? (i := 17) rfl))) (by decide) (backOfSH (W := 1) (rm_initCe l Z a0 hw [] hEL b15 b16 (kc16) ((.int (0 : Int32))) h16 n0 O0  E_b15 F_b15_value F_b15_coder V_b16 (Ne.symm ne_b15_b16) g_b15) hZ (hw _ (List.mem_of_getElem? (i := 17) rfl)) (hw _ (List.mem_of_getElem? (i := 13) rfl)) (by decide) (by decide) hEL C0.1) (g := (mkF m 16 #[.val (.int p1), .val (.int (LN p1)), .unset] [(.ref b16), (.ref b15), (.ref b15)])) rfl (by rw [hml]; rfl) (Steps.refl _) (a := b15) (argsL := [(.ref b16)]) (rest := [(.ref b15)]) (lenOf pd_3 rfl) rfl (by show 2 * 0 + _ ≤ _; exact Nat.le_of_eq rfl) (hb hby d_method_5_16) (fun _ _ => ⟨rfl, e16, (by decide : 2 + 4 ≤ _), (by decide : 4 + 8 ≤ _)⟩)
    dsimp only [Pt.U, Pt.locs, Pt.cells, Pt.slots] at X17 l17 y17 z17 st17 hQ17 hS17 hgr17 Ch17
    subst l17 y17 z17
    obtain ⟨h17, e17⟩ : ∃ z, T17.heap = z := ⟨_, rfl⟩
    rw [e17] at hQ17 Ch17
    obtain ⟨t_17, kt_17, rfl, Nq17, Kq17, E_b15_q17, F_b15_coder_q17, F_b15_value_q17, V_t_17_q17⟩ := hQ17
    replace N0 := Fr.app N0 Nq17
    replace S_b15 := Ch17.safe E_b15.lt S_b15
    replace S_b16 := Ch17.safe V_b16.lt S_b16
    replace C0 := C0.trans Ch17
    clear E_b15
    clear F_b15_value
    clear F_b15_coder
    replace V_b16 := V_b16.keep Kq17 (ninS (Ne.symm ne_b15_b16) nin0)
    replace O0 := O0.keep Kq17 (allS g_b15 all0)
    replace K0 := K0.trans Kq17 (allS (Or.inr sz_b15) all0)
    have E_b15 := E_b15_q17
    have F_b15_coder := F_b15_coder_q17
    have F_b15_value := F_b15_value_q17
    have V_t_17 := V_t_17_q17
    obtain ⟨X17, hS17, hZ17, hown17⟩ := rebS hS0 (by rw [e16]; exact hk0) X17 hS17 hgr17 hZ hown
    rw [e17] at hS17
    clear hS0 hk0 hZ hown
    have hS0 := hS17
    have hk0 : h17.size ≤ h17.size := Nat.le_refl _
    have hZ := hZ17
    have hown := hown17
    refine Goes.run (T' := T17) (g' := (mkF m 19 #[.val (.int p1), .val (.int (LN p1)), .unset] [(.ref b15)])) st17 ?_
    obtain ⟨fs, hr, hrun, hended, hend⟩ := X17.leaveW hS0 (by rw [e17]; exact hk0) (v := some (.ref b15)) (fun h => by rw [Bd.returns] at h; cases h)
    have G_b15 : SX Z h17 b15 [] := ⟨E_b15, F_b15_coder, (by simp), _, _, F_b15_value, V_t_17⟩
    exact ⟨_, _, retOut X17 hx Bd.returns rfl (Or.inr (Or.inr (Or.inr (Or.inr ⟨rfl, rfl, rfl⟩)))) (hb hby d_method_5_19) hr, hrun, hended, _, _, rfl, (by show Q_text Z p1 h0 n0 _ T17.heap _; rw [e17]; exact ⟨b15, rfl, N0, K0, sz_b15, E_b15, (by rw [show TX p1 = [] from if_pos hc6_14]; exact G_b15)⟩), (by show CHr Z EL s.vm s.heap T17.vm T17.heap; rw [e17, hh]; exact C0.trans (CHv.at X17 hZ hEL C0.1)), own_mono hend (by decide) (by decide)⟩
  ·
    refine Goes.step (T' := T13) (g' := (mkF m 20 #[.val (.int p1), .val (.int (LN p1)), .unset] [])) (fun _ k => XS.ifYes X13.here hx rfl (pc0 := 6) (pc' := 20) rfl (hb hby d_method_5_6) rfl ((if0 _ _).trans (feq hc6_14).2) (by decide) (by decide) k) ?_
    refine Goes.step (T' := T13) (g' := (mkF m 21 #[.val (.int p1), .val (.int (LN p1)), .unset] [(.int (LN p1))])) (fun _ k => XS.iloadN X13.here hx rfl (hb hby d_method_5_20) rfl  k) ?_
    refine Goes.step (T' := T13) (g' := (mkF m 22 #[.val (.int p1), .val (.int (LN p1)), .unset] [(.int (1 : Int32)), (.int (LN p1))])) (fun _ k => XS.iconst X13.here hx rfl (hb hby d_method_5_21) k) ?_
    by_cases hc22_18 : (LN p1) = (1 : Int32)
    ·
      refine Goes.step (T' := T13) (g' := (mkF m 25 #[.val (.int p1), .val (.int (LN p1)), .unset] [])) (fun _ k => XS.icmpNo X13.here hx rfl (hb hby d_method_5_22) rfl (teq hc22_18).2 k) ?_
      refine Goes.step (T' := T13) (g' := (mkF m 26 #[.val (.int p1), .val (.int (LN p1)), .unset] [(.int (1 : Int32))])) (fun _ k => XS.iconst X13.here hx rfl (hb hby d_method_5_25) k) ?_
      obtain ⟨T19, h19, kc19, X19, e19, Ex19, A19, st19⟩ := newP X13 hx hZ (hw _ (List.mem_of_getElem? (i := 14) rfl)) e13 (g := (mkF m 26 #[.val (.int p1), .val (.int (LN p1)), .unset] [(.int (1 : Int32))])) rfl (hb hby d_method_5_26) rfl (by decide) (cap := 1) (by decide) (by decide) (by decide) (by decide)
      obtain ⟨b19, gg19⟩ : ∃ z, z = h0.size := ⟨_, rfl⟩
      rw [← gg19] at A19 st19
      have g_b19 : n0 ≤ b19 := Nat.le_trans (own_n0 O0) (Nat.le_of_eq gg19.symm)
      have sz_b19 : h0.size ≤ b19 := Nat.le_trans K0.1 (Nat.le_of_eq gg19.symm)
      have S_b19 := (Safe.new (Z := Z) (EL := EL) (vm := s.vm) (Nat.le_of_eq gg19.symm)).ext Ex19 C0.1
      replace O0 := O0.ext Ex19
      replace K0 := K0.ext Ex19
      replace C0 := C0.trans (CHr.ext Ex19 C0.1)
      replace hk0 := Nat.le_trans hk0 Ex19.1
      have V_b19 : Arv Z h19 b19 kc19 .char (1 : Int32) [(.int (0 : Int32))] (.int (0 : Int32)) := (Arv.new A19 (by decide)).pad (pad_rep [] (.int (0 : Int32)) 1)
      refine Goes.step (T' := T19) (g' := (mkF m 28 #[.val (.int p1), .val (.int (LN p1)), .unset] [(.ref b19)])) st19 ?_
      refine Goes.step (T' := T19) (g' := (mkF m 29 #[.val (.int p1), .val (.int (LN p1)), .val (.ref b19)] [])) (fun _ k => XS.astoreN X19.here hx rfl (hb hby d_method_5_28) rfl rfl (l' := #[.val (.int p1), .val (.int (LN p1)), .val (.ref b19)]) rfl k) ?_
      refine Goes.step (T' := T19) (g' := (mkF m 30 #[.val (.int p1), .val (.int (LN p1)), .val (.ref b19)] [(.ref b19)])) (fun _ k => XS.aloadN X19.here hx rfl (hb hby d_method_5_29) rfl rfl k) ?_
      refine Goes.step (T' := T19) (g' := (mkF m 31 #[.val (.int p1), .val (.int (LN p1)), .val (.ref b19)] [(.int (0 : Int32)), (.ref b19)])) (fun _ k => XS.iconst X19.here hx rfl (hb hby d_method_5_30) k) ?_
      refine Goes.step (T' := T19) (g' := (mkF m 32 #[.val (.int p1), .val (.int (LN p1)), .val (.ref b19)] [(.int p1), (.int (0 : Int32)), (.ref b19)])) (fun _ k => XS.iloadN X19.here hx rfl (hb hby d_method_5_31) rfl  k) ?_
      obtain ⟨_, _, ⟨T20, L20, k20, n20⟩, -, X20, ⟨Lc20, hQ20, l20, y20, z20⟩, st20⟩ := Jvm.LawKit.callS X19 hx (y := (⟨"com/example/wardkey/wardkey/policy/CodeOverlapsPinLaw", "c0", "(I)C"⟩ : MethodName)) hown (mvT hZ (hw _ (List.mem_of_getElem? (i := 73) rfl))) (mvT hZ (hw _ (List.mem_of_getElem? (i := 74) rfl))) (mvT hZ (hw _ (List.mem_of_getElem? (i := 2) rfl))) (mvT hZ (hw _ (List.mem_of_getElem? (i := 75) rfl))) (by decide) (backOf (W := 2) (rm_c0 l Z a0 hw [] p1 h19 n0 O0  ) hZ (hw _ (List.mem_of_getElem? (i := 75) rfl)) (hw _ (List.mem_of_getElem? (i := 2) rfl)) (by decide) (by decide)) (g := (mkF m 32 #[.val (.int p1), .val (.int (LN p1)), .val (.ref b19)] [(.int p1), (.int (0 : Int32)), (.ref b19)])) rfl (by rw [hml]; rfl) (argsL := [(.int p1)]) (rest := [(.int (0 : Int32)), (.ref b19)]) (lenOf pd_4 rfl) rfl (by show 2 * 0 + _ ≤ _; exact Nat.le_of_eq rfl) (hb hby d_method_5_32) (fun _ _ => ⟨rfl, e19, (by decide : 1 + 0 ≤ _), (by decide : 1 + 0 ≤ _)⟩)
      dsimp only [Pt.U, Pt.locs, Pt.cells, Pt.slots] at X20 l20 y20 z20 st20 hQ20
      subst l20 y20 z20
      obtain ⟨rfl, rfl, e20⟩ := hQ20
      replace N0 := Fr.app N0 (Fr.nil n0)
      refine Goes.step (T' := T20) (g' := (mkF m 35 #[.val (.int p1), .val (.int (LN p1)), .val (.ref b19)] [(.int (CA0 p1)), (.int (0 : Int32)), (.ref b19)])) st20 ?_
      obtain ⟨cl21, Ar21, q21, Sz21, Nn21, Hs21, Gs21⟩ := (id V_b19 : Arv Z h19 b19 kc19 .char (1 : Int32) [(.int (0 : Int32))] (.int (0 : Int32)))
      obtain ⟨T21, h21, X21, e21, W21, st21⟩ := stC X20 hx hZ e20 Ar21 (j := (0 : Int32)) (inb_of Sz21 ⟨by decide, by decide⟩) (g := (mkF m 35 #[.val (.int p1), .val (.int (LN p1)), .val (.ref b19)] [(.int (CA0 p1)), (.int (0 : Int32)), (.ref b19)])) rfl rfl (hb hby d_method_5_35)
      replace V_b19 : Arv Z h21 b19 kc19 .char (1 : Int32) [(.int (nar .char (CA0 p1)))] (.int (0 : Int32)) := Arv.set Ar21 q21 Sz21 Nn21 Hs21 Gs21 (fits_nar_char _) W21 0 rfl (Nat.le_of_ble_eq_true rfl)
      replace N0 := Fr.snoc X21 N0 g_b19
      have Sw := S_b19
      replace S_b19 := Safe.wr W21 Sw C0.1 S_b19
      replace C0 := C0.trans (CHr.wr W21 Sw C0.1)
      replace hk0 := Nat.le_trans hk0 (Nat.le_of_eq W21.size.symm)
      replace O0 := O0.wr W21 g_b19
      replace K0 := K0.wr W21 (Or.inr sz_b19)
      refine Goes.step (T' := T21) (g' := (mkF m 36 #[.val (.int p1), .val (.int (LN p1)), .val (.ref b19)] [])) st21 ?_
      obtain ⟨T22, h22, X22, e22, Ex22, A22, D22, -, st22⟩ := newO X21 hx hZ hown (hw _ (List.mem_of_getElem? (i := 11) rfl)) (hw _ (List.mem_of_getElem? (i := 12) rfl)) (hw _ (List.mem_of_getElem? (i := 13) rfl)) e21 (g := (mkF m 36 #[.val (.int p1), .val (.int (LN p1)), .val (.ref b19)] [])) rfl (hb hby d_method_5_36) (by decide) (by decide)
      obtain ⟨b22, gg22⟩ : ∃ z, z = h21.size := ⟨_, rfl⟩
      rw [← gg22] at A22 D22 st22
      have g_b22 : n0 ≤ b22 := Nat.le_trans (own_n0 O0) (Nat.le_of_eq gg22.symm)
      have sz_b22 : h0.size ≤ b22 := Nat.le_trans K0.1 (Nat.le_of_eq gg22.symm)
      have ne_b19_b22 : b19 ≠ b22 := Nat.ne_of_lt (Nat.lt_of_lt_of_le V_b19.lt (Nat.le_of_eq gg22.symm))
      have S_b22 := (Safe.new (Z := Z) (EL := EL) (vm := s.vm) (Nat.le_of_eq gg22.symm)).ext Ex22 C0.1
      replace S_b19 := S_b19.ext Ex22 C0.1
      replace V_b19 := V_b19.ext Ex22
      replace O0 := O0.ext Ex22
      replace K0 := K0.ext Ex22
      replace C0 := C0.trans (CHr.ext Ex22 C0.1)
      replace hk0 := Nat.le_trans hk0 Ex22.1
      have E_b22 := A22
      have F_b22_value : Fld Z h22 b22 "java/lang/String" "value" "[B" .null := D22 (Or.inr (hw _ (List.mem_of_getElem? (i := 27) rfl))) (ty := (.array .byte)) (by decide)
      have F_b22_coder : Fld Z h22 b22 "java/lang/String" "coder" "B" (.int (0 : Int32)) := D22 (Or.inr (hw _ (List.mem_of_getElem? (i := 28) rfl))) (ty := .byte) (by decide)
      refine Goes.step (T' := T22) (g' := (mkF m 39 #[.val (.int p1), .val (.int (LN p1)), .val (.ref b19)] [(.ref b22)])) st22 ?_
      clear D22 A22
      refine Goes.step (T' := T22) (g' := (mkF m 40 #[.val (.int p1), .val (.int (LN p1)), .val (.ref b19)] [(.ref b22), (.ref b22)])) (fun _ k => XS.dup X22.here hx rfl (hb hby d_method_5_39) rfl rfl k) ?_
      refine Goes.step (T' := T22) (g' := (mkF m 41 #[.val (.int p1), .val (.int (LN p1)), .val (.ref b19)] [(.ref b19), (.ref b22), (.ref b22)])) (fun _ k => XS.aloadN X22.here hx rfl (hb hby d_method_5_40) rfl rfl k) ?_
      obtain ⟨_, _, ⟨T23, L23, k23, n23⟩, -, X23, ⟨Lc23, hQ23, l23, y23, z23⟩, st23⟩ := X22.specialBack hx (y := (⟨"java/lang/String", "<init>", "([C)V"⟩ : MethodName)) rfl hown (mvT hZ (hw _ (List.mem_of_getElem? (i := 15) rfl))) (mvT hZ (hw _ (List.mem_of_getElem? (i := 16) rfl))) (mvT hZ (hw _ (List.mem_of_getElem? (i := 17) rfl))) (by decide) (StrChars.Road.backV (W := 1) hZ (own_wBV hw) (kI := 4) (hw _ (List.mem_of_getElem? (i := 12) rfl)) (cs := ([(nar .char (CA0 p1))] : List Int32)) (bs := (([(nar .char (CA0 p1))] : List Int32)).map (fun c => c.toInt8.toInt32)) (n := 1) g_b22 (own_n0 O0) E_b22 F_b22_value F_b22_coder V_b19 (Scs.ext O0.2) hz_Scs rfl rfl (by decide) (by decide) (by simp only [List.mem_cons, List.not_mem_nil, or_false]; rintro c rfl; rw [show nar .char (CA0 p1) = CA0 p1 from own_narC _]; exact own_C0 _) rfl (by decide) (by decide)) (g := (mkF m 41 #[.val (.int p1), .val (.int (LN p1)), .val (.ref b19)] [(.ref b19), (.ref b22), (.ref b22)])) rfl (by rw [hml]; rfl) (Steps.refl _) (a := b22) (argsL := [(.ref b19)]) (rest := [(.ref b22)]) (lenOf pd_3 rfl) rfl (by show 2 * 0 + _ ≤ _; exact Nat.le_of_eq rfl) (hb hby d_method_5_41) (fun _ _ => ⟨rfl, e22, (by decide : 2 + 1 ≤ _), (by decide : 5 + 1 ≤ _)⟩)
      dsimp only [Pt.U, Pt.locs, Pt.cells, Pt.slots] at X23 l23 y23 z23 st23 hQ23
      subst l23 y23 z23
      obtain ⟨h23, e23⟩ : ∃ z, T23.heap = z := ⟨_, rfl⟩
      rw [e23] at hQ23
      obtain ⟨rfl, Nq23, Kq23, E_q23, Fc_q23, t23, kb23, gt23, fr23, net23, Fv_q23, V_q23⟩ := hQ23
      replace N0 := Fr.app N0 Nq23
      have g_t23 : n0 ≤ t23 := Nat.le_trans (own_n0 O0) fr23
      have sz_t23 : h0.size ≤ t23 := Nat.le_trans K0.1 fr23
      have ne_b19_t23 : b19 ≠ t23 := Nat.ne_of_lt (Nat.lt_of_lt_of_le V_b19.lt fr23)
      have ne_b22_t23 : b22 ≠ t23 := Nat.ne_of_lt (Nat.lt_of_lt_of_le E_b22.lt fr23)
      have Ss := (sfS S_b22 sf0)
      replace S_b19 := S_b19.keep Kq23 Ss C0.1
      replace S_b22 := S_b22.keep Kq23 Ss C0.1
      replace C0 := C0.trans (CHr.keep Kq23 Ss C0.1)
      replace hk0 := Nat.le_trans hk0 Kq23.1
      replace V_b19 := V_b19.keep Kq23 (ninS ne_b19_b22 nin0)
      clear E_b22
      clear F_b22_value
      clear F_b22_coder
      replace O0 := O0.keep Kq23 (allS g_b22 all0)
      replace K0 := K0.trans Kq23 (allS (Or.inr sz_b22) all0)
      have E_b22 := E_q23
      have F_b22_coder := Fc_q23
      have F_b22_value := Fv_q23
      have V_t23 := V_q23
      refine Goes.run (T' := T23) (g' := (mkF m 44 #[.val (.int p1), .val (.int (LN p1)), .val (.ref b19)] [(.ref b22)])) st23 ?_
      obtain ⟨fs, hr, hrun, hended, hend⟩ := X23.leaveW hS0 (by rw [e23]; exact hk0) (v := some (.ref b22)) (fun h => by rw [Bd.returns] at h; cases h)
      rw [show nar .char (CA0 p1) = CA0 p1 from own_narC _] at V_t23
      have G_b22 : SX Z h23 b22 [CA0 p1] := ⟨E_b22, F_b22_coder, (by simp only [List.mem_cons, List.not_mem_nil, or_false]; rintro c rfl; exact own_C0 _), _, _, F_b22_value, V_t23⟩
      exact ⟨_, _, retOut X23 hx Bd.returns rfl (Or.inr (Or.inr (Or.inr (Or.inr ⟨rfl, rfl, rfl⟩)))) (hb hby d_method_5_44) hr, hrun, hended, _, _, rfl, (by show Q_text Z p1 h0 n0 _ T23.heap _; rw [e23]; exact ⟨b22, rfl, N0, K0, sz_b22, E_b22, (by rw [show TX p1 = [CA0 p1] from (if_neg hc6_14).trans (if_pos hc22_18)]; exact G_b22)⟩), (by show CHr Z EL s.vm s.heap T23.vm T23.heap; rw [e23, hh]; exact C0.trans (CHv.at X23 hZ hEL C0.1)), own_mono hend (by decide) (by decide)⟩
    ·
      refine Goes.step (T' := T13) (g' := (mkF m 45 #[.val (.int p1), .val (.int (LN p1)), .unset] [])) (fun _ k => XS.icmpYes X13.here hx rfl (pc0 := 22) (pc' := 45) rfl (hb hby d_method_5_22) rfl (feq hc22_18).2 (by decide) (by decide) k) ?_
      refine Goes.step (T' := T13) (g' := (mkF m 46 #[.val (.int p1), .val (.int (LN p1)), .unset] [(.int (2 : Int32))])) (fun _ k => XS.iconst X13.here hx rfl (hb hby d_method_5_45) k) ?_
      obtain ⟨T24, h24, kc24, X24, e24, Ex24, A24, st24⟩ := newP X13 hx hZ (hw _ (List.mem_of_getElem? (i := 14) rfl)) e13 (g := (mkF m 46 #[.val (.int p1), .val (.int (LN p1)), .unset] [(.int (2 : Int32))])) rfl (hb hby d_method_5_46) rfl (by decide) (cap := 2) (by decide) (by decide) (by decide) (by decide)
      obtain ⟨b24, gg24⟩ : ∃ z, z = h0.size := ⟨_, rfl⟩
      rw [← gg24] at A24 st24
      have g_b24 : n0 ≤ b24 := Nat.le_trans (own_n0 O0) (Nat.le_of_eq gg24.symm)
      have sz_b24 : h0.size ≤ b24 := Nat.le_trans K0.1 (Nat.le_of_eq gg24.symm)
      have S_b24 := (Safe.new (Z := Z) (EL := EL) (vm := s.vm) (Nat.le_of_eq gg24.symm)).ext Ex24 C0.1
      replace O0 := O0.ext Ex24
      replace K0 := K0.ext Ex24
      replace C0 := C0.trans (CHr.ext Ex24 C0.1)
      replace hk0 := Nat.le_trans hk0 Ex24.1
      have V_b24 : Arv Z h24 b24 kc24 .char (2 : Int32) [(.int (0 : Int32)), (.int (0 : Int32))] (.int (0 : Int32)) := (Arv.new A24 (by decide)).pad (pad_rep [] (.int (0 : Int32)) 2)
      refine Goes.step (T' := T24) (g' := (mkF m 48 #[.val (.int p1), .val (.int (LN p1)), .unset] [(.ref b24)])) st24 ?_
      refine Goes.step (T' := T24) (g' := (mkF m 49 #[.val (.int p1), .val (.int (LN p1)), .val (.ref b24)] [])) (fun _ k => XS.astoreN X24.here hx rfl (hb hby d_method_5_48) rfl rfl (l' := #[.val (.int p1), .val (.int (LN p1)), .val (.ref b24)]) rfl k) ?_
      refine Goes.step (T' := T24) (g' := (mkF m 50 #[.val (.int p1), .val (.int (LN p1)), .val (.ref b24)] [(.ref b24)])) (fun _ k => XS.aloadN X24.here hx rfl (hb hby d_method_5_49) rfl rfl k) ?_
      refine Goes.step (T' := T24) (g' := (mkF m 51 #[.val (.int p1), .val (.int (LN p1)), .val (.ref b24)] [(.int (0 : Int32)), (.ref b24)])) (fun _ k => XS.iconst X24.here hx rfl (hb hby d_method_5_50) k) ?_
      refine Goes.step (T' := T24) (g' := (mkF m 52 #[.val (.int p1), .val (.int (LN p1)), .val (.ref b24)] [(.int p1), (.int (0 : Int32)), (.ref b24)])) (fun _ k => XS.iloadN X24.here hx rfl (hb hby d_method_5_51) rfl  k) ?_
      obtain ⟨_, _, ⟨T25, L25, k25, n25⟩, -, X25, ⟨Lc25, hQ25, l25, y25, z25⟩, st25⟩ := Jvm.LawKit.callS X24 hx (y := (⟨"com/example/wardkey/wardkey/policy/CodeOverlapsPinLaw", "c0", "(I)C"⟩ : MethodName)) hown (mvT hZ (hw _ (List.mem_of_getElem? (i := 73) rfl))) (mvT hZ (hw _ (List.mem_of_getElem? (i := 74) rfl))) (mvT hZ (hw _ (List.mem_of_getElem? (i := 2) rfl))) (mvT hZ (hw _ (List.mem_of_getElem? (i := 75) rfl))) (by decide) (backOf (W := 2) (rm_c0 l Z a0 hw [] p1 h24 n0 O0  ) hZ (hw _ (List.mem_of_getElem? (i := 75) rfl)) (hw _ (List.mem_of_getElem? (i := 2) rfl)) (by decide) (by decide)) (g := (mkF m 52 #[.val (.int p1), .val (.int (LN p1)), .val (.ref b24)] [(.int p1), (.int (0 : Int32)), (.ref b24)])) rfl (by rw [hml]; rfl) (argsL := [(.int p1)]) (rest := [(.int (0 : Int32)), (.ref b24)]) (lenOf pd_4 rfl) rfl (by show 2 * 0 + _ ≤ _; exact Nat.le_of_eq rfl) (hb hby d_method_5_52) (fun _ _ => ⟨rfl, e24, (by decide : 1 + 0 ≤ _), (by decide : 2 + 0 ≤ _)⟩)
      dsimp only [Pt.U, Pt.locs, Pt.cells, Pt.slots] at X25 l25 y25 z25 st25 hQ25
      subst l25 y25 z25
      obtain ⟨rfl, rfl, e25⟩ := hQ25
      replace N0 := Fr.app N0 (Fr.nil n0)
      refine Goes.step (T' := T25) (g' := (mkF m 55 #[.val (.int p1), .val (.int (LN p1)), .val (.ref b24)] [(.int (CA0 p1)), (.int (0 : Int32)), (.ref b24)])) st25 ?_
      obtain ⟨cl26, Ar26, q26, Sz26, Nn26, Hs26, Gs26⟩ := (id V_b24 : Arv Z h24 b24 kc24 .char (2 : Int32) [(.int (0 : Int32)), (.int (0 : Int32))] (.int (0 : Int32)))
      obtain ⟨T26, h26, X26, e26, W26, st26⟩ := stC X25 hx hZ e25 Ar26 (j := (0 : Int32)) (inb_of Sz26 ⟨by decide, by decide⟩) (g := (mkF m 55 #[.val (.int p1), .val (.int (LN p1)), .val (.ref b24)] [(.int (CA0 p1)), (.int (0 : Int32)), (.ref b24)])) rfl rfl (hb hby d_method_5_55)
      replace V_b24 : Arv Z h26 b24 kc24 .char (2 : Int32) [(.int (nar .char (CA0 p1))), (.int (0 : Int32))] (.int (0 : Int32)) := Arv.set Ar26 q26 Sz26 Nn26 Hs26 Gs26 (fits_nar_char _) W26 0 rfl (Nat.le_of_ble_eq_true rfl)
      replace N0 := Fr.snoc X26 N0 g_b24
      have Sw := S_b24
      replace S_b24 := Safe.wr W26 Sw C0.1 S_b24
      replace C0 := C0.trans (CHr.wr W26 Sw C0.1)
      replace hk0 := Nat.le_trans hk0 (Nat.le_of_eq W26.size.symm)
      replace O0 := O0.wr W26 g_b24
      replace K0 := K0.wr W26 (Or.inr sz_b24)
      refine Goes.step (T' := T26) (g' := (mkF m 56 #[.val (.int p1), .val (.int (LN p1)), .val (.ref b24)] [])) st26 ?_
      refine Goes.step (T' := T26) (g' := (mkF m 57 #[.val (.int p1), .val (.int (LN p1)), .val (.ref b24)] [(.ref b24)])) (fun _ k => XS.aloadN X26.here hx rfl (hb hby d_method_5_56) rfl rfl k) ?_
      refine Goes.step (T' := T26) (g' := (mkF m 58 #[.val (.int p1), .val (.int (LN p1)), .val (.ref b24)] [(.int (1 : Int32)), (.ref b24)])) (fun _ k => XS.iconst X26.here hx rfl (hb hby d_method_5_57) k) ?_
      refine Goes.step (T' := T26) (g' := (mkF m 59 #[.val (.int p1), .val (.int (LN p1)), .val (.ref b24)] [(.int p1), (.int (1 : Int32)), (.ref b24)])) (fun _ k => XS.iloadN X26.here hx rfl (hb hby d_method_5_58) rfl  k) ?_
      obtain ⟨_, _, ⟨T27, L27, k27, n27⟩, -, X27, ⟨Lc27, hQ27, l27, y27, z27⟩, st27⟩ := Jvm.LawKit.callS X26 hx (y := (⟨"com/example/wardkey/wardkey/policy/CodeOverlapsPinLaw", "c1", "(I)C"⟩ : MethodName)) hown (mvT hZ (hw _ (List.mem_of_getElem? (i := 76) rfl))) (mvT hZ (hw _ (List.mem_of_getElem? (i := 77) rfl))) (mvT hZ (hw _ (List.mem_of_getElem? (i := 2) rfl))) (mvT hZ (hw _ (List.mem_of_getElem? (i := 78) rfl))) (by decide) (backOf (W := 2) (rm_c1 l Z a0 hw [] p1 h26 n0 O0  ) hZ (hw _ (List.mem_of_getElem? (i := 78) rfl)) (hw _ (List.mem_of_getElem? (i := 2) rfl)) (by decide) (by decide)) (g := (mkF m 59 #[.val (.int p1), .val (.int (LN p1)), .val (.ref b24)] [(.int p1), (.int (1 : Int32)), (.ref b24)])) rfl (by rw [hml]; rfl) (argsL := [(.int p1)]) (rest := [(.int (1 : Int32)), (.ref b24)]) (lenOf pd_4 rfl) rfl (by show 2 * 0 + _ ≤ _; exact Nat.le_of_eq rfl) (hb hby d_method_5_59) (fun _ _ => ⟨rfl, e26, (by decide : 1 + 0 ≤ _), (by decide : 2 + 0 ≤ _)⟩)
      dsimp only [Pt.U, Pt.locs, Pt.cells, Pt.slots] at X27 l27 y27 z27 st27 hQ27
      subst l27 y27 z27
      obtain ⟨rfl, rfl, e27⟩ := hQ27
      replace N0 := Fr.app N0 (Fr.nil n0)
      refine Goes.step (T' := T27) (g' := (mkF m 62 #[.val (.int p1), .val (.int (LN p1)), .val (.ref b24)] [(.int (CA1 p1)), (.int (1 : Int32)), (.ref b24)])) st27 ?_
      obtain ⟨cl28, Ar28, q28, Sz28, Nn28, Hs28, Gs28⟩ := (id V_b24 : Arv Z h26 b24 kc24 .char (2 : Int32) [(.int (nar .char (CA0 p1))), (.int (0 : Int32))] (.int (0 : Int32)))
      obtain ⟨T28, h28, X28, e28, W28, st28⟩ := stC X27 hx hZ e27 Ar28 (j := (1 : Int32)) (inb_of Sz28 ⟨by decide, by decide⟩) (g := (mkF m 62 #[.val (.int p1), .val (.int (LN p1)), .val (.ref b24)] [(.int (CA1 p1)), (.int (1 : Int32)), (.ref b24)])) rfl rfl (hb hby d_method_5_62)
      replace V_b24 : Arv Z h28 b24 kc24 .char (2 : Int32) [(.int (nar .char (CA0 p1))), (.int (nar .char (CA1 p1)))] (.int (0 : Int32)) := Arv.set Ar28 q28 Sz28 Nn28 Hs28 Gs28 (fits_nar_char _) W28 1 rfl (Nat.le_of_ble_eq_true rfl)
      replace N0 := Fr.snoc X28 N0 g_b24
      have Sw := S_b24
      replace S_b24 := Safe.wr W28 Sw C0.1 S_b24
      replace C0 := C0.trans (CHr.wr W28 Sw C0.1)
      replace hk0 := Nat.le_trans hk0 (Nat.le_of_eq W28.size.symm)
      replace O0 := O0.wr W28 g_b24
      replace K0 := K0.wr W28 (Or.inr sz_b24)
      refine Goes.step (T' := T28) (g' := (mkF m 63 #[.val (.int p1), .val (.int (LN p1)), .val (.ref b24)] [])) st28 ?_
      obtain ⟨T29, h29, X29, e29, Ex29, A29, D29, -, st29⟩ := newO X28 hx hZ hown (hw _ (List.mem_of_getElem? (i := 11) rfl)) (hw _ (List.mem_of_getElem? (i := 12) rfl)) (hw _ (List.mem_of_getElem? (i := 13) rfl)) e28 (g := (mkF m 63 #[.val (.int p1), .val (.int (LN p1)), .val (.ref b24)] [])) rfl (hb hby d_method_5_63) (by decide) (by decide)
      obtain ⟨b29, gg29⟩ : ∃ z, z = h28.size := ⟨_, rfl⟩
      rw [← gg29] at A29 D29 st29
      have g_b29 : n0 ≤ b29 := Nat.le_trans (own_n0 O0) (Nat.le_of_eq gg29.symm)
      have sz_b29 : h0.size ≤ b29 := Nat.le_trans K0.1 (Nat.le_of_eq gg29.symm)
      have ne_b24_b29 : b24 ≠ b29 := Nat.ne_of_lt (Nat.lt_of_lt_of_le V_b24.lt (Nat.le_of_eq gg29.symm))
      have S_b29 := (Safe.new (Z := Z) (EL := EL) (vm := s.vm) (Nat.le_of_eq gg29.symm)).ext Ex29 C0.1
      replace S_b24 := S_b24.ext Ex29 C0.1
      replace V_b24 := V_b24.ext Ex29
      replace O0 := O0.ext Ex29
      replace K0 := K0.ext Ex29
      replace C0 := C0.trans (CHr.ext Ex29 C0.1)
      replace hk0 := Nat.le_trans hk0 Ex29.1
      have E_b29 := A29
      have F_b29_value : Fld Z h29 b29 "java/lang/String" "value" "[B" .null := D29 (Or.inr (hw _ (List.mem_of_getElem? (i := 27) rfl))) (ty := (.array .byte)) (by decide)
      have F_b29_coder : Fld Z h29 b29 "java/lang/String" "coder" "B" (.int (0 : Int32)) := D29 (Or.inr (hw _ (List.mem_of_getElem? (i := 28) rfl))) (ty := .byte) (by decide)
      refine Goes.step (T' := T29) (g' := (mkF m 66 #[.val (.int p1), .val (.int (LN p1)), .val (.ref b24)] [(.ref b29)])) st29 ?_
      clear D29 A29
      refine Goes.step (T' := T29) (g' := (mkF m 67 #[.val (.int p1), .val (.int (LN p1)), .val (.ref b24)] [(.ref b29), (.ref b29)])) (fun _ k => XS.dup X29.here hx rfl (hb hby d_method_5_66) rfl rfl k) ?_
      refine Goes.step (T' := T29) (g' := (mkF m 68 #[.val (.int p1), .val (.int (LN p1)), .val (.ref b24)] [(.ref b24), (.ref b29), (.ref b29)])) (fun _ k => XS.aloadN X29.here hx rfl (hb hby d_method_5_67) rfl rfl k) ?_
      obtain ⟨_, _, ⟨T30, L30, k30, n30⟩, -, X30, ⟨Lc30, hQ30, l30, y30, z30⟩, st30⟩ := X29.specialBack hx (y := (⟨"java/lang/String", "<init>", "([C)V"⟩ : MethodName)) rfl hown (mvT hZ (hw _ (List.mem_of_getElem? (i := 15) rfl))) (mvT hZ (hw _ (List.mem_of_getElem? (i := 16) rfl))) (mvT hZ (hw _ (List.mem_of_getElem? (i := 17) rfl))) (by decide) (StrChars.Road.backV (W := 1) hZ (own_wBV hw) (kI := 4) (hw _ (List.mem_of_getElem? (i := 12) rfl)) (cs := ([(nar .char (CA0 p1)), (nar .char (CA1 p1))] : List Int32)) (bs := (([(nar .char (CA0 p1)), (nar .char (CA1 p1))] : List Int32)).map (fun c => c.toInt8.toInt32)) (n := 2) g_b29 (own_n0 O0) E_b29 F_b29_value F_b29_coder V_b24 (Scs.ext O0.2) hz_Scs rfl rfl (by decide) (by decide) (by simp only [List.mem_cons, List.not_mem_nil, or_false]; rintro c (rfl | rfl); exact (own_narC _ : nar .char (CA0 p1) = CA0 p1) ▸ own_C0 p1; exact (own_narC _ : nar .char (CA1 p1) = CA1 p1) ▸ own_C1 p1) rfl (by decide) (by decide)) (g := (mkF m 68 #[.val (.int p1), .val (.int (LN p1)), .val (.ref b24)] [(.ref b24), (.ref b29), (.ref b29)])) rfl (by rw [hml]; rfl) (Steps.refl _) (a := b29) (argsL := [(.ref b24)]) (rest := [(.ref b29)]) (lenOf pd_3 rfl) rfl (by show 2 * 0 + _ ≤ _; exact Nat.le_of_eq rfl) (hb hby d_method_5_68) (fun _ _ => ⟨rfl, e29, (by decide : 2 + 1 ≤ _), (by decide : 6 + 2 ≤ _)⟩)
      dsimp only [Pt.U, Pt.locs, Pt.cells, Pt.slots] at X30 l30 y30 z30 st30 hQ30
      subst l30 y30 z30
      obtain ⟨h30, e30⟩ : ∃ z, T30.heap = z := ⟨_, rfl⟩
      rw [e30] at hQ30
      obtain ⟨rfl, Nq30, Kq30, E_q30, Fc_q30, t30, kb30, gt30, fr30, net30, Fv_q30, V_q30⟩ := hQ30
      replace N0 := Fr.app N0 Nq30
      have g_t30 : n0 ≤ t30 := Nat.le_trans (own_n0 O0) fr30
      have sz_t30 : h0.size ≤ t30 := Nat.le_trans K0.1 fr30
      have ne_b24_t30 : b24 ≠ t30 := Nat.ne_of_lt (Nat.lt_of_lt_of_le V_b24.lt fr30)
      have ne_b29_t30 : b29 ≠ t30 := Nat.ne_of_lt (Nat.lt_of_lt_of_le E_b29.lt fr30)
      have Ss := (sfS S_b29 sf0)
      replace S_b24 := S_b24.keep Kq30 Ss C0.1
      replace S_b29 := S_b29.keep Kq30 Ss C0.1
      replace C0 := C0.trans (CHr.keep Kq30 Ss C0.1)
      replace hk0 := Nat.le_trans hk0 Kq30.1
      replace V_b24 := V_b24.keep Kq30 (ninS ne_b24_b29 nin0)
      clear E_b29
      clear F_b29_value
      clear F_b29_coder
      replace O0 := O0.keep Kq30 (allS g_b29 all0)
      replace K0 := K0.trans Kq30 (allS (Or.inr sz_b29) all0)
      have E_b29 := E_q30
      have F_b29_coder := Fc_q30
      have F_b29_value := Fv_q30
      have V_t30 := V_q30
      refine Goes.run (T' := T30) (g' := (mkF m 71 #[.val (.int p1), .val (.int (LN p1)), .val (.ref b24)] [(.ref b29)])) st30 ?_
      obtain ⟨fs, hr, hrun, hended, hend⟩ := X30.leaveW hS0 (by rw [e30]; exact hk0) (v := some (.ref b29)) (fun h => by rw [Bd.returns] at h; cases h)
      rw [show nar .char (CA0 p1) = CA0 p1 from own_narC _] at V_t30
      rw [show nar .char (CA1 p1) = CA1 p1 from own_narC _] at V_t30
      have G_b29 : SX Z h30 b29 [CA0 p1, CA1 p1] := ⟨E_b29, F_b29_coder, (by simp only [List.mem_cons, List.not_mem_nil, or_false]; rintro c (rfl | rfl); exact own_C0 _; exact own_C1 _), _, _, F_b29_value, V_t30⟩
      exact ⟨_, _, retOut X30 hx Bd.returns rfl (Or.inr (Or.inr (Or.inr (Or.inr ⟨rfl, rfl, rfl⟩)))) (hb hby d_method_5_71) hr, hrun, hended, _, _, rfl, (by show Q_text Z p1 h0 n0 _ T30.heap _; rw [e30]; exact ⟨b29, rfl, N0, K0, sz_b29, E_b29, (by rw [show TX p1 = [CA0 p1, CA1 p1] from (if_neg hc6_14).trans (if_neg hc22_18)]; exact G_b29)⟩), (by show CHr Z EL s.vm s.heap T30.vm T30.heap; rw [e30, hh]; exact C0.trans (CHv.at X30 hZ hEL C0.1)), own_mono hend (by decide) (by decide)⟩
theorem d_jdk_31_method_11_0 : decode jdk_31_method_11_code 0 = .ok (.aload_n 0, 1) := by decide +kernel
theorem d_jdk_31_method_11_1 : decode jdk_31_method_11_code 1 = .ok (.ifnonnull 12, 3) := by decide +kernel
theorem d_jdk_31_method_11_13 : decode jdk_31_method_11_code 13 = .ok (.aload_n 0, 1) := by decide +kernel
theorem d_jdk_31_method_11_14 : decode jdk_31_method_11_code 14 = .ok (.areturn, 1) := by decide +kernel
theorem pn_3 : plainName "java/util/Objects" = true := by first | (simp [plainName, overriddenIn]; done) | decide +kernel
theorem ef_rnnS (m : MethodId) (a1 : Addr) (a2 : Addr) : entryFrame m #[(.ref a1), (.ref a2)] 2 = mkF m 0 #[.val (.ref a1), .val (.ref a2)] [] := by first | (simp [entryFrame, mkF, argsToLocals, Value.category, maxLocals]; done) | rfl
def Q_rnnS (Z : State) (a1 : Addr) (a2 : Addr) (h0 : Heap) (n0 : Nat) (v : Option Value) (h : Heap) (L : List Loc) : Prop := (v = some (.ref a1)) ∧ (L = []) ∧ (h = h0)
set_option maxRecDepth 65536 in
set_option maxHeartbeats 40000000 in
theorem rm_rnnS (l : Launch) (Z : State) (a0 : Array Value) (hw : ∀ d ∈ tables_1, d.before a0 Z = true) (ws : List Jvm.Cond) (a1 : Addr) (a2 : Addr) (h0 : Heap) (n0 : Nat) (O0 : Old Z n0 h0)   :
    MetFree l (⟨"java/util/Objects", "requireNonNull", "(Ljava/lang/Object;Ljava/lang/String;)Ljava/lang/Object;"⟩ : MethodName) (head1 ((Jvm.Cond.code (⟨"java/util/Objects", "requireNonNull", "(Ljava/lang/Object;Ljava/lang/String;)Ljava/lang/Object;"⟩ : MethodName) jdk_31_method_11_code 2 (some (.object "java/lang/Object"))) :: ws) ({ frames := 0, cells := 0, slots := 0, locals := 0 } : Room)) (fun a U => a = #[(.ref a1), (.ref a2)] ∧ Z.Warmed39 U.vm ∧ U.heap = h0) (fun _ _ _ _ _ => True) (fun _ U o U' => ∃ v L, o = .returned v ∧ Q_rnnS Z a1 a2 h0 n0 v U'.heap L ∧ FrameEnd U o U' L ({ frames := 0, cells := 0, slots := 0, locals := 0 } : Room).cells ({ frames := 0, cells := 0, slots := 0, locals := 0 } : Room).slots) := by
  refine MetFree.of_bodySF (plainFor_of_name pn_3) hisR ?_
  intro p e s m args below meth c s₁ Bd hml0 hP hK
  obtain ⟨rfl, hZ, hh⟩ := hP
  have hx := Bd.exec
  have hby := Bd.bytes
  have hml : c.maxLocals = 2 := hml0
  have hown : s.vm.findClass "java/util/Objects" = some m.cls := findClass_of_methodNamed Bd.named
  have hnm := (name_of_methodNamed Bd.named Bd.method).1
  have X0 : Stand p l e ({ frames := 0, cells := 0, slots := 0, locals := 0 } : Room) s m #[(.ref a1), (.ref a2)] below meth c s₁ [] 0 0 := Stand.of_body Bd
  have e0 : s₁.heap = h0 := by rw [← hh, Bd.state]; rfl
  have N0 := Fr.nil n0
  have K0 : Keep h0 h0 [] := Keep.refl _ _
  suffices hG : Goes p e below (fun o U' => ∃ v L, o = .returned v ∧ Q_rnnS Z a1 a2 h0 n0 v U'.heap L ∧ FrameEnd s o U' L ({ frames := 0, cells := 0, slots := 0, locals := 0 } : Room).cells ({ frames := 0, cells := 0, slots := 0, locals := 0 } : Room).slots) s₁ (mkF m 0 #[.val (.ref a1), .val (.ref a2)] []) by
    obtain ⟨t, o, h1, h2⟩ := hG; exact ⟨t, o, castTop (ef_rnnS m a1 a2) h1, h2⟩
  refine Goes.step (T' := s₁) (g' := (mkF m 1 #[.val (.ref a1), .val (.ref a2)] [(.ref a1)])) (fun _ k => XS.aloadN X0.here hx rfl (hb hby d_jdk_31_method_11_0) rfl rfl k) ?_
  refine Goes.step (T' := s₁) (g' := (mkF m 13 #[.val (.ref a1), .val (.ref a2)] [])) (fun _ k => XS.ifnonnullYes X0.here hx rfl (pc0 := 1) (pc' := 13) rfl (hb hby d_jdk_31_method_11_1) rfl (by decide) (by decide) k) ?_
  refine Goes.step (T' := s₁) (g' := (mkF m 14 #[.val (.ref a1), .val (.ref a2)] [(.ref a1)])) (fun _ k => XS.aloadN X0.here hx rfl (hb hby d_jdk_31_method_11_13) rfl rfl k) ?_
  obtain ⟨fs, hr, hrun, hended, hW, hsame⟩ := X0.leave (v := some (.ref a1)) (fun h => by rw [Bd.returns] at h; cases h)
  exact ⟨_, _, retOut X0 hx Bd.returns rfl (Or.inr (Or.inr (Or.inr (Or.inr ⟨rfl, rfl, rfl⟩)))) (hb hby d_jdk_31_method_11_14) hr, hrun, hended, _, _, rfl, (by show Q_rnnS Z a1 a2 h0 n0 _ s₁.heap _; rw [e0]; exact ⟨rfl, rfl, rfl⟩), ⟨_, rfl⟩, hW, hsame.mono (by decide) (by decide)⟩
theorem d_prog_21_method_1_0 : decode prog_21_method_1_code 0 = .ok (.aload_n 0, 1) := by decide +kernel
theorem d_prog_21_method_1_1 : decode prog_21_method_1_code 1 = .ok (.invokespecial 1, 3) := by decide +kernel
theorem pd_5 : parseMethodDescriptor "()V" = some ⟨[], none⟩ := by decide +kernel
theorem d_prog_21_method_1_4 : decode prog_21_method_1_code 4 = .ok (.aload_n 2, 1) := by decide +kernel
theorem d_prog_21_method_1_5 : decode prog_21_method_1_code 5 = .ok (.ldc 7, 2) := by decide +kernel
theorem d_prog_21_method_1_7 : decode prog_21_method_1_code 7 = .ok (.invokestatic 9, 3) := by decide +kernel
theorem pd_6 : parseMethodDescriptor "(Ljava/lang/Object;Ljava/lang/String;)Ljava/lang/Object;" = some ⟨[(.object "java/lang/Object"), (.object "java/lang/String")], some (.object "java/lang/Object")⟩ := by decide +kernel
theorem d_prog_21_method_1_10 : decode prog_21_method_1_code 10 = .ok (.pop, 1) := by decide +kernel
theorem d_prog_21_method_1_11 : decode prog_21_method_1_code 11 = .ok (.aload_n 0, 1) := by decide +kernel
theorem d_prog_21_method_1_12 : decode prog_21_method_1_code 12 = .ok (.aload_n 1, 1) := by decide +kernel
theorem d_prog_21_method_1_13 : decode prog_21_method_1_code 13 = .ok (.putfield 15, 3) := by decide +kernel
theorem d_prog_21_method_1_16 : decode prog_21_method_1_code 16 = .ok (.aload_n 0, 1) := by decide +kernel
theorem d_prog_21_method_1_17 : decode prog_21_method_1_code 17 = .ok (.aload_n 2, 1) := by decide +kernel
theorem d_prog_21_method_1_18 : decode prog_21_method_1_code 18 = .ok (.putfield 21, 3) := by decide +kernel
theorem d_prog_21_method_1_21 : decode prog_21_method_1_code 21 = .ok (.return_, 1) := by decide +kernel
theorem pn_4 : plainName "com/example/wardkey/wardkey/policy/Code" = true := by first | (simp [plainName, overriddenIn]; done) | decide +kernel
theorem ef_codeInit (m : MethodId) (a1 : Addr) (v2 : Value) (hv2 : v2.isRef = true) (a3 : Addr) : entryFrame m #[(.ref a1), v2, (.ref a3)] 3 = mkF m 0 #[.val (.ref a1), .val v2, .val (.ref a3)] [] := by rcases ref_cases hv2 with rfl | ⟨_, rfl⟩ <;> first | (simp [entryFrame, mkF, argsToLocals, Value.category, maxLocals]; done) | rfl
def Q_codeInit (Z : State) (a1 : Addr) (v2 : Value) (a3 : Addr) (h0 : Heap) (n0 : Nat) (v : Option Value) (h : Heap) (L : List Loc) : Prop := (v = none) ∧ (Fr n0 L) ∧ (Keep h0 h [a1]) ∧ (Exa Z h a1 "com/example/wardkey/wardkey/policy/Code") ∧ (Fld Z h a1 "com/example/wardkey/wardkey/policy/Code" "system" "Ljava/lang/String;" v2) ∧ (Fld Z h a1 "com/example/wardkey/wardkey/policy/Code" "code" "Ljava/lang/String;" (.ref a3))
set_option maxRecDepth 65536 in
set_option maxHeartbeats 40000000 in
theorem rm_codeInit (l : Launch) (Z : State) (a0 : Array Value) (hw : ∀ d ∈ tables_1, d.before a0 Z = true) (ws : List Jvm.Cond) (hEL : EW Z a0 EL) (a1 : Addr) (v2 : Value) (hv2 : v2.isRef = true) (a3 : Addr) (h0 : Heap) (n0 : Nat) (O0 : Old Z n0 h0)  (E_a1 : Exa Z h0 a1 "com/example/wardkey/wardkey/policy/Code") (F_a1_system : Fld Z h0 a1 "com/example/wardkey/wardkey/policy/Code" "system" "Ljava/lang/String;" .null) (F_a1_code : Fld Z h0 a1 "com/example/wardkey/wardkey/policy/Code" "code" "Ljava/lang/String;" .null) (g_a1 : n0 ≤ a1) :
    MetFree l (⟨"com/example/wardkey/wardkey/policy/Code", "<init>", "(Ljava/lang/String;Ljava/lang/String;)V"⟩ : MethodName) (head1 ((Jvm.Cond.code (⟨"com/example/wardkey/wardkey/policy/Code", "<init>", "(Ljava/lang/String;Ljava/lang/String;)V"⟩ : MethodName) prog_21_method_1_code 3 none) :: ws) ({ frames := 2, cells := 2, slots := 20, locals := 24 } : Room)) (fun a U => a = #[(.ref a1), v2, (.ref a3)] ∧ Z.Warmed39 U.vm ∧ U.heap = h0 ∧ CHv Z EL U.vm h0) (fun _ _ _ _ _ => True) (fun _ U o U' => ∃ v L, o = .returned v ∧ Q_codeInit Z a1 v2 a3 h0 n0 v U'.heap L ∧ CHr Z EL U.vm U.heap U'.vm U'.heap ∧ ReturnedEndW U o U' L ({ frames := 2, cells := 2, slots := 20, locals := 24 } : Room).cells ({ frames := 2, cells := 2, slots := 20, locals := 24 } : Room).slots) := by
  refine MetFree.of_bodySF (plainFor_of_name pn_4) hisR ?_
  intro p e s m args below meth c s₁ Bd hml0 hP hK
  obtain ⟨rfl, hZ, hh, hCH⟩ := hP
  have hx := Bd.exec
  have hby := Bd.bytes
  have hml : c.maxLocals = 3 := hml0
  have hown : (s.setVm s.vm).vm.findClass "com/example/wardkey/wardkey/policy/Code" = some m.cls := findClass_of_methodNamed Bd.named
  have hnm := (name_of_methodNamed Bd.named Bd.method).1
  have X0 : Stand p l e ({ frames := 2, cells := 2, slots := 20, locals := 24 } : Room) (s.setVm s.vm) m #[(.ref a1), v2, (.ref a3)] below meth c s₁ [] 0 0 := Stand.of_body Bd
  have e0 : s₁.heap = h0 := by rw [← hh, Bd.state]; rfl
  have N0 := Fr.nil n0
  have K0 : Keep h0 h0 [a1] := Keep.refl _ _
  have C0 : CHr Z EL s.vm h0 s.vm h0 := CHr.refl hCH
  have hS0 : s.Since s.vm h0.size := own_since0 s _
  have hk0 : h0.size ≤ h0.size := Nat.le_refl _
  suffices hG : Goes p e below (fun o U' => ∃ v L, o = .returned v ∧ Q_codeInit Z a1 v2 a3 h0 n0 v U'.heap L ∧ CHr Z EL s.vm s.heap U'.vm U'.heap ∧ ReturnedEndW s o U' L ({ frames := 2, cells := 2, slots := 20, locals := 24 } : Room).cells ({ frames := 2, cells := 2, slots := 20, locals := 24 } : Room).slots) s₁ (mkF m 0 #[.val (.ref a1), .val v2, .val (.ref a3)] []) by
    obtain ⟨t, o, h1, h2⟩ := hG; exact ⟨t, o, castTop (ef_codeInit m a1 v2 hv2 a3) h1, h2⟩
  have S_a1 : Safe Z EL s.vm h0 a1 := Safe.exa hZ.alike E_a1 (by decide) (by decide)
  refine Goes.step (T' := s₁) (g' := (mkF m 1 #[.val (.ref a1), .val v2, .val (.ref a3)] [(.ref a1)])) (fun _ k => XS.aloadN X0.here hx rfl (hb hby d_prog_21_method_1_0) rfl rfl k) ?_
  obtain ⟨_, _, ⟨T31, L31, k31, n31⟩, -, X31, ⟨Lc31, hQ31, l31, y31, z31⟩, st31⟩ := X0.specialBack hx (y := (⟨"java/lang/Record", "<init>", "()V"⟩ : MethodName)) rfl hown (mvT hZ (hw _ (List.mem_of_getElem? (i := 39) rfl))) (mvT hZ (hw _ (List.mem_of_getElem? (i := 40) rfl))) (mvT hZ (hw _ (List.mem_of_getElem? (i := 43) rfl))) (by decide) (backOf (W := 0) (rm_recInit l Z a0 hw [] a1 h0 n0 O0  ) hZ (hw _ (List.mem_of_getElem? (i := 43) rfl)) (hw _ (List.mem_of_getElem? (i := 42) rfl)) (by decide) (by decide)) (g := (mkF m 1 #[.val (.ref a1), .val v2, .val (.ref a3)] [(.ref a1)])) rfl (by rw [hml]; rfl) (Steps.refl _) (a := a1) (argsL := []) (rest := []) (lenOf pd_5 rfl) rfl (by show 2 * 0 + _ ≤ _; exact Nat.le_of_eq rfl) (hb hby d_prog_21_method_1_1) (fun _ _ => ⟨rfl, e0, (by decide : 0 + 0 ≤ _), (by decide : 0 + 0 ≤ _)⟩)
  dsimp only [Pt.U, Pt.locs, Pt.cells, Pt.slots] at X31 l31 y31 z31 st31 hQ31
  subst l31 y31 z31
  obtain ⟨rfl, rfl, e31⟩ := hQ31
  replace N0 := Fr.app N0 (Fr.nil n0)
  refine Goes.run (T' := T31) (g' := (mkF m 4 #[.val (.ref a1), .val v2, .val (.ref a3)] [])) st31 ?_
  refine Goes.step (T' := T31) (g' := (mkF m 5 #[.val (.ref a1), .val v2, .val (.ref a3)] [(.ref a3)])) (fun _ k => XS.aloadN X31.here hx rfl (hb hby d_prog_21_method_1_4) rfl rfl k) ?_
  obtain ⟨ca32, T32, h32, k32, ct32, kc32, X32, e32, Ex32, hS32, hk32, hZ32, hown32, E_ca32, F_ca32_coder, F_ca32_value, V_ct32, la32, lt32, C32, Lit32, hne32, st32⟩ := ldcCH X31 hx hZ hown (hw _ (List.mem_of_getElem? (i := 45) rfl)) (own_wS hw) e31 hS0 hk0 hEL (by simp [EL, consts_1]) C0.1 (vs := [(.int 99), (.int 111), (.int 100), (.int 101)]) (z := 4) (by decide) (by decide) (by decide) (g := (mkF m 5 #[.val (.ref a1), .val v2, .val (.ref a3)] [(.ref a3)])) rfl (hb hby d_prog_21_method_1_5) (n := 16) (by decide) (by decide) (by decide) (by decide)
  replace S_a1 := C32.safe E_a1.lt S_a1
  replace C0 := C0.trans C32
  replace E_a1 := E_a1.ext Ex32
  replace F_a1_system := F_a1_system.ext Ex32
  replace F_a1_code := F_a1_code.ext Ex32
  replace O0 := O0.ext Ex32
  replace K0 := K0.ext Ex32
  clear hS0 hk0 hZ hown
  have hS0 := hS32
  have hk0 := hk32
  have hZ := hZ32
  have hown := hown32
  have ne_a1_ca32 := (hne32 _ S_a1).1
  have ne_a1_ct32 := (hne32 _ S_a1).2
  refine Goes.step (T' := T32) (g' := (mkF m 7 #[.val (.ref a1), .val v2, .val (.ref a3)] [(.ref ca32), (.ref a3)])) st32 ?_
  obtain ⟨_, _, ⟨T33, L33, k33, n33⟩, -, X33, ⟨Lc33, hQ33, l33, y33, z33⟩, st33⟩ := Jvm.LawKit.callS X32 hx (y := (⟨"java/util/Objects", "requireNonNull", "(Ljava/lang/Object;Ljava/lang/String;)Ljava/lang/Object;"⟩ : MethodName)) hown (mvT hZ (hw _ (List.mem_of_getElem? (i := 46) rfl))) (mvT hZ (hw _ (List.mem_of_getElem? (i := 47) rfl))) (mvT hZ (hw _ (List.mem_of_getElem? (i := 48) rfl))) (mvT hZ (hw _ (List.mem_of_getElem? (i := 49) rfl))) (by decide) (backOf (W := 0) (rm_rnnS l Z a0 hw [] a3 ca32 h32 n0 O0  ) hZ (hw _ (List.mem_of_getElem? (i := 49) rfl)) (hw _ (List.mem_of_getElem? (i := 48) rfl)) (by decide) (by decide)) (g := (mkF m 7 #[.val (.ref a1), .val v2, .val (.ref a3)] [(.ref ca32), (.ref a3)])) rfl (by rw [hml]; rfl) (argsL := [(.ref a3), (.ref ca32)]) (rest := []) (lenOf pd_6 rfl) rfl (by show 2 * 0 + _ ≤ _; exact Nat.le_of_eq rfl) (hb hby d_prog_21_method_1_7) (fun _ _ => ⟨rfl, e32, (by decide : 2 + 0 ≤ _), (by decide : 20 + 0 ≤ _)⟩)
  dsimp only [Pt.U, Pt.locs, Pt.cells, Pt.slots] at X33 l33 y33 z33 st33 hQ33
  subst l33 y33 z33
  obtain ⟨rfl, rfl, e33⟩ := hQ33
  replace N0 := Fr.app N0 (Fr.nil n0)
  refine Goes.step (T' := T33) (g' := (mkF m 10 #[.val (.ref a1), .val v2, .val (.ref a3)] [(.ref a3)])) st33 ?_
  refine Goes.step (T' := T33) (g' := (mkF m 11 #[.val (.ref a1), .val v2, .val (.ref a3)] [])) (fun _ k => XS.pop X33.here hx rfl (hb hby d_prog_21_method_1_10) rfl rfl k) ?_
  refine Goes.step (T' := T33) (g' := (mkF m 12 #[.val (.ref a1), .val v2, .val (.ref a3)] [(.ref a1)])) (fun _ k => XS.aloadN X33.here hx rfl (hb hby d_prog_21_method_1_11) rfl rfl k) ?_
  refine Goes.step (T' := T33) (g' := (mkF m 13 #[.val (.ref a1), .val v2, .val (.ref a3)] [v2, (.ref a1)])) (fun _ k => XS.aloadN X33.here hx rfl (hb hby d_prog_21_method_1_12) rfl hv2 k) ?_
  obtain ⟨T34, h34, X34, e34, W34, st34⟩ := putF X33 hx hZ hown (host := "") (Or.inl (hw _ (List.mem_of_getElem? (i := 50) rfl))) Via.refl e33 F_a1_system E_a1 (Or.inr ⟨(hw _ (List.mem_of_getElem? (i := 51) rfl)), rfl, hnm⟩) (hw _ (List.mem_of_getElem? (i := 34) rfl)) (ty := (.object "java/lang/String")) (by decide) (own_nref hv2) (own_fref hv2) (g := (mkF m 13 #[.val (.ref a1), .val v2, .val (.ref a3)] [v2, (.ref a1)])) rfl rfl (hb hby d_prog_21_method_1_13)
  replace N0 := Fr.snoc X34 N0 g_a1
  have Sw := S_a1
  replace S_a1 := Safe.wr W34 Sw C0.1 S_a1
  replace C0 := C0.trans (CHr.wr W34 Sw C0.1)
  replace hk0 := Nat.le_trans hk0 (Nat.le_of_eq W34.size.symm)
  replace E_a1 := E_a1.wr W34
  replace F_a1_system := F_a1_system.same W34
  replace F_a1_code := F_a1_code.other W34 (Or.inr (slot_ne (Or.inr (hw _ (List.mem_of_getElem? (i := 53) rfl))) (Or.inr (hw _ (List.mem_of_getElem? (i := 51) rfl))) (by decide) (t := (.object "java/lang/String")) (t' := (.object "java/lang/String")) (by decide) (by decide)))
  replace E_ca32 := E_ca32.wr W34
  replace F_ca32_coder := F_ca32_coder.other W34 (Or.inl (Ne.symm ne_a1_ca32))
  replace F_ca32_value := F_ca32_value.other W34 (Or.inl (Ne.symm ne_a1_ca32))
  replace V_ct32 := V_ct32.other W34 (Ne.symm ne_a1_ct32)
  replace O0 := O0.wr W34 g_a1
  replace K0 := K0.wr W34 (Or.inl (List.mem_of_getElem? (i := 0) rfl))
  refine Goes.step (T' := T34) (g' := (mkF m 16 #[.val (.ref a1), .val v2, .val (.ref a3)] [])) st34 ?_
  refine Goes.step (T' := T34) (g' := (mkF m 17 #[.val (.ref a1), .val v2, .val (.ref a3)] [(.ref a1)])) (fun _ k => XS.aloadN X34.here hx rfl (hb hby d_prog_21_method_1_16) rfl rfl k) ?_
  refine Goes.step (T' := T34) (g' := (mkF m 18 #[.val (.ref a1), .val v2, .val (.ref a3)] [(.ref a3), (.ref a1)])) (fun _ k => XS.aloadN X34.here hx rfl (hb hby d_prog_21_method_1_17) rfl rfl k) ?_
  obtain ⟨T35, h35, X35, e35, W35, st35⟩ := putF X34 hx hZ hown (host := "") (Or.inl (hw _ (List.mem_of_getElem? (i := 52) rfl))) Via.refl e34 F_a1_code E_a1 (Or.inr ⟨(hw _ (List.mem_of_getElem? (i := 53) rfl)), rfl, hnm⟩) (hw _ (List.mem_of_getElem? (i := 34) rfl)) (ty := (.object "java/lang/String")) (by decide) rfl rfl (g := (mkF m 18 #[.val (.ref a1), .val v2, .val (.ref a3)] [(.ref a3), (.ref a1)])) rfl rfl (hb hby d_prog_21_method_1_18)
  replace N0 := Fr.snoc X35 N0 g_a1
  have Sw := S_a1
  replace S_a1 := Safe.wr W35 Sw C0.1 S_a1
  replace C0 := C0.trans (CHr.wr W35 Sw C0.1)
  replace hk0 := Nat.le_trans hk0 (Nat.le_of_eq W35.size.symm)
  replace E_a1 := E_a1.wr W35
  replace F_a1_system := F_a1_system.other W35 (Or.inr (slot_ne (Or.inr (hw _ (List.mem_of_getElem? (i := 51) rfl))) (Or.inr (hw _ (List.mem_of_getElem? (i := 53) rfl))) (by decide) (t := (.object "java/lang/String")) (t' := (.object "java/lang/String")) (by decide) (by decide)))
  replace F_a1_code := F_a1_code.same W35
  replace E_ca32 := E_ca32.wr W35
  replace F_ca32_coder := F_ca32_coder.other W35 (Or.inl (Ne.symm ne_a1_ca32))
  replace F_ca32_value := F_ca32_value.other W35 (Or.inl (Ne.symm ne_a1_ca32))
  replace V_ct32 := V_ct32.other W35 (Ne.symm ne_a1_ct32)
  replace O0 := O0.wr W35 g_a1
  replace K0 := K0.wr W35 (Or.inl (List.mem_of_getElem? (i := 0) rfl))
  refine Goes.step (T' := T35) (g' := (mkF m 21 #[.val (.ref a1), .val v2, .val (.ref a3)] [])) st35 ?_
  obtain ⟨fs, hr, hrun, hended, hend⟩ := X35.leaveW hS0 (by rw [e35]; exact hk0) (v := none) (fun _ => rfl)
  exact ⟨_, _, X35.returnOut hx Bd.returns (hb hby d_prog_21_method_1_21) hr, hrun, hended, _, _, rfl, (by show Q_codeInit Z a1 v2 a3 h0 n0 _ T35.heap _; rw [e35]; exact ⟨rfl, N0, K0, E_a1, F_a1_system, F_a1_code⟩), (by show CHr Z EL s.vm s.heap T35.vm T35.heap; rw [e35, hh]; exact C0.trans (CHv.at X35 hZ hEL C0.1)), own_mono hend (by decide) (by decide)⟩
theorem d_method_6_0 : decode method_6_code 0 = .ok (.iload_n 0, 1) := by decide +kernel
theorem d_method_6_1 : decode method_6_code 1 = .ok (.invokestatic 13, 3) := by decide +kernel
theorem d_method_6_4 : decode method_6_code 4 = .ok (.istore_n 2, 1) := by decide +kernel
theorem d_method_6_5 : decode method_6_code 5 = .ok (.iload_n 2, 1) := by decide +kernel
theorem d_method_6_6 : decode method_6_code 6 = .ok (.iload_n 1, 1) := by decide +kernel
theorem d_method_6_7 : decode method_6_code 7 = .ok (.invokestatic 13, 3) := by decide +kernel
theorem d_method_6_10 : decode method_6_code 10 = .ok (.if_icmp .eq 5, 3) := by decide +kernel
theorem d_method_6_15 : decode method_6_code 15 = .ok (.iload_n 2, 1) := by decide +kernel
theorem d_method_6_16 : decode method_6_code 16 = .ok (.iconst 1, 1) := by decide +kernel
theorem d_method_6_17 : decode method_6_code 17 = .ok (.if_icmp .lt 16, 3) := by decide +kernel
theorem d_method_6_33 : decode method_6_code 33 = .ok (.iload_n 2, 1) := by decide +kernel
theorem d_method_6_34 : decode method_6_code 34 = .ok (.iconst 2, 1) := by decide +kernel
theorem d_method_6_35 : decode method_6_code 35 = .ok (.if_icmp .lt 16, 3) := by decide +kernel
theorem d_method_6_51 : decode method_6_code 51 = .ok (.iconst 1, 1) := by decide +kernel
theorem d_method_6_52 : decode method_6_code 52 = .ok (.ireturn, 1) := by decide +kernel
theorem d_method_6_38 : decode method_6_code 38 = .ok (.iload_n 0, 1) := by decide +kernel
theorem d_method_6_39 : decode method_6_code 39 = .ok (.invokestatic 28, 3) := by decide +kernel
theorem d_method_6_42 : decode method_6_code 42 = .ok (.iload_n 1, 1) := by decide +kernel
theorem d_method_6_43 : decode method_6_code 43 = .ok (.invokestatic 28, 3) := by decide +kernel
theorem d_method_6_46 : decode method_6_code 46 = .ok (.if_icmp .eq 5, 3) := by decide +kernel
theorem d_method_6_49 : decode method_6_code 49 = .ok (.iconst 0, 1) := by decide +kernel
theorem d_method_6_50 : decode method_6_code 50 = .ok (.ireturn, 1) := by decide +kernel
theorem d_method_6_20 : decode method_6_code 20 = .ok (.iload_n 0, 1) := by decide +kernel
theorem d_method_6_21 : decode method_6_code 21 = .ok (.invokestatic 24, 3) := by decide +kernel
theorem d_method_6_24 : decode method_6_code 24 = .ok (.iload_n 1, 1) := by decide +kernel
theorem d_method_6_25 : decode method_6_code 25 = .ok (.invokestatic 24, 3) := by decide +kernel
theorem d_method_6_28 : decode method_6_code 28 = .ok (.if_icmp .eq 5, 3) := by decide +kernel
theorem d_method_6_31 : decode method_6_code 31 = .ok (.iconst 0, 1) := by decide +kernel
theorem d_method_6_32 : decode method_6_code 32 = .ok (.ireturn, 1) := by decide +kernel
theorem d_method_6_13 : decode method_6_code 13 = .ok (.iconst 0, 1) := by decide +kernel
theorem d_method_6_14 : decode method_6_code 14 = .ok (.ireturn, 1) := by decide +kernel
theorem ef_same (m : MethodId) (p1 : Int32) (p2 : Int32) : entryFrame m #[(.int p1), (.int p2)] 3 = mkF m 0 #[.val (.int p1), .val (.int p2), .unset] [] := by first | (simp [entryFrame, mkF, argsToLocals, Value.category, maxLocals]; done) | rfl
def Q_same (Z : State) (p1 : Int32) (p2 : Int32) (h0 : Heap) (n0 : Nat) (v : Option Value) (h : Heap) (L : List Loc) : Prop := (v = some (.int (if TX p1 = TX p2 then 1 else 0))) ∧ (L = []) ∧ (h = h0)
set_option maxRecDepth 65536 in
set_option maxHeartbeats 40000000 in
theorem rm_same (l : Launch) (Z : State) (a0 : Array Value) (hw : ∀ d ∈ tables_1, d.before a0 Z = true) (ws : List Jvm.Cond) (p1 : Int32) (p2 : Int32) (h0 : Heap) (n0 : Nat) (O0 : Old Z n0 h0)   :
    MetFree l (⟨"com/example/wardkey/wardkey/policy/CodeOverlapsPinLaw", "same", "(II)Z"⟩ : MethodName) (head1 ((Jvm.Cond.code (⟨"com/example/wardkey/wardkey/policy/CodeOverlapsPinLaw", "same", "(II)Z"⟩ : MethodName) method_6_code 3 (some .boolean)) :: ws) ({ frames := 2, cells := 0, slots := 0, locals := 26 } : Room)) (fun a U => a = #[(.int p1), (.int p2)] ∧ Z.Warmed39 U.vm ∧ U.heap = h0) (fun _ _ _ _ _ => True) (fun _ U o U' => ∃ v L, o = .returned v ∧ Q_same Z p1 p2 h0 n0 v U'.heap L ∧ FrameEnd U o U' L ({ frames := 2, cells := 0, slots := 0, locals := 26 } : Room).cells ({ frames := 2, cells := 0, slots := 0, locals := 26 } : Room).slots) := by
  refine MetFree.of_bodySF (plainFor_of_name pn_2) hisR ?_
  intro p e s m args below meth c s₁ Bd hml0 hP hK
  obtain ⟨rfl, hZ, hh⟩ := hP
  have hx := Bd.exec
  have hby := Bd.bytes
  have hml : c.maxLocals = 3 := hml0
  have hown : s.vm.findClass "com/example/wardkey/wardkey/policy/CodeOverlapsPinLaw" = some m.cls := findClass_of_methodNamed Bd.named
  have hnm := (name_of_methodNamed Bd.named Bd.method).1
  have X0 : Stand p l e ({ frames := 2, cells := 0, slots := 0, locals := 26 } : Room) s m #[(.int p1), (.int p2)] below meth c s₁ [] 0 0 := Stand.of_body Bd
  have e0 : s₁.heap = h0 := by rw [← hh, Bd.state]; rfl
  have N0 := Fr.nil n0
  have K0 : Keep h0 h0 [] := Keep.refl _ _
  suffices hG : Goes p e below (fun o U' => ∃ v L, o = .returned v ∧ Q_same Z p1 p2 h0 n0 v U'.heap L ∧ FrameEnd s o U' L ({ frames := 2, cells := 0, slots := 0, locals := 26 } : Room).cells ({ frames := 2, cells := 0, slots := 0, locals := 26 } : Room).slots) s₁ (mkF m 0 #[.val (.int p1), .val (.int p2), .unset] []) by
    obtain ⟨t, o, h1, h2⟩ := hG; exact ⟨t, o, castTop (ef_same m p1 p2) h1, h2⟩
  refine Goes.step (T' := s₁) (g' := (mkF m 1 #[.val (.int p1), .val (.int p2), .unset] [(.int p1)])) (fun _ k => XS.iloadN X0.here hx rfl (hb hby d_method_6_0) rfl  k) ?_
  obtain ⟨_, _, ⟨T36, L36, k36, n36⟩, -, X36, ⟨Lc36, hQ36, l36, y36, z36⟩, st36⟩ := Jvm.LawKit.callS X0 hx (y := (⟨"com/example/wardkey/wardkey/policy/CodeOverlapsPinLaw", "len", "(I)I"⟩ : MethodName)) hown (mvT hZ (hw _ (List.mem_of_getElem? (i := 4) rfl))) (mvT hZ (hw _ (List.mem_of_getElem? (i := 5) rfl))) (mvT hZ (hw _ (List.mem_of_getElem? (i := 2) rfl))) (mvT hZ (hw _ (List.mem_of_getElem? (i := 6) rfl))) (by decide) (backOf (W := 0) (rm_len l Z a0 hw [] p1 h0 n0 O0  ) hZ (hw _ (List.mem_of_getElem? (i := 6) rfl)) (hw _ (List.mem_of_getElem? (i := 2) rfl)) (by decide) (by decide)) (g := (mkF m 1 #[.val (.int p1), .val (.int p2), .unset] [(.int p1)])) rfl (by rw [hml]; rfl) (argsL := [(.int p1)]) (rest := []) (lenOf pd_2 rfl) rfl (by show 2 * 0 + _ ≤ _; exact Nat.le_of_eq rfl) (hb hby d_method_6_1) (fun _ _ => ⟨rfl, e0, (by decide : 0 + 0 ≤ _), (by decide : 0 + 0 ≤ _)⟩)
  dsimp only [Pt.U, Pt.locs, Pt.cells, Pt.slots] at X36 l36 y36 z36 st36 hQ36
  subst l36 y36 z36
  obtain ⟨rfl, rfl, e36⟩ := hQ36
  replace N0 := Fr.app N0 (Fr.nil n0)
  refine Goes.step (T' := T36) (g' := (mkF m 4 #[.val (.int p1), .val (.int p2), .unset] [(.int (LN p1))])) st36 ?_
  refine Goes.step (T' := T36) (g' := (mkF m 5 #[.val (.int p1), .val (.int p2), .val (.int (LN p1))] [])) (fun _ k => XS.istoreN X36.here hx rfl (hb hby d_method_6_4) rfl (l' := #[.val (.int p1), .val (.int p2), .val (.int (LN p1))]) rfl k) ?_
  refine Goes.step (T' := T36) (g' := (mkF m 6 #[.val (.int p1), .val (.int p2), .val (.int (LN p1))] [(.int (LN p1))])) (fun _ k => XS.iloadN X36.here hx rfl (hb hby d_method_6_5) rfl  k) ?_
  refine Goes.step (T' := T36) (g' := (mkF m 7 #[.val (.int p1), .val (.int p2), .val (.int (LN p1))] [(.int p2), (.int (LN p1))])) (fun _ k => XS.iloadN X36.here hx rfl (hb hby d_method_6_6) rfl  k) ?_
  obtain ⟨_, _, ⟨T37, L37, k37, n37⟩, -, X37, ⟨Lc37, hQ37, l37, y37, z37⟩, st37⟩ := Jvm.LawKit.callS X36 hx (y := (⟨"com/example/wardkey/wardkey/policy/CodeOverlapsPinLaw", "len", "(I)I"⟩ : MethodName)) hown (mvT hZ (hw _ (List.mem_of_getElem? (i := 4) rfl))) (mvT hZ (hw _ (List.mem_of_getElem? (i := 5) rfl))) (mvT hZ (hw _ (List.mem_of_getElem? (i := 2) rfl))) (mvT hZ (hw _ (List.mem_of_getElem? (i := 6) rfl))) (by decide) (backOf (W := 1) (rm_len l Z a0 hw [] p2 h0 n0 O0  ) hZ (hw _ (List.mem_of_getElem? (i := 6) rfl)) (hw _ (List.mem_of_getElem? (i := 2) rfl)) (by decide) (by decide)) (g := (mkF m 7 #[.val (.int p1), .val (.int p2), .val (.int (LN p1))] [(.int p2), (.int (LN p1))])) rfl (by rw [hml]; rfl) (argsL := [(.int p2)]) (rest := [(.int (LN p1))]) (lenOf pd_2 rfl) rfl (by show 2 * 0 + _ ≤ _; exact Nat.le_of_eq rfl) (hb hby d_method_6_7) (fun _ _ => ⟨rfl, e36, (by decide : 0 + 0 ≤ _), (by decide : 0 + 0 ≤ _)⟩)
  dsimp only [Pt.U, Pt.locs, Pt.cells, Pt.slots] at X37 l37 y37 z37 st37 hQ37
  subst l37 y37 z37
  obtain ⟨rfl, rfl, e37⟩ := hQ37
  replace N0 := Fr.app N0 (Fr.nil n0)
  refine Goes.step (T' := T37) (g' := (mkF m 10 #[.val (.int p1), .val (.int p2), .val (.int (LN p1))] [(.int (LN p2)), (.int (LN p1))])) st37 ?_
  by_cases hc10_38 : (LN p1) = (LN p2)
  ·
    refine Goes.step (T' := T37) (g' := (mkF m 15 #[.val (.int p1), .val (.int p2), .val (.int (LN p1))] [])) (fun _ k => XS.icmpYes X37.here hx rfl (pc0 := 10) (pc' := 15) rfl (hb hby d_method_6_10) rfl (teq hc10_38).1 (by decide) (by decide) k) ?_
    refine Goes.step (T' := T37) (g' := (mkF m 16 #[.val (.int p1), .val (.int p2), .val (.int (LN p1))] [(.int (LN p1))])) (fun _ k => XS.iloadN X37.here hx rfl (hb hby d_method_6_15) rfl  k) ?_
    refine Goes.step (T' := T37) (g' := (mkF m 17 #[.val (.int p1), .val (.int p2), .val (.int (LN p1))] [(.int (1 : Int32)), (.int (LN p1))])) (fun _ k => XS.iconst X37.here hx rfl (hb hby d_method_6_16) k) ?_
    by_cases hc17_39 : (LN p1) < (1 : Int32)
    ·
      refine Goes.step (T' := T37) (g' := (mkF m 33 #[.val (.int p1), .val (.int p2), .val (.int (LN p1))] [])) (fun _ k => XS.icmpYes X37.here hx rfl (pc0 := 17) (pc' := 33) rfl (hb hby d_method_6_17) rfl (tlt hc17_39).1 (by decide) (by decide) k) ?_
      refine Goes.step (T' := T37) (g' := (mkF m 34 #[.val (.int p1), .val (.int p2), .val (.int (LN p1))] [(.int (LN p1))])) (fun _ k => XS.iloadN X37.here hx rfl (hb hby d_method_6_33) rfl  k) ?_
      refine Goes.step (T' := T37) (g' := (mkF m 35 #[.val (.int p1), .val (.int p2), .val (.int (LN p1))] [(.int (2 : Int32)), (.int (LN p1))])) (fun _ k => XS.iconst X37.here hx rfl (hb hby d_method_6_34) k) ?_
      by_cases hc35_40 : (LN p1) < (2 : Int32)
      ·
        refine Goes.step (T' := T37) (g' := (mkF m 51 #[.val (.int p1), .val (.int p2), .val (.int (LN p1))] [])) (fun _ k => XS.icmpYes X37.here hx rfl (pc0 := 35) (pc' := 51) rfl (hb hby d_method_6_35) rfl (tlt hc35_40).1 (by decide) (by decide) k) ?_
        refine Goes.step (T' := T37) (g' := (mkF m 52 #[.val (.int p1), .val (.int p2), .val (.int (LN p1))] [(.int (1 : Int32))])) (fun _ k => XS.iconst X37.here hx rfl (hb hby d_method_6_51) k) ?_
        obtain ⟨fs, hr, hrun, hended, hW, hsame⟩ := X37.leave (v := some (.int (nar .boolean (1 : Int32)))) (fun h => by rw [Bd.returns] at h; cases h)
        have hT : TX p1 = TX p2 := (own_TXeq _ _).mpr ⟨hc10_38, Or.inl hc17_39, Or.inl hc35_40⟩
        exact ⟨_, _, retN X37 hx (t := .boolean) Bd.returns (by simp) (hb hby d_method_6_52) hr, hrun, hended, _, _, rfl, (by show Q_same Z p1 p2 h0 n0 _ T37.heap _; rw [e37]; exact ⟨(by rw [if_pos hT]; rfl), rfl, rfl⟩), ⟨_, rfl⟩, hW, hsame.mono (by decide) (by decide)⟩
      ·
        refine Goes.step (T' := T37) (g' := (mkF m 38 #[.val (.int p1), .val (.int p2), .val (.int (LN p1))] [])) (fun _ k => XS.icmpNo X37.here hx rfl (hb hby d_method_6_35) rfl (flt hc35_40).1 k) ?_
        refine Goes.step (T' := T37) (g' := (mkF m 39 #[.val (.int p1), .val (.int p2), .val (.int (LN p1))] [(.int p1)])) (fun _ k => XS.iloadN X37.here hx rfl (hb hby d_method_6_38) rfl  k) ?_
        obtain ⟨_, _, ⟨T41, L41, k41, n41⟩, -, X41, ⟨Lc41, hQ41, l41, y41, z41⟩, st41⟩ := Jvm.LawKit.callS X37 hx (y := (⟨"com/example/wardkey/wardkey/policy/CodeOverlapsPinLaw", "c1", "(I)C"⟩ : MethodName)) hown (mvT hZ (hw _ (List.mem_of_getElem? (i := 76) rfl))) (mvT hZ (hw _ (List.mem_of_getElem? (i := 77) rfl))) (mvT hZ (hw _ (List.mem_of_getElem? (i := 2) rfl))) (mvT hZ (hw _ (List.mem_of_getElem? (i := 78) rfl))) (by decide) (backOf (W := 0) (rm_c1 l Z a0 hw [] p1 h0 n0 O0  ) hZ (hw _ (List.mem_of_getElem? (i := 78) rfl)) (hw _ (List.mem_of_getElem? (i := 2) rfl)) (by decide) (by decide)) (g := (mkF m 39 #[.val (.int p1), .val (.int p2), .val (.int (LN p1))] [(.int p1)])) rfl (by rw [hml]; rfl) (argsL := [(.int p1)]) (rest := []) (lenOf pd_4 rfl) rfl (by show 2 * 0 + _ ≤ _; exact Nat.le_of_eq rfl) (hb hby d_method_6_39) (fun _ _ => ⟨rfl, e37, (by decide : 0 + 0 ≤ _), (by decide : 0 + 0 ≤ _)⟩)
        dsimp only [Pt.U, Pt.locs, Pt.cells, Pt.slots] at X41 l41 y41 z41 st41 hQ41
        subst l41 y41 z41
        obtain ⟨rfl, rfl, e41⟩ := hQ41
        replace N0 := Fr.app N0 (Fr.nil n0)
        refine Goes.step (T' := T41) (g' := (mkF m 42 #[.val (.int p1), .val (.int p2), .val (.int (LN p1))] [(.int (CA1 p1))])) st41 ?_
        refine Goes.step (T' := T41) (g' := (mkF m 43 #[.val (.int p1), .val (.int p2), .val (.int (LN p1))] [(.int p2), (.int (CA1 p1))])) (fun _ k => XS.iloadN X41.here hx rfl (hb hby d_method_6_42) rfl  k) ?_
        obtain ⟨_, _, ⟨T42, L42, k42, n42⟩, -, X42, ⟨Lc42, hQ42, l42, y42, z42⟩, st42⟩ := Jvm.LawKit.callS X41 hx (y := (⟨"com/example/wardkey/wardkey/policy/CodeOverlapsPinLaw", "c1", "(I)C"⟩ : MethodName)) hown (mvT hZ (hw _ (List.mem_of_getElem? (i := 76) rfl))) (mvT hZ (hw _ (List.mem_of_getElem? (i := 77) rfl))) (mvT hZ (hw _ (List.mem_of_getElem? (i := 2) rfl))) (mvT hZ (hw _ (List.mem_of_getElem? (i := 78) rfl))) (by decide) (backOf (W := 1) (rm_c1 l Z a0 hw [] p2 h0 n0 O0  ) hZ (hw _ (List.mem_of_getElem? (i := 78) rfl)) (hw _ (List.mem_of_getElem? (i := 2) rfl)) (by decide) (by decide)) (g := (mkF m 43 #[.val (.int p1), .val (.int p2), .val (.int (LN p1))] [(.int p2), (.int (CA1 p1))])) rfl (by rw [hml]; rfl) (argsL := [(.int p2)]) (rest := [(.int (CA1 p1))]) (lenOf pd_4 rfl) rfl (by show 2 * 0 + _ ≤ _; exact Nat.le_of_eq rfl) (hb hby d_method_6_43) (fun _ _ => ⟨rfl, e41, (by decide : 0 + 0 ≤ _), (by decide : 0 + 0 ≤ _)⟩)
        dsimp only [Pt.U, Pt.locs, Pt.cells, Pt.slots] at X42 l42 y42 z42 st42 hQ42
        subst l42 y42 z42
        obtain ⟨rfl, rfl, e42⟩ := hQ42
        replace N0 := Fr.app N0 (Fr.nil n0)
        refine Goes.step (T' := T42) (g' := (mkF m 46 #[.val (.int p1), .val (.int p2), .val (.int (LN p1))] [(.int (CA1 p2)), (.int (CA1 p1))])) st42 ?_
        by_cases hc46_43 : (CA1 p1) = (CA1 p2)
        ·
          refine Goes.step (T' := T42) (g' := (mkF m 51 #[.val (.int p1), .val (.int p2), .val (.int (LN p1))] [])) (fun _ k => XS.icmpYes X42.here hx rfl (pc0 := 46) (pc' := 51) rfl (hb hby d_method_6_46) rfl (teq hc46_43).1 (by decide) (by decide) k) ?_
          refine Goes.step (T' := T42) (g' := (mkF m 52 #[.val (.int p1), .val (.int p2), .val (.int (LN p1))] [(.int (1 : Int32))])) (fun _ k => XS.iconst X42.here hx rfl (hb hby d_method_6_51) k) ?_
          obtain ⟨fs, hr, hrun, hended, hW, hsame⟩ := X42.leave (v := some (.int (nar .boolean (1 : Int32)))) (fun h => by rw [Bd.returns] at h; cases h)
          have hT : TX p1 = TX p2 := (own_TXeq _ _).mpr ⟨hc10_38, Or.inl hc17_39, Or.inr hc46_43⟩
          exact ⟨_, _, retN X42 hx (t := .boolean) Bd.returns (by simp) (hb hby d_method_6_52) hr, hrun, hended, _, _, rfl, (by show Q_same Z p1 p2 h0 n0 _ T42.heap _; rw [e42]; exact ⟨(by rw [if_pos hT]; rfl), rfl, rfl⟩), ⟨_, rfl⟩, hW, hsame.mono (by decide) (by decide)⟩
        ·
          refine Goes.step (T' := T42) (g' := (mkF m 49 #[.val (.int p1), .val (.int p2), .val (.int (LN p1))] [])) (fun _ k => XS.icmpNo X42.here hx rfl (hb hby d_method_6_46) rfl (feq hc46_43).1 k) ?_
          refine Goes.step (T' := T42) (g' := (mkF m 50 #[.val (.int p1), .val (.int p2), .val (.int (LN p1))] [(.int (0 : Int32))])) (fun _ k => XS.iconst X42.here hx rfl (hb hby d_method_6_49) k) ?_
          obtain ⟨fs, hr, hrun, hended, hW, hsame⟩ := X42.leave (v := some (.int (nar .boolean (0 : Int32)))) (fun h => by rw [Bd.returns] at h; cases h)
          have hT : ¬ (TX p1 = TX p2) := fun q => ((own_TXeq _ _).mp q).2.2.elim hc35_40 hc46_43
          exact ⟨_, _, retN X42 hx (t := .boolean) Bd.returns (by simp) (hb hby d_method_6_50) hr, hrun, hended, _, _, rfl, (by show Q_same Z p1 p2 h0 n0 _ T42.heap _; rw [e42]; exact ⟨(by rw [if_neg hT]; rfl), rfl, rfl⟩), ⟨_, rfl⟩, hW, hsame.mono (by decide) (by decide)⟩
    ·
      refine Goes.step (T' := T37) (g' := (mkF m 20 #[.val (.int p1), .val (.int p2), .val (.int (LN p1))] [])) (fun _ k => XS.icmpNo X37.here hx rfl (hb hby d_method_6_17) rfl (flt hc17_39).1 k) ?_
      refine Goes.step (T' := T37) (g' := (mkF m 21 #[.val (.int p1), .val (.int p2), .val (.int (LN p1))] [(.int p1)])) (fun _ k => XS.iloadN X37.here hx rfl (hb hby d_method_6_20) rfl  k) ?_
      obtain ⟨_, _, ⟨T44, L44, k44, n44⟩, -, X44, ⟨Lc44, hQ44, l44, y44, z44⟩, st44⟩ := Jvm.LawKit.callS X37 hx (y := (⟨"com/example/wardkey/wardkey/policy/CodeOverlapsPinLaw", "c0", "(I)C"⟩ : MethodName)) hown (mvT hZ (hw _ (List.mem_of_getElem? (i := 73) rfl))) (mvT hZ (hw _ (List.mem_of_getElem? (i := 74) rfl))) (mvT hZ (hw _ (List.mem_of_getElem? (i := 2) rfl))) (mvT hZ (hw _ (List.mem_of_getElem? (i := 75) rfl))) (by decide) (backOf (W := 0) (rm_c0 l Z a0 hw [] p1 h0 n0 O0  ) hZ (hw _ (List.mem_of_getElem? (i := 75) rfl)) (hw _ (List.mem_of_getElem? (i := 2) rfl)) (by decide) (by decide)) (g := (mkF m 21 #[.val (.int p1), .val (.int p2), .val (.int (LN p1))] [(.int p1)])) rfl (by rw [hml]; rfl) (argsL := [(.int p1)]) (rest := []) (lenOf pd_4 rfl) rfl (by show 2 * 0 + _ ≤ _; exact Nat.le_of_eq rfl) (hb hby d_method_6_21) (fun _ _ => ⟨rfl, e37, (by decide : 0 + 0 ≤ _), (by decide : 0 + 0 ≤ _)⟩)
      dsimp only [Pt.U, Pt.locs, Pt.cells, Pt.slots] at X44 l44 y44 z44 st44 hQ44
      subst l44 y44 z44
      obtain ⟨rfl, rfl, e44⟩ := hQ44
      replace N0 := Fr.app N0 (Fr.nil n0)
      refine Goes.step (T' := T44) (g' := (mkF m 24 #[.val (.int p1), .val (.int p2), .val (.int (LN p1))] [(.int (CA0 p1))])) st44 ?_
      refine Goes.step (T' := T44) (g' := (mkF m 25 #[.val (.int p1), .val (.int p2), .val (.int (LN p1))] [(.int p2), (.int (CA0 p1))])) (fun _ k => XS.iloadN X44.here hx rfl (hb hby d_method_6_24) rfl  k) ?_
      obtain ⟨_, _, ⟨T45, L45, k45, n45⟩, -, X45, ⟨Lc45, hQ45, l45, y45, z45⟩, st45⟩ := Jvm.LawKit.callS X44 hx (y := (⟨"com/example/wardkey/wardkey/policy/CodeOverlapsPinLaw", "c0", "(I)C"⟩ : MethodName)) hown (mvT hZ (hw _ (List.mem_of_getElem? (i := 73) rfl))) (mvT hZ (hw _ (List.mem_of_getElem? (i := 74) rfl))) (mvT hZ (hw _ (List.mem_of_getElem? (i := 2) rfl))) (mvT hZ (hw _ (List.mem_of_getElem? (i := 75) rfl))) (by decide) (backOf (W := 1) (rm_c0 l Z a0 hw [] p2 h0 n0 O0  ) hZ (hw _ (List.mem_of_getElem? (i := 75) rfl)) (hw _ (List.mem_of_getElem? (i := 2) rfl)) (by decide) (by decide)) (g := (mkF m 25 #[.val (.int p1), .val (.int p2), .val (.int (LN p1))] [(.int p2), (.int (CA0 p1))])) rfl (by rw [hml]; rfl) (argsL := [(.int p2)]) (rest := [(.int (CA0 p1))]) (lenOf pd_4 rfl) rfl (by show 2 * 0 + _ ≤ _; exact Nat.le_of_eq rfl) (hb hby d_method_6_25) (fun _ _ => ⟨rfl, e44, (by decide : 0 + 0 ≤ _), (by decide : 0 + 0 ≤ _)⟩)
      dsimp only [Pt.U, Pt.locs, Pt.cells, Pt.slots] at X45 l45 y45 z45 st45 hQ45
      subst l45 y45 z45
      obtain ⟨rfl, rfl, e45⟩ := hQ45
      replace N0 := Fr.app N0 (Fr.nil n0)
      refine Goes.step (T' := T45) (g' := (mkF m 28 #[.val (.int p1), .val (.int p2), .val (.int (LN p1))] [(.int (CA0 p2)), (.int (CA0 p1))])) st45 ?_
      by_cases hc28_46 : (CA0 p1) = (CA0 p2)
      ·
        refine Goes.step (T' := T45) (g' := (mkF m 33 #[.val (.int p1), .val (.int p2), .val (.int (LN p1))] [])) (fun _ k => XS.icmpYes X45.here hx rfl (pc0 := 28) (pc' := 33) rfl (hb hby d_method_6_28) rfl (teq hc28_46).1 (by decide) (by decide) k) ?_
        refine Goes.step (T' := T45) (g' := (mkF m 34 #[.val (.int p1), .val (.int p2), .val (.int (LN p1))] [(.int (LN p1))])) (fun _ k => XS.iloadN X45.here hx rfl (hb hby d_method_6_33) rfl  k) ?_
        refine Goes.step (T' := T45) (g' := (mkF m 35 #[.val (.int p1), .val (.int p2), .val (.int (LN p1))] [(.int (2 : Int32)), (.int (LN p1))])) (fun _ k => XS.iconst X45.here hx rfl (hb hby d_method_6_34) k) ?_
        by_cases hc35_47 : (LN p1) < (2 : Int32)
        ·
          refine Goes.step (T' := T45) (g' := (mkF m 51 #[.val (.int p1), .val (.int p2), .val (.int (LN p1))] [])) (fun _ k => XS.icmpYes X45.here hx rfl (pc0 := 35) (pc' := 51) rfl (hb hby d_method_6_35) rfl (tlt hc35_47).1 (by decide) (by decide) k) ?_
          refine Goes.step (T' := T45) (g' := (mkF m 52 #[.val (.int p1), .val (.int p2), .val (.int (LN p1))] [(.int (1 : Int32))])) (fun _ k => XS.iconst X45.here hx rfl (hb hby d_method_6_51) k) ?_
          obtain ⟨fs, hr, hrun, hended, hW, hsame⟩ := X45.leave (v := some (.int (nar .boolean (1 : Int32)))) (fun h => by rw [Bd.returns] at h; cases h)
          have hT : TX p1 = TX p2 := (own_TXeq _ _).mpr ⟨hc10_38, Or.inr hc28_46, Or.inl hc35_47⟩
          exact ⟨_, _, retN X45 hx (t := .boolean) Bd.returns (by simp) (hb hby d_method_6_52) hr, hrun, hended, _, _, rfl, (by show Q_same Z p1 p2 h0 n0 _ T45.heap _; rw [e45]; exact ⟨(by rw [if_pos hT]; rfl), rfl, rfl⟩), ⟨_, rfl⟩, hW, hsame.mono (by decide) (by decide)⟩
        ·
          refine Goes.step (T' := T45) (g' := (mkF m 38 #[.val (.int p1), .val (.int p2), .val (.int (LN p1))] [])) (fun _ k => XS.icmpNo X45.here hx rfl (hb hby d_method_6_35) rfl (flt hc35_47).1 k) ?_
          refine Goes.step (T' := T45) (g' := (mkF m 39 #[.val (.int p1), .val (.int p2), .val (.int (LN p1))] [(.int p1)])) (fun _ k => XS.iloadN X45.here hx rfl (hb hby d_method_6_38) rfl  k) ?_
          obtain ⟨_, _, ⟨T48, L48, k48, n48⟩, -, X48, ⟨Lc48, hQ48, l48, y48, z48⟩, st48⟩ := Jvm.LawKit.callS X45 hx (y := (⟨"com/example/wardkey/wardkey/policy/CodeOverlapsPinLaw", "c1", "(I)C"⟩ : MethodName)) hown (mvT hZ (hw _ (List.mem_of_getElem? (i := 76) rfl))) (mvT hZ (hw _ (List.mem_of_getElem? (i := 77) rfl))) (mvT hZ (hw _ (List.mem_of_getElem? (i := 2) rfl))) (mvT hZ (hw _ (List.mem_of_getElem? (i := 78) rfl))) (by decide) (backOf (W := 0) (rm_c1 l Z a0 hw [] p1 h0 n0 O0  ) hZ (hw _ (List.mem_of_getElem? (i := 78) rfl)) (hw _ (List.mem_of_getElem? (i := 2) rfl)) (by decide) (by decide)) (g := (mkF m 39 #[.val (.int p1), .val (.int p2), .val (.int (LN p1))] [(.int p1)])) rfl (by rw [hml]; rfl) (argsL := [(.int p1)]) (rest := []) (lenOf pd_4 rfl) rfl (by show 2 * 0 + _ ≤ _; exact Nat.le_of_eq rfl) (hb hby d_method_6_39) (fun _ _ => ⟨rfl, e45, (by decide : 0 + 0 ≤ _), (by decide : 0 + 0 ≤ _)⟩)
          dsimp only [Pt.U, Pt.locs, Pt.cells, Pt.slots] at X48 l48 y48 z48 st48 hQ48
          subst l48 y48 z48
          obtain ⟨rfl, rfl, e48⟩ := hQ48
          replace N0 := Fr.app N0 (Fr.nil n0)
          refine Goes.step (T' := T48) (g' := (mkF m 42 #[.val (.int p1), .val (.int p2), .val (.int (LN p1))] [(.int (CA1 p1))])) st48 ?_
          refine Goes.step (T' := T48) (g' := (mkF m 43 #[.val (.int p1), .val (.int p2), .val (.int (LN p1))] [(.int p2), (.int (CA1 p1))])) (fun _ k => XS.iloadN X48.here hx rfl (hb hby d_method_6_42) rfl  k) ?_
          obtain ⟨_, _, ⟨T49, L49, k49, n49⟩, -, X49, ⟨Lc49, hQ49, l49, y49, z49⟩, st49⟩ := Jvm.LawKit.callS X48 hx (y := (⟨"com/example/wardkey/wardkey/policy/CodeOverlapsPinLaw", "c1", "(I)C"⟩ : MethodName)) hown (mvT hZ (hw _ (List.mem_of_getElem? (i := 76) rfl))) (mvT hZ (hw _ (List.mem_of_getElem? (i := 77) rfl))) (mvT hZ (hw _ (List.mem_of_getElem? (i := 2) rfl))) (mvT hZ (hw _ (List.mem_of_getElem? (i := 78) rfl))) (by decide) (backOf (W := 1) (rm_c1 l Z a0 hw [] p2 h0 n0 O0  ) hZ (hw _ (List.mem_of_getElem? (i := 78) rfl)) (hw _ (List.mem_of_getElem? (i := 2) rfl)) (by decide) (by decide)) (g := (mkF m 43 #[.val (.int p1), .val (.int p2), .val (.int (LN p1))] [(.int p2), (.int (CA1 p1))])) rfl (by rw [hml]; rfl) (argsL := [(.int p2)]) (rest := [(.int (CA1 p1))]) (lenOf pd_4 rfl) rfl (by show 2 * 0 + _ ≤ _; exact Nat.le_of_eq rfl) (hb hby d_method_6_43) (fun _ _ => ⟨rfl, e48, (by decide : 0 + 0 ≤ _), (by decide : 0 + 0 ≤ _)⟩)
          dsimp only [Pt.U, Pt.locs, Pt.cells, Pt.slots] at X49 l49 y49 z49 st49 hQ49
          subst l49 y49 z49
          obtain ⟨rfl, rfl, e49⟩ := hQ49
          replace N0 := Fr.app N0 (Fr.nil n0)
          refine Goes.step (T' := T49) (g' := (mkF m 46 #[.val (.int p1), .val (.int p2), .val (.int (LN p1))] [(.int (CA1 p2)), (.int (CA1 p1))])) st49 ?_
          by_cases hc46_50 : (CA1 p1) = (CA1 p2)
          ·
            refine Goes.step (T' := T49) (g' := (mkF m 51 #[.val (.int p1), .val (.int p2), .val (.int (LN p1))] [])) (fun _ k => XS.icmpYes X49.here hx rfl (pc0 := 46) (pc' := 51) rfl (hb hby d_method_6_46) rfl (teq hc46_50).1 (by decide) (by decide) k) ?_
            refine Goes.step (T' := T49) (g' := (mkF m 52 #[.val (.int p1), .val (.int p2), .val (.int (LN p1))] [(.int (1 : Int32))])) (fun _ k => XS.iconst X49.here hx rfl (hb hby d_method_6_51) k) ?_
            obtain ⟨fs, hr, hrun, hended, hW, hsame⟩ := X49.leave (v := some (.int (nar .boolean (1 : Int32)))) (fun h => by rw [Bd.returns] at h; cases h)
            have hT : TX p1 = TX p2 := (own_TXeq _ _).mpr ⟨hc10_38, Or.inr hc28_46, Or.inr hc46_50⟩
            exact ⟨_, _, retN X49 hx (t := .boolean) Bd.returns (by simp) (hb hby d_method_6_52) hr, hrun, hended, _, _, rfl, (by show Q_same Z p1 p2 h0 n0 _ T49.heap _; rw [e49]; exact ⟨(by rw [if_pos hT]; rfl), rfl, rfl⟩), ⟨_, rfl⟩, hW, hsame.mono (by decide) (by decide)⟩
          ·
            refine Goes.step (T' := T49) (g' := (mkF m 49 #[.val (.int p1), .val (.int p2), .val (.int (LN p1))] [])) (fun _ k => XS.icmpNo X49.here hx rfl (hb hby d_method_6_46) rfl (feq hc46_50).1 k) ?_
            refine Goes.step (T' := T49) (g' := (mkF m 50 #[.val (.int p1), .val (.int p2), .val (.int (LN p1))] [(.int (0 : Int32))])) (fun _ k => XS.iconst X49.here hx rfl (hb hby d_method_6_49) k) ?_
            obtain ⟨fs, hr, hrun, hended, hW, hsame⟩ := X49.leave (v := some (.int (nar .boolean (0 : Int32)))) (fun h => by rw [Bd.returns] at h; cases h)
            have hT : ¬ (TX p1 = TX p2) := fun q => ((own_TXeq _ _).mp q).2.2.elim hc35_47 hc46_50
            exact ⟨_, _, retN X49 hx (t := .boolean) Bd.returns (by simp) (hb hby d_method_6_50) hr, hrun, hended, _, _, rfl, (by show Q_same Z p1 p2 h0 n0 _ T49.heap _; rw [e49]; exact ⟨(by rw [if_neg hT]; rfl), rfl, rfl⟩), ⟨_, rfl⟩, hW, hsame.mono (by decide) (by decide)⟩
      ·
        refine Goes.step (T' := T45) (g' := (mkF m 31 #[.val (.int p1), .val (.int p2), .val (.int (LN p1))] [])) (fun _ k => XS.icmpNo X45.here hx rfl (hb hby d_method_6_28) rfl (feq hc28_46).1 k) ?_
        refine Goes.step (T' := T45) (g' := (mkF m 32 #[.val (.int p1), .val (.int p2), .val (.int (LN p1))] [(.int (0 : Int32))])) (fun _ k => XS.iconst X45.here hx rfl (hb hby d_method_6_31) k) ?_
        obtain ⟨fs, hr, hrun, hended, hW, hsame⟩ := X45.leave (v := some (.int (nar .boolean (0 : Int32)))) (fun h => by rw [Bd.returns] at h; cases h)
        have hT : ¬ (TX p1 = TX p2) := fun q => ((own_TXeq _ _).mp q).2.1.elim hc17_39 hc28_46
        exact ⟨_, _, retN X45 hx (t := .boolean) Bd.returns (by simp) (hb hby d_method_6_32) hr, hrun, hended, _, _, rfl, (by show Q_same Z p1 p2 h0 n0 _ T45.heap _; rw [e45]; exact ⟨(by rw [if_neg hT]; rfl), rfl, rfl⟩), ⟨_, rfl⟩, hW, hsame.mono (by decide) (by decide)⟩
  ·
    refine Goes.step (T' := T37) (g' := (mkF m 13 #[.val (.int p1), .val (.int p2), .val (.int (LN p1))] [])) (fun _ k => XS.icmpNo X37.here hx rfl (hb hby d_method_6_10) rfl (feq hc10_38).1 k) ?_
    refine Goes.step (T' := T37) (g' := (mkF m 14 #[.val (.int p1), .val (.int p2), .val (.int (LN p1))] [(.int (0 : Int32))])) (fun _ k => XS.iconst X37.here hx rfl (hb hby d_method_6_13) k) ?_
    obtain ⟨fs, hr, hrun, hended, hW, hsame⟩ := X37.leave (v := some (.int (nar .boolean (0 : Int32)))) (fun h => by rw [Bd.returns] at h; cases h)
    have hT : ¬ (TX p1 = TX p2) := fun q => hc10_38 ((own_TXeq _ _).mp q).1
    exact ⟨_, _, retN X37 hx (t := .boolean) Bd.returns (by simp) (hb hby d_method_6_14) hr, hrun, hended, _, _, rfl, (by show Q_same Z p1 p2 h0 n0 _ T37.heap _; rw [e37]; exact ⟨(by rw [if_neg hT]; rfl), rfl, rfl⟩), ⟨_, rfl⟩, hW, hsame.mono (by decide) (by decide)⟩
theorem d_prog_21_method_4_0 : decode prog_21_method_4_code 0 = .ok (.aload_n 0, 1) := by decide +kernel
theorem d_prog_21_method_4_1 : decode prog_21_method_4_code 1 = .ok (.getfield 21, 3) := by decide +kernel
theorem d_prog_21_method_4_4 : decode prog_21_method_4_code 4 = .ok (.aload_n 1, 1) := by decide +kernel
theorem d_prog_21_method_4_5 : decode prog_21_method_4_code 5 = .ok (.getfield 21, 3) := by decide +kernel
theorem d_prog_21_method_4_8 : decode prog_21_method_4_code 8 = .ok (.invokevirtual 80, 3) := by decide +kernel
theorem pd_7 : parseMethodDescriptor "(Ljava/lang/Object;)Z" = some ⟨[(.object "java/lang/Object")], some .boolean⟩ := by decide +kernel
theorem d_prog_21_method_4_11 : decode prog_21_method_4_code 11 = .ok (.ifCond .eq 35, 3) := by decide +kernel
theorem d_prog_21_method_4_46 : decode prog_21_method_4_code 46 = .ok (.iconst 0, 1) := by decide +kernel
theorem d_prog_21_method_4_47 : decode prog_21_method_4_code 47 = .ok (.ireturn, 1) := by decide +kernel
theorem d_prog_21_method_4_14 : decode prog_21_method_4_code 14 = .ok (.aload_n 0, 1) := by decide +kernel
theorem d_prog_21_method_4_15 : decode prog_21_method_4_code 15 = .ok (.getfield 15, 3) := by decide +kernel
theorem d_prog_21_method_4_18 : decode prog_21_method_4_code 18 = .ok (.ifnull 24, 3) := by decide +kernel
theorem d_prog_21_method_4_42 : decode prog_21_method_4_code 42 = .ok (.iconst 1, 1) := by decide +kernel
theorem d_prog_21_method_4_43 : decode prog_21_method_4_code 43 = .ok (.goto 4, 3) := by decide +kernel
theorem ef_ovNN (m : MethodId) (a1 : Addr) (a2 : Addr) : entryFrame m #[(.ref a1), (.ref a2)] 2 = mkF m 0 #[.val (.ref a1), .val (.ref a2)] [] := by first | (simp [entryFrame, mkF, argsToLocals, Value.category, maxLocals]; done) | rfl
def Q_ovNN (Z : State) (a1 : Addr) (a2 : Addr) (c1 : Addr) (l1 : List Int32) (c2 : Addr) (l2 : List Int32) (h0 : Heap) (n0 : Nat) (v : Option Value) (h : Heap) (L : List Loc) : Prop := (v = some (.int (if l1 = l2 then 1 else 0))) ∧ (L = []) ∧ (h = h0)
set_option maxRecDepth 65536 in
set_option maxHeartbeats 40000000 in
theorem rm_ovNN (l : Launch) (Z : State) (a0 : Array Value) (hw : ∀ d ∈ tables_1, d.before a0 Z = true) (ws : List Jvm.Cond) (a1 : Addr) (a2 : Addr) (c1 : Addr) (l1 : List Int32) (c2 : Addr) (l2 : List Int32) (h0 : Heap) (n0 : Nat) (O0 : Old Z n0 h0) (zcs : Int32) (Scs : Sta Z Z.heap "java/lang/String" "COMPACT_STRINGS" "Z" (.int zcs)) (hz_Scs : ¬ zcs = 0) (F_a1_code : Fld Z h0 a1 "com/example/wardkey/wardkey/policy/Code" "code" "Ljava/lang/String;" (.ref c1)) (F_a2_code : Fld Z h0 a2 "com/example/wardkey/wardkey/policy/Code" "code" "Ljava/lang/String;" (.ref c2)) (E_c1 : Exa Z h0 c1 "java/lang/String") (G_c1 : SX Z h0 c1 l1) (E_c2 : Exa Z h0 c2 "java/lang/String") (G_c2 : SX Z h0 c2 l2) (F_a1_system : Fld Z h0 a1 "com/example/wardkey/wardkey/policy/Code" "system" "Ljava/lang/String;" .null) (F_a2_system : Fld Z h0 a2 "com/example/wardkey/wardkey/policy/Code" "system" "Ljava/lang/String;" .null) (hl_l1 : l1.length ≤ 4000) (hl_l2 : l2.length ≤ 4000) :
    MetFree l (⟨"com/example/wardkey/wardkey/policy/Code", "overlaps", "(Lcom/example/wardkey/wardkey/policy/Code;)Z"⟩ : MethodName) (head1 ((Jvm.Cond.code (⟨"com/example/wardkey/wardkey/policy/Code", "overlaps", "(Lcom/example/wardkey/wardkey/policy/Code;)Z"⟩ : MethodName) prog_21_method_4_code 2 (some .boolean)) :: ws) ({ frames := 2, cells := 0, slots := 0, locals := 28 } : Room)) (fun a U => a = #[(.ref a1), (.ref a2)] ∧ Z.Warmed39 U.vm ∧ U.heap = h0) (fun _ _ _ _ _ => True) (fun _ U o U' => ∃ v L, o = .returned v ∧ Q_ovNN Z a1 a2 c1 l1 c2 l2 h0 n0 v U'.heap L ∧ FrameEnd U o U' L ({ frames := 2, cells := 0, slots := 0, locals := 28 } : Room).cells ({ frames := 2, cells := 0, slots := 0, locals := 28 } : Room).slots) := by
  refine MetFree.of_bodySF (plainFor_of_name pn_4) hisR ?_
  intro p e s m args below meth c s₁ Bd hml0 hP hK
  obtain ⟨rfl, hZ, hh⟩ := hP
  have hx := Bd.exec
  have hby := Bd.bytes
  have hml : c.maxLocals = 2 := hml0
  have hown : s.vm.findClass "com/example/wardkey/wardkey/policy/Code" = some m.cls := findClass_of_methodNamed Bd.named
  have hnm := (name_of_methodNamed Bd.named Bd.method).1
  have X0 : Stand p l e ({ frames := 2, cells := 0, slots := 0, locals := 28 } : Room) s m #[(.ref a1), (.ref a2)] below meth c s₁ [] 0 0 := Stand.of_body Bd
  have e0 : s₁.heap = h0 := by rw [← hh, Bd.state]; rfl
  have N0 := Fr.nil n0
  have K0 : Keep h0 h0 [] := Keep.refl _ _
  suffices hG : Goes p e below (fun o U' => ∃ v L, o = .returned v ∧ Q_ovNN Z a1 a2 c1 l1 c2 l2 h0 n0 v U'.heap L ∧ FrameEnd s o U' L ({ frames := 2, cells := 0, slots := 0, locals := 28 } : Room).cells ({ frames := 2, cells := 0, slots := 0, locals := 28 } : Room).slots) s₁ (mkF m 0 #[.val (.ref a1), .val (.ref a2)] []) by
    obtain ⟨t, o, h1, h2⟩ := hG; exact ⟨t, o, castTop (ef_ovNN m a1 a2) h1, h2⟩
  refine Goes.step (T' := s₁) (g' := (mkF m 1 #[.val (.ref a1), .val (.ref a2)] [(.ref a1)])) (fun _ k => XS.aloadN X0.here hx rfl (hb hby d_prog_21_method_4_0) rfl rfl k) ?_
  obtain ⟨T51, X51, e51, st51⟩ := getF X0 hx hZ hown (host := "") (Or.inl (hw _ (List.mem_of_getElem? (i := 52) rfl))) Via.refl e0 F_a1_code (g := (mkF m 1 #[.val (.ref a1), .val (.ref a2)] [(.ref a1)])) rfl rfl (hb hby d_prog_21_method_4_1)
  refine Goes.step (T' := T51) (g' := (mkF m 4 #[.val (.ref a1), .val (.ref a2)] [(.ref c1)])) st51 ?_
  refine Goes.step (T' := T51) (g' := (mkF m 5 #[.val (.ref a1), .val (.ref a2)] [(.ref a2), (.ref c1)])) (fun _ k => XS.aloadN X51.here hx rfl (hb hby d_prog_21_method_4_4) rfl rfl k) ?_
  obtain ⟨T52, X52, e52, st52⟩ := getF X51 hx hZ hown (host := "") (Or.inl (hw _ (List.mem_of_getElem? (i := 52) rfl))) Via.refl e51 F_a2_code (g := (mkF m 5 #[.val (.ref a1), .val (.ref a2)] [(.ref a2), (.ref c1)])) rfl rfl (hb hby d_prog_21_method_4_5)
  refine Goes.step (T' := T52) (g' := (mkF m 8 #[.val (.ref a1), .val (.ref a2)] [(.ref c2), (.ref c1)])) st52 ?_
  obtain ⟨cq53, kq53, qa53, qb53, qc53⟩ := isOf hZ e52 E_c1
  obtain ⟨_, _, ⟨T53, L53, k53, n53⟩, -, X53, ⟨Lc53, hQ53, l53, y53, z53⟩, st53⟩ := X52.virtualBack hx (y := (⟨"java/lang/String", "equals", "(Ljava/lang/Object;)Z"⟩ : MethodName)) (z := (⟨"java/lang/String", "equals", "(Ljava/lang/Object;)Z"⟩ : MethodName)) hown (mvT hZ (hw _ (List.mem_of_getElem? (i := 62) rfl))) (mvT hZ (hw _ (List.mem_of_getElem? (i := 63) rfl))) (notFace_of_selects (args := #[]) (mvT hZ (hw _ (List.mem_of_getElem? (i := 65) rfl)))) (mvT hZ (hw _ (List.mem_of_getElem? (i := 65) rfl))) (mvT hZ (hw _ (List.mem_of_getElem? (i := 64) rfl))) (by decide) (own_eqW (W := 0) hZ hw (hw _ (List.mem_of_getElem? (i := 12) rfl)) G_c1 G_c2 (hl_l1) (hl_l2) (Scs.ext O0.2) hz_Scs (by decide) (by decide)) qa53 qc53 (g := (mkF m 8 #[.val (.ref a1), .val (.ref a2)] [(.ref c2), (.ref c1)])) rfl (by rw [hml]; rfl) (Steps.refl _) (argsL := [(.ref c2)]) (rest := []) (lenOf pd_7 rfl) rfl (by show 2 * 0 + _ ≤ _; exact Nat.le_of_eq rfl) (hb hby d_prog_21_method_4_8) (fun _ _ => ⟨rfl, e52, (by decide : 0 + 0 ≤ _), (by decide : 0 + 0 ≤ _)⟩)
  dsimp only [Pt.U, Pt.locs, Pt.cells, Pt.slots] at X53 l53 y53 z53 st53 hQ53
  subst l53 y53 z53
  obtain ⟨rfl, rfl, e53⟩ := hQ53
  replace N0 := Fr.app N0 (Fr.nil n0)
  refine Goes.run (T' := T53) (g' := (mkF m 11 #[.val (.ref a1), .val (.ref a2)] [(.int (if l1 = l2 then 1 else 0))])) st53 ?_
  by_cases hc11_54 : (if l1 = l2 then 1 else 0) = (0 : Int32)
  ·
    refine Goes.step (T' := T53) (g' := (mkF m 46 #[.val (.ref a1), .val (.ref a2)] [])) (fun _ k => XS.ifYes X53.here hx rfl (pc0 := 11) (pc' := 46) rfl (hb hby d_prog_21_method_4_11) rfl ((if0 _ _).trans (teq hc11_54).1) (by decide) (by decide) k) ?_
    refine Goes.step (T' := T53) (g' := (mkF m 47 #[.val (.ref a1), .val (.ref a2)] [(.int (0 : Int32))])) (fun _ k => XS.iconst X53.here hx rfl (hb hby d_prog_21_method_4_46) k) ?_
    obtain ⟨fs, hr, hrun, hended, hW, hsame⟩ := X53.leave (v := some (.int (nar .boolean (0 : Int32)))) (fun h => by rw [Bd.returns] at h; cases h)
    exact ⟨_, _, retN X53 hx (t := .boolean) Bd.returns (by simp) (hb hby d_prog_21_method_4_47) hr, hrun, hended, _, _, rfl, (by show Q_ovNN Z a1 a2 c1 l1 c2 l2 h0 n0 _ T53.heap _; rw [e53]; exact ⟨(by by_cases q1 : l1 = l2 <;> simp_all <;> rfl), rfl, rfl⟩), ⟨_, rfl⟩, hW, hsame.mono (by decide) (by decide)⟩
  ·
    refine Goes.step (T' := T53) (g' := (mkF m 14 #[.val (.ref a1), .val (.ref a2)] [])) (fun _ k => XS.ifNo X53.here hx rfl (hb hby d_prog_21_method_4_11) rfl ((if0 _ _).trans (feq hc11_54).1) k) ?_
    refine Goes.step (T' := T53) (g' := (mkF m 15 #[.val (.ref a1), .val (.ref a2)] [(.ref a1)])) (fun _ k => XS.aloadN X53.here hx rfl (hb hby d_prog_21_method_4_14) rfl rfl k) ?_
    obtain ⟨T55, X55, e55, st55⟩ := getF X53 hx hZ hown (host := "") (Or.inl (hw _ (List.mem_of_getElem? (i := 50) rfl))) Via.refl e53 F_a1_system (g := (mkF m 15 #[.val (.ref a1), .val (.ref a2)] [(.ref a1)])) rfl rfl (hb hby d_prog_21_method_4_15)
    refine Goes.step (T' := T55) (g' := (mkF m 18 #[.val (.ref a1), .val (.ref a2)] [.null])) st55 ?_
    refine Goes.step (T' := T55) (g' := (mkF m 42 #[.val (.ref a1), .val (.ref a2)] [])) (fun _ k => XS.ifnullYes X55.here hx rfl (pc0 := 18) (pc' := 42) rfl (hb hby d_prog_21_method_4_18) rfl (by decide) (by decide) k) ?_
    refine Goes.step (T' := T55) (g' := (mkF m 43 #[.val (.ref a1), .val (.ref a2)] [(.int (1 : Int32))])) (fun _ k => XS.iconst X55.here hx rfl (hb hby d_prog_21_method_4_42) k) ?_
    refine Goes.step (T' := T55) (g' := (mkF m 47 #[.val (.ref a1), .val (.ref a2)] [(.int (1 : Int32))])) (fun _ k => XS.goto X55.here hx rfl (pc0 := 43) (pc' := 47) rfl (hb hby d_prog_21_method_4_43) (by decide) (by decide) k) ?_
    obtain ⟨fs, hr, hrun, hended, hW, hsame⟩ := X55.leave (v := some (.int (nar .boolean (1 : Int32)))) (fun h => by rw [Bd.returns] at h; cases h)
    exact ⟨_, _, retN X55 hx (t := .boolean) Bd.returns (by simp) (hb hby d_prog_21_method_4_47) hr, hrun, hended, _, _, rfl, (by show Q_ovNN Z a1 a2 c1 l1 c2 l2 h0 n0 _ T55.heap _; rw [e55]; exact ⟨(by by_cases q1 : l1 = l2 <;> simp_all <;> rfl), rfl, rfl⟩), ⟨_, rfl⟩, hW, hsame.mono (by decide) (by decide)⟩
theorem ef_ovNS (m : MethodId) (a1 : Addr) (a2 : Addr) : entryFrame m #[(.ref a1), (.ref a2)] 2 = mkF m 0 #[.val (.ref a1), .val (.ref a2)] [] := by first | (simp [entryFrame, mkF, argsToLocals, Value.category, maxLocals]; done) | rfl
def Q_ovNS (Z : State) (a1 : Addr) (a2 : Addr) (c1 : Addr) (l1 : List Int32) (c2 : Addr) (l2 : List Int32) (s2 : Addr) (m2 : List Int32) (h0 : Heap) (n0 : Nat) (v : Option Value) (h : Heap) (L : List Loc) : Prop := (v = some (.int (if l1 = l2 then 1 else 0))) ∧ (L = []) ∧ (h = h0)
set_option maxRecDepth 65536 in
set_option maxHeartbeats 40000000 in
theorem rm_ovNS (l : Launch) (Z : State) (a0 : Array Value) (hw : ∀ d ∈ tables_1, d.before a0 Z = true) (ws : List Jvm.Cond) (a1 : Addr) (a2 : Addr) (c1 : Addr) (l1 : List Int32) (c2 : Addr) (l2 : List Int32) (s2 : Addr) (m2 : List Int32) (h0 : Heap) (n0 : Nat) (O0 : Old Z n0 h0) (zcs : Int32) (Scs : Sta Z Z.heap "java/lang/String" "COMPACT_STRINGS" "Z" (.int zcs)) (hz_Scs : ¬ zcs = 0) (F_a1_code : Fld Z h0 a1 "com/example/wardkey/wardkey/policy/Code" "code" "Ljava/lang/String;" (.ref c1)) (F_a2_code : Fld Z h0 a2 "com/example/wardkey/wardkey/policy/Code" "code" "Ljava/lang/String;" (.ref c2)) (E_c1 : Exa Z h0 c1 "java/lang/String") (G_c1 : SX Z h0 c1 l1) (E_c2 : Exa Z h0 c2 "java/lang/String") (G_c2 : SX Z h0 c2 l2) (F_a1_system : Fld Z h0 a1 "com/example/wardkey/wardkey/policy/Code" "system" "Ljava/lang/String;" .null) (F_a2_system : Fld Z h0 a2 "com/example/wardkey/wardkey/policy/Code" "system" "Ljava/lang/String;" (.ref s2)) (E_s2 : Exa Z h0 s2 "java/lang/String") (G_s2 : SX Z h0 s2 m2) (hl_l1 : l1.length ≤ 4000) (hl_l2 : l2.length ≤ 4000) (hl_m2 : m2.length ≤ 4000) :
    MetFree l (⟨"com/example/wardkey/wardkey/policy/Code", "overlaps", "(Lcom/example/wardkey/wardkey/policy/Code;)Z"⟩ : MethodName) (head1 ((Jvm.Cond.code (⟨"com/example/wardkey/wardkey/policy/Code", "overlaps", "(Lcom/example/wardkey/wardkey/policy/Code;)Z"⟩ : MethodName) prog_21_method_4_code 2 (some .boolean)) :: ws) ({ frames := 2, cells := 0, slots := 0, locals := 28 } : Room)) (fun a U => a = #[(.ref a1), (.ref a2)] ∧ Z.Warmed39 U.vm ∧ U.heap = h0) (fun _ _ _ _ _ => True) (fun _ U o U' => ∃ v L, o = .returned v ∧ Q_ovNS Z a1 a2 c1 l1 c2 l2 s2 m2 h0 n0 v U'.heap L ∧ FrameEnd U o U' L ({ frames := 2, cells := 0, slots := 0, locals := 28 } : Room).cells ({ frames := 2, cells := 0, slots := 0, locals := 28 } : Room).slots) := by
  refine MetFree.of_bodySF (plainFor_of_name pn_4) hisR ?_
  intro p e s m args below meth c s₁ Bd hml0 hP hK
  obtain ⟨rfl, hZ, hh⟩ := hP
  have hx := Bd.exec
  have hby := Bd.bytes
  have hml : c.maxLocals = 2 := hml0
  have hown : s.vm.findClass "com/example/wardkey/wardkey/policy/Code" = some m.cls := findClass_of_methodNamed Bd.named
  have hnm := (name_of_methodNamed Bd.named Bd.method).1
  have X0 : Stand p l e ({ frames := 2, cells := 0, slots := 0, locals := 28 } : Room) s m #[(.ref a1), (.ref a2)] below meth c s₁ [] 0 0 := Stand.of_body Bd
  have e0 : s₁.heap = h0 := by rw [← hh, Bd.state]; rfl
  have N0 := Fr.nil n0
  have K0 : Keep h0 h0 [] := Keep.refl _ _
  suffices hG : Goes p e below (fun o U' => ∃ v L, o = .returned v ∧ Q_ovNS Z a1 a2 c1 l1 c2 l2 s2 m2 h0 n0 v U'.heap L ∧ FrameEnd s o U' L ({ frames := 2, cells := 0, slots := 0, locals := 28 } : Room).cells ({ frames := 2, cells := 0, slots := 0, locals := 28 } : Room).slots) s₁ (mkF m 0 #[.val (.ref a1), .val (.ref a2)] []) by
    obtain ⟨t, o, h1, h2⟩ := hG; exact ⟨t, o, castTop (ef_ovNS m a1 a2) h1, h2⟩
  refine Goes.step (T' := s₁) (g' := (mkF m 1 #[.val (.ref a1), .val (.ref a2)] [(.ref a1)])) (fun _ k => XS.aloadN X0.here hx rfl (hb hby d_prog_21_method_4_0) rfl rfl k) ?_
  obtain ⟨T56, X56, e56, st56⟩ := getF X0 hx hZ hown (host := "") (Or.inl (hw _ (List.mem_of_getElem? (i := 52) rfl))) Via.refl e0 F_a1_code (g := (mkF m 1 #[.val (.ref a1), .val (.ref a2)] [(.ref a1)])) rfl rfl (hb hby d_prog_21_method_4_1)
  refine Goes.step (T' := T56) (g' := (mkF m 4 #[.val (.ref a1), .val (.ref a2)] [(.ref c1)])) st56 ?_
  refine Goes.step (T' := T56) (g' := (mkF m 5 #[.val (.ref a1), .val (.ref a2)] [(.ref a2), (.ref c1)])) (fun _ k => XS.aloadN X56.here hx rfl (hb hby d_prog_21_method_4_4) rfl rfl k) ?_
  obtain ⟨T57, X57, e57, st57⟩ := getF X56 hx hZ hown (host := "") (Or.inl (hw _ (List.mem_of_getElem? (i := 52) rfl))) Via.refl e56 F_a2_code (g := (mkF m 5 #[.val (.ref a1), .val (.ref a2)] [(.ref a2), (.ref c1)])) rfl rfl (hb hby d_prog_21_method_4_5)
  refine Goes.step (T' := T57) (g' := (mkF m 8 #[.val (.ref a1), .val (.ref a2)] [(.ref c2), (.ref c1)])) st57 ?_
  obtain ⟨cq58, kq58, qa58, qb58, qc58⟩ := isOf hZ e57 E_c1
  obtain ⟨_, _, ⟨T58, L58, k58, n58⟩, -, X58, ⟨Lc58, hQ58, l58, y58, z58⟩, st58⟩ := X57.virtualBack hx (y := (⟨"java/lang/String", "equals", "(Ljava/lang/Object;)Z"⟩ : MethodName)) (z := (⟨"java/lang/String", "equals", "(Ljava/lang/Object;)Z"⟩ : MethodName)) hown (mvT hZ (hw _ (List.mem_of_getElem? (i := 62) rfl))) (mvT hZ (hw _ (List.mem_of_getElem? (i := 63) rfl))) (notFace_of_selects (args := #[]) (mvT hZ (hw _ (List.mem_of_getElem? (i := 65) rfl)))) (mvT hZ (hw _ (List.mem_of_getElem? (i := 65) rfl))) (mvT hZ (hw _ (List.mem_of_getElem? (i := 64) rfl))) (by decide) (own_eqW (W := 0) hZ hw (hw _ (List.mem_of_getElem? (i := 12) rfl)) G_c1 G_c2 (hl_l1) (hl_l2) (Scs.ext O0.2) hz_Scs (by decide) (by decide)) qa58 qc58 (g := (mkF m 8 #[.val (.ref a1), .val (.ref a2)] [(.ref c2), (.ref c1)])) rfl (by rw [hml]; rfl) (Steps.refl _) (argsL := [(.ref c2)]) (rest := []) (lenOf pd_7 rfl) rfl (by show 2 * 0 + _ ≤ _; exact Nat.le_of_eq rfl) (hb hby d_prog_21_method_4_8) (fun _ _ => ⟨rfl, e57, (by decide : 0 + 0 ≤ _), (by decide : 0 + 0 ≤ _)⟩)
  dsimp only [Pt.U, Pt.locs, Pt.cells, Pt.slots] at X58 l58 y58 z58 st58 hQ58
  subst l58 y58 z58
  obtain ⟨rfl, rfl, e58⟩ := hQ58
  replace N0 := Fr.app N0 (Fr.nil n0)
  refine Goes.run (T' := T58) (g' := (mkF m 11 #[.val (.ref a1), .val (.ref a2)] [(.int (if l1 = l2 then 1 else 0))])) st58 ?_
  by_cases hc11_59 : (if l1 = l2 then 1 else 0) = (0 : Int32)
  ·
    refine Goes.step (T' := T58) (g' := (mkF m 46 #[.val (.ref a1), .val (.ref a2)] [])) (fun _ k => XS.ifYes X58.here hx rfl (pc0 := 11) (pc' := 46) rfl (hb hby d_prog_21_method_4_11) rfl ((if0 _ _).trans (teq hc11_59).1) (by decide) (by decide) k) ?_
    refine Goes.step (T' := T58) (g' := (mkF m 47 #[.val (.ref a1), .val (.ref a2)] [(.int (0 : Int32))])) (fun _ k => XS.iconst X58.here hx rfl (hb hby d_prog_21_method_4_46) k) ?_
    obtain ⟨fs, hr, hrun, hended, hW, hsame⟩ := X58.leave (v := some (.int (nar .boolean (0 : Int32)))) (fun h => by rw [Bd.returns] at h; cases h)
    exact ⟨_, _, retN X58 hx (t := .boolean) Bd.returns (by simp) (hb hby d_prog_21_method_4_47) hr, hrun, hended, _, _, rfl, (by show Q_ovNS Z a1 a2 c1 l1 c2 l2 s2 m2 h0 n0 _ T58.heap _; rw [e58]; exact ⟨(by by_cases q1 : l1 = l2 <;> simp_all <;> rfl), rfl, rfl⟩), ⟨_, rfl⟩, hW, hsame.mono (by decide) (by decide)⟩
  ·
    refine Goes.step (T' := T58) (g' := (mkF m 14 #[.val (.ref a1), .val (.ref a2)] [])) (fun _ k => XS.ifNo X58.here hx rfl (hb hby d_prog_21_method_4_11) rfl ((if0 _ _).trans (feq hc11_59).1) k) ?_
    refine Goes.step (T' := T58) (g' := (mkF m 15 #[.val (.ref a1), .val (.ref a2)] [(.ref a1)])) (fun _ k => XS.aloadN X58.here hx rfl (hb hby d_prog_21_method_4_14) rfl rfl k) ?_
    obtain ⟨T60, X60, e60, st60⟩ := getF X58 hx hZ hown (host := "") (Or.inl (hw _ (List.mem_of_getElem? (i := 50) rfl))) Via.refl e58 F_a1_system (g := (mkF m 15 #[.val (.ref a1), .val (.ref a2)] [(.ref a1)])) rfl rfl (hb hby d_prog_21_method_4_15)
    refine Goes.step (T' := T60) (g' := (mkF m 18 #[.val (.ref a1), .val (.ref a2)] [.null])) st60 ?_
    refine Goes.step (T' := T60) (g' := (mkF m 42 #[.val (.ref a1), .val (.ref a2)] [])) (fun _ k => XS.ifnullYes X60.here hx rfl (pc0 := 18) (pc' := 42) rfl (hb hby d_prog_21_method_4_18) rfl (by decide) (by decide) k) ?_
    refine Goes.step (T' := T60) (g' := (mkF m 43 #[.val (.ref a1), .val (.ref a2)] [(.int (1 : Int32))])) (fun _ k => XS.iconst X60.here hx rfl (hb hby d_prog_21_method_4_42) k) ?_
    refine Goes.step (T' := T60) (g' := (mkF m 47 #[.val (.ref a1), .val (.ref a2)] [(.int (1 : Int32))])) (fun _ k => XS.goto X60.here hx rfl (pc0 := 43) (pc' := 47) rfl (hb hby d_prog_21_method_4_43) (by decide) (by decide) k) ?_
    obtain ⟨fs, hr, hrun, hended, hW, hsame⟩ := X60.leave (v := some (.int (nar .boolean (1 : Int32)))) (fun h => by rw [Bd.returns] at h; cases h)
    exact ⟨_, _, retN X60 hx (t := .boolean) Bd.returns (by simp) (hb hby d_prog_21_method_4_47) hr, hrun, hended, _, _, rfl, (by show Q_ovNS Z a1 a2 c1 l1 c2 l2 s2 m2 h0 n0 _ T60.heap _; rw [e60]; exact ⟨(by by_cases q1 : l1 = l2 <;> simp_all <;> rfl), rfl, rfl⟩), ⟨_, rfl⟩, hW, hsame.mono (by decide) (by decide)⟩
theorem d_prog_21_method_4_21 : decode prog_21_method_4_code 21 = .ok (.aload_n 1, 1) := by decide +kernel
theorem d_prog_21_method_4_22 : decode prog_21_method_4_code 22 = .ok (.getfield 15, 3) := by decide +kernel
theorem d_prog_21_method_4_25 : decode prog_21_method_4_code 25 = .ok (.ifnull 17, 3) := by decide +kernel
theorem ef_ovSN (m : MethodId) (a1 : Addr) (a2 : Addr) : entryFrame m #[(.ref a1), (.ref a2)] 2 = mkF m 0 #[.val (.ref a1), .val (.ref a2)] [] := by first | (simp [entryFrame, mkF, argsToLocals, Value.category, maxLocals]; done) | rfl
def Q_ovSN (Z : State) (a1 : Addr) (a2 : Addr) (c1 : Addr) (l1 : List Int32) (c2 : Addr) (l2 : List Int32) (s1 : Addr) (m1 : List Int32) (h0 : Heap) (n0 : Nat) (v : Option Value) (h : Heap) (L : List Loc) : Prop := (v = some (.int (if l1 = l2 then 1 else 0))) ∧ (L = []) ∧ (h = h0)
set_option maxRecDepth 65536 in
set_option maxHeartbeats 40000000 in
theorem rm_ovSN (l : Launch) (Z : State) (a0 : Array Value) (hw : ∀ d ∈ tables_1, d.before a0 Z = true) (ws : List Jvm.Cond) (a1 : Addr) (a2 : Addr) (c1 : Addr) (l1 : List Int32) (c2 : Addr) (l2 : List Int32) (s1 : Addr) (m1 : List Int32) (h0 : Heap) (n0 : Nat) (O0 : Old Z n0 h0) (zcs : Int32) (Scs : Sta Z Z.heap "java/lang/String" "COMPACT_STRINGS" "Z" (.int zcs)) (hz_Scs : ¬ zcs = 0) (F_a1_code : Fld Z h0 a1 "com/example/wardkey/wardkey/policy/Code" "code" "Ljava/lang/String;" (.ref c1)) (F_a2_code : Fld Z h0 a2 "com/example/wardkey/wardkey/policy/Code" "code" "Ljava/lang/String;" (.ref c2)) (E_c1 : Exa Z h0 c1 "java/lang/String") (G_c1 : SX Z h0 c1 l1) (E_c2 : Exa Z h0 c2 "java/lang/String") (G_c2 : SX Z h0 c2 l2) (F_a1_system : Fld Z h0 a1 "com/example/wardkey/wardkey/policy/Code" "system" "Ljava/lang/String;" (.ref s1)) (E_s1 : Exa Z h0 s1 "java/lang/String") (G_s1 : SX Z h0 s1 m1) (F_a2_system : Fld Z h0 a2 "com/example/wardkey/wardkey/policy/Code" "system" "Ljava/lang/String;" .null) (hl_l1 : l1.length ≤ 4000) (hl_l2 : l2.length ≤ 4000) (hl_m1 : m1.length ≤ 4000) :
    MetFree l (⟨"com/example/wardkey/wardkey/policy/Code", "overlaps", "(Lcom/example/wardkey/wardkey/policy/Code;)Z"⟩ : MethodName) (head1 ((Jvm.Cond.code (⟨"com/example/wardkey/wardkey/policy/Code", "overlaps", "(Lcom/example/wardkey/wardkey/policy/Code;)Z"⟩ : MethodName) prog_21_method_4_code 2 (some .boolean)) :: ws) ({ frames := 2, cells := 0, slots := 0, locals := 28 } : Room)) (fun a U => a = #[(.ref a1), (.ref a2)] ∧ Z.Warmed39 U.vm ∧ U.heap = h0) (fun _ _ _ _ _ => True) (fun _ U o U' => ∃ v L, o = .returned v ∧ Q_ovSN Z a1 a2 c1 l1 c2 l2 s1 m1 h0 n0 v U'.heap L ∧ FrameEnd U o U' L ({ frames := 2, cells := 0, slots := 0, locals := 28 } : Room).cells ({ frames := 2, cells := 0, slots := 0, locals := 28 } : Room).slots) := by
  refine MetFree.of_bodySF (plainFor_of_name pn_4) hisR ?_
  intro p e s m args below meth c s₁ Bd hml0 hP hK
  obtain ⟨rfl, hZ, hh⟩ := hP
  have hx := Bd.exec
  have hby := Bd.bytes
  have hml : c.maxLocals = 2 := hml0
  have hown : s.vm.findClass "com/example/wardkey/wardkey/policy/Code" = some m.cls := findClass_of_methodNamed Bd.named
  have hnm := (name_of_methodNamed Bd.named Bd.method).1
  have X0 : Stand p l e ({ frames := 2, cells := 0, slots := 0, locals := 28 } : Room) s m #[(.ref a1), (.ref a2)] below meth c s₁ [] 0 0 := Stand.of_body Bd
  have e0 : s₁.heap = h0 := by rw [← hh, Bd.state]; rfl
  have N0 := Fr.nil n0
  have K0 : Keep h0 h0 [] := Keep.refl _ _
  suffices hG : Goes p e below (fun o U' => ∃ v L, o = .returned v ∧ Q_ovSN Z a1 a2 c1 l1 c2 l2 s1 m1 h0 n0 v U'.heap L ∧ FrameEnd s o U' L ({ frames := 2, cells := 0, slots := 0, locals := 28 } : Room).cells ({ frames := 2, cells := 0, slots := 0, locals := 28 } : Room).slots) s₁ (mkF m 0 #[.val (.ref a1), .val (.ref a2)] []) by
    obtain ⟨t, o, h1, h2⟩ := hG; exact ⟨t, o, castTop (ef_ovSN m a1 a2) h1, h2⟩
  refine Goes.step (T' := s₁) (g' := (mkF m 1 #[.val (.ref a1), .val (.ref a2)] [(.ref a1)])) (fun _ k => XS.aloadN X0.here hx rfl (hb hby d_prog_21_method_4_0) rfl rfl k) ?_
  obtain ⟨T61, X61, e61, st61⟩ := getF X0 hx hZ hown (host := "") (Or.inl (hw _ (List.mem_of_getElem? (i := 52) rfl))) Via.refl e0 F_a1_code (g := (mkF m 1 #[.val (.ref a1), .val (.ref a2)] [(.ref a1)])) rfl rfl (hb hby d_prog_21_method_4_1)
  refine Goes.step (T' := T61) (g' := (mkF m 4 #[.val (.ref a1), .val (.ref a2)] [(.ref c1)])) st61 ?_
  refine Goes.step (T' := T61) (g' := (mkF m 5 #[.val (.ref a1), .val (.ref a2)] [(.ref a2), (.ref c1)])) (fun _ k => XS.aloadN X61.here hx rfl (hb hby d_prog_21_method_4_4) rfl rfl k) ?_
  obtain ⟨T62, X62, e62, st62⟩ := getF X61 hx hZ hown (host := "") (Or.inl (hw _ (List.mem_of_getElem? (i := 52) rfl))) Via.refl e61 F_a2_code (g := (mkF m 5 #[.val (.ref a1), .val (.ref a2)] [(.ref a2), (.ref c1)])) rfl rfl (hb hby d_prog_21_method_4_5)
  refine Goes.step (T' := T62) (g' := (mkF m 8 #[.val (.ref a1), .val (.ref a2)] [(.ref c2), (.ref c1)])) st62 ?_
  obtain ⟨cq63, kq63, qa63, qb63, qc63⟩ := isOf hZ e62 E_c1
  obtain ⟨_, _, ⟨T63, L63, k63, n63⟩, -, X63, ⟨Lc63, hQ63, l63, y63, z63⟩, st63⟩ := X62.virtualBack hx (y := (⟨"java/lang/String", "equals", "(Ljava/lang/Object;)Z"⟩ : MethodName)) (z := (⟨"java/lang/String", "equals", "(Ljava/lang/Object;)Z"⟩ : MethodName)) hown (mvT hZ (hw _ (List.mem_of_getElem? (i := 62) rfl))) (mvT hZ (hw _ (List.mem_of_getElem? (i := 63) rfl))) (notFace_of_selects (args := #[]) (mvT hZ (hw _ (List.mem_of_getElem? (i := 65) rfl)))) (mvT hZ (hw _ (List.mem_of_getElem? (i := 65) rfl))) (mvT hZ (hw _ (List.mem_of_getElem? (i := 64) rfl))) (by decide) (own_eqW (W := 0) hZ hw (hw _ (List.mem_of_getElem? (i := 12) rfl)) G_c1 G_c2 (hl_l1) (hl_l2) (Scs.ext O0.2) hz_Scs (by decide) (by decide)) qa63 qc63 (g := (mkF m 8 #[.val (.ref a1), .val (.ref a2)] [(.ref c2), (.ref c1)])) rfl (by rw [hml]; rfl) (Steps.refl _) (argsL := [(.ref c2)]) (rest := []) (lenOf pd_7 rfl) rfl (by show 2 * 0 + _ ≤ _; exact Nat.le_of_eq rfl) (hb hby d_prog_21_method_4_8) (fun _ _ => ⟨rfl, e62, (by decide : 0 + 0 ≤ _), (by decide : 0 + 0 ≤ _)⟩)
  dsimp only [Pt.U, Pt.locs, Pt.cells, Pt.slots] at X63 l63 y63 z63 st63 hQ63
  subst l63 y63 z63
  obtain ⟨rfl, rfl, e63⟩ := hQ63
  replace N0 := Fr.app N0 (Fr.nil n0)
  refine Goes.run (T' := T63) (g' := (mkF m 11 #[.val (.ref a1), .val (.ref a2)] [(.int (if l1 = l2 then 1 else 0))])) st63 ?_
  by_cases hc11_64 : (if l1 = l2 then 1 else 0) = (0 : Int32)
  ·
    refine Goes.step (T' := T63) (g' := (mkF m 46 #[.val (.ref a1), .val (.ref a2)] [])) (fun _ k => XS.ifYes X63.here hx rfl (pc0 := 11) (pc' := 46) rfl (hb hby d_prog_21_method_4_11) rfl ((if0 _ _).trans (teq hc11_64).1) (by decide) (by decide) k) ?_
    refine Goes.step (T' := T63) (g' := (mkF m 47 #[.val (.ref a1), .val (.ref a2)] [(.int (0 : Int32))])) (fun _ k => XS.iconst X63.here hx rfl (hb hby d_prog_21_method_4_46) k) ?_
    obtain ⟨fs, hr, hrun, hended, hW, hsame⟩ := X63.leave (v := some (.int (nar .boolean (0 : Int32)))) (fun h => by rw [Bd.returns] at h; cases h)
    exact ⟨_, _, retN X63 hx (t := .boolean) Bd.returns (by simp) (hb hby d_prog_21_method_4_47) hr, hrun, hended, _, _, rfl, (by show Q_ovSN Z a1 a2 c1 l1 c2 l2 s1 m1 h0 n0 _ T63.heap _; rw [e63]; exact ⟨(by by_cases q1 : l1 = l2 <;> simp_all <;> rfl), rfl, rfl⟩), ⟨_, rfl⟩, hW, hsame.mono (by decide) (by decide)⟩
  ·
    refine Goes.step (T' := T63) (g' := (mkF m 14 #[.val (.ref a1), .val (.ref a2)] [])) (fun _ k => XS.ifNo X63.here hx rfl (hb hby d_prog_21_method_4_11) rfl ((if0 _ _).trans (feq hc11_64).1) k) ?_
    refine Goes.step (T' := T63) (g' := (mkF m 15 #[.val (.ref a1), .val (.ref a2)] [(.ref a1)])) (fun _ k => XS.aloadN X63.here hx rfl (hb hby d_prog_21_method_4_14) rfl rfl k) ?_
    obtain ⟨T65, X65, e65, st65⟩ := getF X63 hx hZ hown (host := "") (Or.inl (hw _ (List.mem_of_getElem? (i := 50) rfl))) Via.refl e63 F_a1_system (g := (mkF m 15 #[.val (.ref a1), .val (.ref a2)] [(.ref a1)])) rfl rfl (hb hby d_prog_21_method_4_15)
    refine Goes.step (T' := T65) (g' := (mkF m 18 #[.val (.ref a1), .val (.ref a2)] [(.ref s1)])) st65 ?_
    refine Goes.step (T' := T65) (g' := (mkF m 21 #[.val (.ref a1), .val (.ref a2)] [])) (fun _ k => XS.ifnullNo X65.here hx rfl (hb hby d_prog_21_method_4_18) rfl k) ?_
    refine Goes.step (T' := T65) (g' := (mkF m 22 #[.val (.ref a1), .val (.ref a2)] [(.ref a2)])) (fun _ k => XS.aloadN X65.here hx rfl (hb hby d_prog_21_method_4_21) rfl rfl k) ?_
    obtain ⟨T66, X66, e66, st66⟩ := getF X65 hx hZ hown (host := "") (Or.inl (hw _ (List.mem_of_getElem? (i := 50) rfl))) Via.refl e65 F_a2_system (g := (mkF m 22 #[.val (.ref a1), .val (.ref a2)] [(.ref a2)])) rfl rfl (hb hby d_prog_21_method_4_22)
    refine Goes.step (T' := T66) (g' := (mkF m 25 #[.val (.ref a1), .val (.ref a2)] [.null])) st66 ?_
    refine Goes.step (T' := T66) (g' := (mkF m 42 #[.val (.ref a1), .val (.ref a2)] [])) (fun _ k => XS.ifnullYes X66.here hx rfl (pc0 := 25) (pc' := 42) rfl (hb hby d_prog_21_method_4_25) rfl (by decide) (by decide) k) ?_
    refine Goes.step (T' := T66) (g' := (mkF m 43 #[.val (.ref a1), .val (.ref a2)] [(.int (1 : Int32))])) (fun _ k => XS.iconst X66.here hx rfl (hb hby d_prog_21_method_4_42) k) ?_
    refine Goes.step (T' := T66) (g' := (mkF m 47 #[.val (.ref a1), .val (.ref a2)] [(.int (1 : Int32))])) (fun _ k => XS.goto X66.here hx rfl (pc0 := 43) (pc' := 47) rfl (hb hby d_prog_21_method_4_43) (by decide) (by decide) k) ?_
    obtain ⟨fs, hr, hrun, hended, hW, hsame⟩ := X66.leave (v := some (.int (nar .boolean (1 : Int32)))) (fun h => by rw [Bd.returns] at h; cases h)
    exact ⟨_, _, retN X66 hx (t := .boolean) Bd.returns (by simp) (hb hby d_prog_21_method_4_47) hr, hrun, hended, _, _, rfl, (by show Q_ovSN Z a1 a2 c1 l1 c2 l2 s1 m1 h0 n0 _ T66.heap _; rw [e66]; exact ⟨(by by_cases q1 : l1 = l2 <;> simp_all <;> rfl), rfl, rfl⟩), ⟨_, rfl⟩, hW, hsame.mono (by decide) (by decide)⟩
theorem d_prog_21_method_4_28 : decode prog_21_method_4_code 28 = .ok (.aload_n 0, 1) := by decide +kernel
theorem d_prog_21_method_4_29 : decode prog_21_method_4_code 29 = .ok (.getfield 15, 3) := by decide +kernel
theorem d_prog_21_method_4_32 : decode prog_21_method_4_code 32 = .ok (.aload_n 1, 1) := by decide +kernel
theorem d_prog_21_method_4_33 : decode prog_21_method_4_code 33 = .ok (.getfield 15, 3) := by decide +kernel
theorem d_prog_21_method_4_36 : decode prog_21_method_4_code 36 = .ok (.invokevirtual 80, 3) := by decide +kernel
theorem d_prog_21_method_4_39 : decode prog_21_method_4_code 39 = .ok (.ifCond .eq 7, 3) := by decide +kernel
theorem ef_ovSS (m : MethodId) (a1 : Addr) (a2 : Addr) : entryFrame m #[(.ref a1), (.ref a2)] 2 = mkF m 0 #[.val (.ref a1), .val (.ref a2)] [] := by first | (simp [entryFrame, mkF, argsToLocals, Value.category, maxLocals]; done) | rfl
def Q_ovSS (Z : State) (a1 : Addr) (a2 : Addr) (c1 : Addr) (l1 : List Int32) (c2 : Addr) (l2 : List Int32) (s1 : Addr) (m1 : List Int32) (s2 : Addr) (m2 : List Int32) (h0 : Heap) (n0 : Nat) (v : Option Value) (h : Heap) (L : List Loc) : Prop := (v = some (.int (if l1 = l2 ∧ m1 = m2 then 1 else 0))) ∧ (L = []) ∧ (h = h0)
set_option maxRecDepth 65536 in
set_option maxHeartbeats 40000000 in
theorem rm_ovSS (l : Launch) (Z : State) (a0 : Array Value) (hw : ∀ d ∈ tables_1, d.before a0 Z = true) (ws : List Jvm.Cond) (a1 : Addr) (a2 : Addr) (c1 : Addr) (l1 : List Int32) (c2 : Addr) (l2 : List Int32) (s1 : Addr) (m1 : List Int32) (s2 : Addr) (m2 : List Int32) (h0 : Heap) (n0 : Nat) (O0 : Old Z n0 h0) (zcs : Int32) (Scs : Sta Z Z.heap "java/lang/String" "COMPACT_STRINGS" "Z" (.int zcs)) (hz_Scs : ¬ zcs = 0) (F_a1_code : Fld Z h0 a1 "com/example/wardkey/wardkey/policy/Code" "code" "Ljava/lang/String;" (.ref c1)) (F_a2_code : Fld Z h0 a2 "com/example/wardkey/wardkey/policy/Code" "code" "Ljava/lang/String;" (.ref c2)) (E_c1 : Exa Z h0 c1 "java/lang/String") (G_c1 : SX Z h0 c1 l1) (E_c2 : Exa Z h0 c2 "java/lang/String") (G_c2 : SX Z h0 c2 l2) (F_a1_system : Fld Z h0 a1 "com/example/wardkey/wardkey/policy/Code" "system" "Ljava/lang/String;" (.ref s1)) (E_s1 : Exa Z h0 s1 "java/lang/String") (G_s1 : SX Z h0 s1 m1) (F_a2_system : Fld Z h0 a2 "com/example/wardkey/wardkey/policy/Code" "system" "Ljava/lang/String;" (.ref s2)) (E_s2 : Exa Z h0 s2 "java/lang/String") (G_s2 : SX Z h0 s2 m2) (hl_l1 : l1.length ≤ 4000) (hl_l2 : l2.length ≤ 4000) (hl_m1 : m1.length ≤ 4000) (hl_m2 : m2.length ≤ 4000) :
    MetFree l (⟨"com/example/wardkey/wardkey/policy/Code", "overlaps", "(Lcom/example/wardkey/wardkey/policy/Code;)Z"⟩ : MethodName) (head1 ((Jvm.Cond.code (⟨"com/example/wardkey/wardkey/policy/Code", "overlaps", "(Lcom/example/wardkey/wardkey/policy/Code;)Z"⟩ : MethodName) prog_21_method_4_code 2 (some .boolean)) :: ws) ({ frames := 2, cells := 0, slots := 0, locals := 28 } : Room)) (fun a U => a = #[(.ref a1), (.ref a2)] ∧ Z.Warmed39 U.vm ∧ U.heap = h0) (fun _ _ _ _ _ => True) (fun _ U o U' => ∃ v L, o = .returned v ∧ Q_ovSS Z a1 a2 c1 l1 c2 l2 s1 m1 s2 m2 h0 n0 v U'.heap L ∧ FrameEnd U o U' L ({ frames := 2, cells := 0, slots := 0, locals := 28 } : Room).cells ({ frames := 2, cells := 0, slots := 0, locals := 28 } : Room).slots) := by
  refine MetFree.of_bodySF (plainFor_of_name pn_4) hisR ?_
  intro p e s m args below meth c s₁ Bd hml0 hP hK
  obtain ⟨rfl, hZ, hh⟩ := hP
  have hx := Bd.exec
  have hby := Bd.bytes
  have hml : c.maxLocals = 2 := hml0
  have hown : s.vm.findClass "com/example/wardkey/wardkey/policy/Code" = some m.cls := findClass_of_methodNamed Bd.named
  have hnm := (name_of_methodNamed Bd.named Bd.method).1
  have X0 : Stand p l e ({ frames := 2, cells := 0, slots := 0, locals := 28 } : Room) s m #[(.ref a1), (.ref a2)] below meth c s₁ [] 0 0 := Stand.of_body Bd
  have e0 : s₁.heap = h0 := by rw [← hh, Bd.state]; rfl
  have N0 := Fr.nil n0
  have K0 : Keep h0 h0 [] := Keep.refl _ _
  suffices hG : Goes p e below (fun o U' => ∃ v L, o = .returned v ∧ Q_ovSS Z a1 a2 c1 l1 c2 l2 s1 m1 s2 m2 h0 n0 v U'.heap L ∧ FrameEnd s o U' L ({ frames := 2, cells := 0, slots := 0, locals := 28 } : Room).cells ({ frames := 2, cells := 0, slots := 0, locals := 28 } : Room).slots) s₁ (mkF m 0 #[.val (.ref a1), .val (.ref a2)] []) by
    obtain ⟨t, o, h1, h2⟩ := hG; exact ⟨t, o, castTop (ef_ovSS m a1 a2) h1, h2⟩
  refine Goes.step (T' := s₁) (g' := (mkF m 1 #[.val (.ref a1), .val (.ref a2)] [(.ref a1)])) (fun _ k => XS.aloadN X0.here hx rfl (hb hby d_prog_21_method_4_0) rfl rfl k) ?_
  obtain ⟨T67, X67, e67, st67⟩ := getF X0 hx hZ hown (host := "") (Or.inl (hw _ (List.mem_of_getElem? (i := 52) rfl))) Via.refl e0 F_a1_code (g := (mkF m 1 #[.val (.ref a1), .val (.ref a2)] [(.ref a1)])) rfl rfl (hb hby d_prog_21_method_4_1)
  refine Goes.step (T' := T67) (g' := (mkF m 4 #[.val (.ref a1), .val (.ref a2)] [(.ref c1)])) st67 ?_
  refine Goes.step (T' := T67) (g' := (mkF m 5 #[.val (.ref a1), .val (.ref a2)] [(.ref a2), (.ref c1)])) (fun _ k => XS.aloadN X67.here hx rfl (hb hby d_prog_21_method_4_4) rfl rfl k) ?_
  obtain ⟨T68, X68, e68, st68⟩ := getF X67 hx hZ hown (host := "") (Or.inl (hw _ (List.mem_of_getElem? (i := 52) rfl))) Via.refl e67 F_a2_code (g := (mkF m 5 #[.val (.ref a1), .val (.ref a2)] [(.ref a2), (.ref c1)])) rfl rfl (hb hby d_prog_21_method_4_5)
  refine Goes.step (T' := T68) (g' := (mkF m 8 #[.val (.ref a1), .val (.ref a2)] [(.ref c2), (.ref c1)])) st68 ?_
  obtain ⟨cq69, kq69, qa69, qb69, qc69⟩ := isOf hZ e68 E_c1
  obtain ⟨_, _, ⟨T69, L69, k69, n69⟩, -, X69, ⟨Lc69, hQ69, l69, y69, z69⟩, st69⟩ := X68.virtualBack hx (y := (⟨"java/lang/String", "equals", "(Ljava/lang/Object;)Z"⟩ : MethodName)) (z := (⟨"java/lang/String", "equals", "(Ljava/lang/Object;)Z"⟩ : MethodName)) hown (mvT hZ (hw _ (List.mem_of_getElem? (i := 62) rfl))) (mvT hZ (hw _ (List.mem_of_getElem? (i := 63) rfl))) (notFace_of_selects (args := #[]) (mvT hZ (hw _ (List.mem_of_getElem? (i := 65) rfl)))) (mvT hZ (hw _ (List.mem_of_getElem? (i := 65) rfl))) (mvT hZ (hw _ (List.mem_of_getElem? (i := 64) rfl))) (by decide) (own_eqW (W := 0) hZ hw (hw _ (List.mem_of_getElem? (i := 12) rfl)) G_c1 G_c2 (hl_l1) (hl_l2) (Scs.ext O0.2) hz_Scs (by decide) (by decide)) qa69 qc69 (g := (mkF m 8 #[.val (.ref a1), .val (.ref a2)] [(.ref c2), (.ref c1)])) rfl (by rw [hml]; rfl) (Steps.refl _) (argsL := [(.ref c2)]) (rest := []) (lenOf pd_7 rfl) rfl (by show 2 * 0 + _ ≤ _; exact Nat.le_of_eq rfl) (hb hby d_prog_21_method_4_8) (fun _ _ => ⟨rfl, e68, (by decide : 0 + 0 ≤ _), (by decide : 0 + 0 ≤ _)⟩)
  dsimp only [Pt.U, Pt.locs, Pt.cells, Pt.slots] at X69 l69 y69 z69 st69 hQ69
  subst l69 y69 z69
  obtain ⟨rfl, rfl, e69⟩ := hQ69
  replace N0 := Fr.app N0 (Fr.nil n0)
  refine Goes.run (T' := T69) (g' := (mkF m 11 #[.val (.ref a1), .val (.ref a2)] [(.int (if l1 = l2 then 1 else 0))])) st69 ?_
  by_cases hc11_70 : (if l1 = l2 then 1 else 0) = (0 : Int32)
  ·
    refine Goes.step (T' := T69) (g' := (mkF m 46 #[.val (.ref a1), .val (.ref a2)] [])) (fun _ k => XS.ifYes X69.here hx rfl (pc0 := 11) (pc' := 46) rfl (hb hby d_prog_21_method_4_11) rfl ((if0 _ _).trans (teq hc11_70).1) (by decide) (by decide) k) ?_
    refine Goes.step (T' := T69) (g' := (mkF m 47 #[.val (.ref a1), .val (.ref a2)] [(.int (0 : Int32))])) (fun _ k => XS.iconst X69.here hx rfl (hb hby d_prog_21_method_4_46) k) ?_
    obtain ⟨fs, hr, hrun, hended, hW, hsame⟩ := X69.leave (v := some (.int (nar .boolean (0 : Int32)))) (fun h => by rw [Bd.returns] at h; cases h)
    exact ⟨_, _, retN X69 hx (t := .boolean) Bd.returns (by simp) (hb hby d_prog_21_method_4_47) hr, hrun, hended, _, _, rfl, (by show Q_ovSS Z a1 a2 c1 l1 c2 l2 s1 m1 s2 m2 h0 n0 _ T69.heap _; rw [e69]; exact ⟨(by by_cases q1 : l1 = l2 <;> by_cases q2 : m1 = m2 <;> simp_all <;> rfl), rfl, rfl⟩), ⟨_, rfl⟩, hW, hsame.mono (by decide) (by decide)⟩
  ·
    refine Goes.step (T' := T69) (g' := (mkF m 14 #[.val (.ref a1), .val (.ref a2)] [])) (fun _ k => XS.ifNo X69.here hx rfl (hb hby d_prog_21_method_4_11) rfl ((if0 _ _).trans (feq hc11_70).1) k) ?_
    refine Goes.step (T' := T69) (g' := (mkF m 15 #[.val (.ref a1), .val (.ref a2)] [(.ref a1)])) (fun _ k => XS.aloadN X69.here hx rfl (hb hby d_prog_21_method_4_14) rfl rfl k) ?_
    obtain ⟨T71, X71, e71, st71⟩ := getF X69 hx hZ hown (host := "") (Or.inl (hw _ (List.mem_of_getElem? (i := 50) rfl))) Via.refl e69 F_a1_system (g := (mkF m 15 #[.val (.ref a1), .val (.ref a2)] [(.ref a1)])) rfl rfl (hb hby d_prog_21_method_4_15)
    refine Goes.step (T' := T71) (g' := (mkF m 18 #[.val (.ref a1), .val (.ref a2)] [(.ref s1)])) st71 ?_
    refine Goes.step (T' := T71) (g' := (mkF m 21 #[.val (.ref a1), .val (.ref a2)] [])) (fun _ k => XS.ifnullNo X71.here hx rfl (hb hby d_prog_21_method_4_18) rfl k) ?_
    refine Goes.step (T' := T71) (g' := (mkF m 22 #[.val (.ref a1), .val (.ref a2)] [(.ref a2)])) (fun _ k => XS.aloadN X71.here hx rfl (hb hby d_prog_21_method_4_21) rfl rfl k) ?_
    obtain ⟨T72, X72, e72, st72⟩ := getF X71 hx hZ hown (host := "") (Or.inl (hw _ (List.mem_of_getElem? (i := 50) rfl))) Via.refl e71 F_a2_system (g := (mkF m 22 #[.val (.ref a1), .val (.ref a2)] [(.ref a2)])) rfl rfl (hb hby d_prog_21_method_4_22)
    refine Goes.step (T' := T72) (g' := (mkF m 25 #[.val (.ref a1), .val (.ref a2)] [(.ref s2)])) st72 ?_
    refine Goes.step (T' := T72) (g' := (mkF m 28 #[.val (.ref a1), .val (.ref a2)] [])) (fun _ k => XS.ifnullNo X72.here hx rfl (hb hby d_prog_21_method_4_25) rfl k) ?_
    refine Goes.step (T' := T72) (g' := (mkF m 29 #[.val (.ref a1), .val (.ref a2)] [(.ref a1)])) (fun _ k => XS.aloadN X72.here hx rfl (hb hby d_prog_21_method_4_28) rfl rfl k) ?_
    obtain ⟨T73, X73, e73, st73⟩ := getF X72 hx hZ hown (host := "") (Or.inl (hw _ (List.mem_of_getElem? (i := 50) rfl))) Via.refl e72 F_a1_system (g := (mkF m 29 #[.val (.ref a1), .val (.ref a2)] [(.ref a1)])) rfl rfl (hb hby d_prog_21_method_4_29)
    refine Goes.step (T' := T73) (g' := (mkF m 32 #[.val (.ref a1), .val (.ref a2)] [(.ref s1)])) st73 ?_
    refine Goes.step (T' := T73) (g' := (mkF m 33 #[.val (.ref a1), .val (.ref a2)] [(.ref a2), (.ref s1)])) (fun _ k => XS.aloadN X73.here hx rfl (hb hby d_prog_21_method_4_32) rfl rfl k) ?_
    obtain ⟨T74, X74, e74, st74⟩ := getF X73 hx hZ hown (host := "") (Or.inl (hw _ (List.mem_of_getElem? (i := 50) rfl))) Via.refl e73 F_a2_system (g := (mkF m 33 #[.val (.ref a1), .val (.ref a2)] [(.ref a2), (.ref s1)])) rfl rfl (hb hby d_prog_21_method_4_33)
    refine Goes.step (T' := T74) (g' := (mkF m 36 #[.val (.ref a1), .val (.ref a2)] [(.ref s2), (.ref s1)])) st74 ?_
    obtain ⟨cq75, kq75, qa75, qb75, qc75⟩ := isOf hZ e74 E_s1
    obtain ⟨_, _, ⟨T75, L75, k75, n75⟩, -, X75, ⟨Lc75, hQ75, l75, y75, z75⟩, st75⟩ := X74.virtualBack hx (y := (⟨"java/lang/String", "equals", "(Ljava/lang/Object;)Z"⟩ : MethodName)) (z := (⟨"java/lang/String", "equals", "(Ljava/lang/Object;)Z"⟩ : MethodName)) hown (mvT hZ (hw _ (List.mem_of_getElem? (i := 62) rfl))) (mvT hZ (hw _ (List.mem_of_getElem? (i := 63) rfl))) (notFace_of_selects (args := #[]) (mvT hZ (hw _ (List.mem_of_getElem? (i := 65) rfl)))) (mvT hZ (hw _ (List.mem_of_getElem? (i := 65) rfl))) (mvT hZ (hw _ (List.mem_of_getElem? (i := 64) rfl))) (by decide) (own_eqW (W := 0) hZ hw (hw _ (List.mem_of_getElem? (i := 12) rfl)) G_s1 G_s2 (hl_m1) (hl_m2) (Scs.ext O0.2) hz_Scs (by decide) (by decide)) qa75 qc75 (g := (mkF m 36 #[.val (.ref a1), .val (.ref a2)] [(.ref s2), (.ref s1)])) rfl (by rw [hml]; rfl) (Steps.refl _) (argsL := [(.ref s2)]) (rest := []) (lenOf pd_7 rfl) rfl (by show 2 * 0 + _ ≤ _; exact Nat.le_of_eq rfl) (hb hby d_prog_21_method_4_36) (fun _ _ => ⟨rfl, e74, (by decide : 0 + 0 ≤ _), (by decide : 0 + 0 ≤ _)⟩)
    dsimp only [Pt.U, Pt.locs, Pt.cells, Pt.slots] at X75 l75 y75 z75 st75 hQ75
    subst l75 y75 z75
    obtain ⟨rfl, rfl, e75⟩ := hQ75
    replace N0 := Fr.app N0 (Fr.nil n0)
    refine Goes.run (T' := T75) (g' := (mkF m 39 #[.val (.ref a1), .val (.ref a2)] [(.int (if m1 = m2 then 1 else 0))])) st75 ?_
    by_cases hc39_76 : (if m1 = m2 then 1 else 0) = (0 : Int32)
    ·
      refine Goes.step (T' := T75) (g' := (mkF m 46 #[.val (.ref a1), .val (.ref a2)] [])) (fun _ k => XS.ifYes X75.here hx rfl (pc0 := 39) (pc' := 46) rfl (hb hby d_prog_21_method_4_39) rfl ((if0 _ _).trans (teq hc39_76).1) (by decide) (by decide) k) ?_
      refine Goes.step (T' := T75) (g' := (mkF m 47 #[.val (.ref a1), .val (.ref a2)] [(.int (0 : Int32))])) (fun _ k => XS.iconst X75.here hx rfl (hb hby d_prog_21_method_4_46) k) ?_
      obtain ⟨fs, hr, hrun, hended, hW, hsame⟩ := X75.leave (v := some (.int (nar .boolean (0 : Int32)))) (fun h => by rw [Bd.returns] at h; cases h)
      exact ⟨_, _, retN X75 hx (t := .boolean) Bd.returns (by simp) (hb hby d_prog_21_method_4_47) hr, hrun, hended, _, _, rfl, (by show Q_ovSS Z a1 a2 c1 l1 c2 l2 s1 m1 s2 m2 h0 n0 _ T75.heap _; rw [e75]; exact ⟨(by by_cases q1 : l1 = l2 <;> by_cases q2 : m1 = m2 <;> simp_all <;> rfl), rfl, rfl⟩), ⟨_, rfl⟩, hW, hsame.mono (by decide) (by decide)⟩
    ·
      refine Goes.step (T' := T75) (g' := (mkF m 42 #[.val (.ref a1), .val (.ref a2)] [])) (fun _ k => XS.ifNo X75.here hx rfl (hb hby d_prog_21_method_4_39) rfl ((if0 _ _).trans (feq hc39_76).1) k) ?_
      refine Goes.step (T' := T75) (g' := (mkF m 43 #[.val (.ref a1), .val (.ref a2)] [(.int (1 : Int32))])) (fun _ k => XS.iconst X75.here hx rfl (hb hby d_prog_21_method_4_42) k) ?_
      refine Goes.step (T' := T75) (g' := (mkF m 47 #[.val (.ref a1), .val (.ref a2)] [(.int (1 : Int32))])) (fun _ k => XS.goto X75.here hx rfl (pc0 := 43) (pc' := 47) rfl (hb hby d_prog_21_method_4_43) (by decide) (by decide) k) ?_
      obtain ⟨fs, hr, hrun, hended, hW, hsame⟩ := X75.leave (v := some (.int (nar .boolean (1 : Int32)))) (fun h => by rw [Bd.returns] at h; cases h)
      exact ⟨_, _, retN X75 hx (t := .boolean) Bd.returns (by simp) (hb hby d_prog_21_method_4_47) hr, hrun, hended, _, _, rfl, (by show Q_ovSS Z a1 a2 c1 l1 c2 l2 s1 m1 s2 m2 h0 n0 _ T75.heap _; rw [e75]; exact ⟨(by by_cases q1 : l1 = l2 <;> by_cases q2 : m1 = m2 <;> simp_all <;> rfl), rfl, rfl⟩), ⟨_, rfl⟩, hW, hsame.mono (by decide) (by decide)⟩
theorem pd_8 : parseMethodDescriptor "(I)Ljava/lang/String;" = some ⟨[.int], some (.object "java/lang/String")⟩ := by decide +kernel
theorem pd_9 : parseMethodDescriptor "(Ljava/lang/String;Ljava/lang/String;)V" = some ⟨[(.object "java/lang/String"), (.object "java/lang/String")], none⟩ := by decide +kernel
theorem pd_10 : parseMethodDescriptor "(II)Z" = some ⟨[.int, .int], some .boolean⟩ := by decide +kernel
theorem pd_11 : parseMethodDescriptor "(Lcom/example/wardkey/wardkey/policy/Code;)Z" = some ⟨[(.object "com/example/wardkey/wardkey/policy/Code")], some .boolean⟩ := by decide +kernel
theorem ef_law (m : MethodId) (p0 : Int32) (p1 : Int32) (p2 : Int32) (p3 : Int32) : entryFrame m #[(.int p0), (.int p1), (.int p2), (.int p3)] maxLocals = mkF m 0 #[.val (.int p0), .val (.int p1), .val (.int p2), .val (.int p3), .unset, .unset, .unset, .unset, .unset, .unset, .unset] [] := by first | (simp [entryFrame, mkF, argsToLocals, Value.category, maxLocals]; done) | rfl
def Q_law (Z : State) (p0 : Int32) (p1 : Int32) (p2 : Int32) (p3 : Int32) (h0 : Heap) (n0 : Nat) (v : Option Value) (h : Heap) (L : List Loc) : Prop := (v = some (.int (1 : Int32))) ∧ (Fr n0 L) ∧ (Keep h0 h [])
set_option maxRecDepth 65536 in
set_option maxHeartbeats 40000000 in
theorem rm_law (l : Launch) (Z : State) (a0 : Array Value) (hw : ∀ d ∈ tables_1, d.before a0 Z = true) (ws : List Jvm.Cond) (hEL : EW Z a0 EL) (p0 : Int32) (p1 : Int32) (p2 : Int32) (p3 : Int32) (h0 : Heap) (n0 : Nat) (O0 : Old Z n0 h0) (zcs : Int32) (Scs : Sta Z Z.heap "java/lang/String" "COMPACT_STRINGS" "Z" (.int zcs)) (hz_Scs : ¬ zcs = 0)  :
    MetFree l x (head1 ((Jvm.Cond.code x code maxLocals ret) :: ws) room_1) (fun a U => a = #[(.int p0), (.int p1), (.int p2), (.int p3)] ∧ Z.Warmed39 U.vm ∧ U.heap = h0 ∧ CHv Z EL U.vm h0) (fun _ _ _ _ _ => True) (fun _ U o U' => ∃ v L, o = .returned v ∧ Q_law Z p0 p1 p2 p3 h0 n0 v U'.heap L ∧ CHr Z EL U.vm U.heap U'.vm U'.heap ∧ ReturnedEndW U o U' L 40 2240) := by
  refine MetFree.of_bodySF (plainFor_of_name pn_2) hisR ?_
  intro p e s m args below meth c s₁ Bd hml0 hP hK
  obtain ⟨rfl, hZ, hh, hCH⟩ := hP
  have hx := Bd.exec
  have hby := Bd.bytes
  have hml : c.maxLocals = 11 := hml0
  have hown : (s.setVm s.vm).vm.findClass "com/example/wardkey/wardkey/policy/CodeOverlapsPinLaw" = some m.cls := findClass_of_methodNamed Bd.named
  have hnm := (name_of_methodNamed Bd.named Bd.method).1
  have X0 : Stand p l e room_1 (s.setVm s.vm) m #[(.int p0), (.int p1), (.int p2), (.int p3)] below meth c s₁ [] 0 0 := Stand.of_body Bd
  have e0 : s₁.heap = h0 := by rw [← hh, Bd.state]; rfl
  have N0 := Fr.nil n0
  have K0 : Keep h0 h0 [] := Keep.refl _ _
  have C0 : CHr Z EL s.vm h0 s.vm h0 := CHr.refl hCH
  have hS0 : s.Since s.vm h0.size := own_since0 s _
  have hk0 : h0.size ≤ h0.size := Nat.le_refl _
  suffices hG : Goes p e below (fun o U' => ∃ v L, o = .returned v ∧ Q_law Z p0 p1 p2 p3 h0 n0 v U'.heap L ∧ CHr Z EL s.vm s.heap U'.vm U'.heap ∧ ReturnedEndW s o U' L 40 2240) s₁ (mkF m 0 #[.val (.int p0), .val (.int p1), .val (.int p2), .val (.int p3), .unset, .unset, .unset, .unset, .unset, .unset, .unset] []) by
    obtain ⟨t, o, h1, h2⟩ := hG; exact ⟨t, o, castTop (ef_law m p0 p1 p2 p3) h1, h2⟩
  refine Goes.step (T' := s₁) (g' := (mkF m 1 #[.val (.int p0), .val (.int p1), .val (.int p2), .val (.int p3), .unset, .unset, .unset, .unset, .unset, .unset, .unset] [(.int p2)])) (fun _ k => XS.iloadN X0.here hx rfl (hb hby at_0) rfl  k) ?_
  refine Goes.step (T' := s₁) (g' := (mkF m 3 #[.val (.int p0), .val (.int p1), .val (.int p2), .val (.int p3), .unset, .unset, .unset, .unset, .unset, .unset, .unset] [(.int (18 : Int32)), (.int p2)])) (fun _ k => XS.bipush X0.here hx rfl (hb hby at_1) k) ?_
  refine Goes.step (T' := s₁) (g' := (mkF m 4 #[.val (.int p0), .val (.int p1), .val (.int p2), .val (.int p3), .unset, .unset, .unset, .unset, .unset, .unset, .unset] [(.int ((p2.toUInt32 >>> ((18 : Int32) &&& 31).toUInt32).toInt32))])) (fun _ k => XS.iushr X0.here hx rfl (hb hby at_3) rfl k) ?_
  refine Goes.step (T' := s₁) (g' := (mkF m 5 #[.val (.int p0), .val (.int p1), .val (.int p2), .val (.int p3), .unset, .unset, .unset, .unset, .unset, .unset, .unset] [(.int (1 : Int32)), (.int ((p2.toUInt32 >>> ((18 : Int32) &&& 31).toUInt32).toInt32))])) (fun _ k => XS.iconst X0.here hx rfl (hb hby at_4) k) ?_
  refine Goes.step (T' := s₁) (g' := (mkF m 6 #[.val (.int p0), .val (.int p1), .val (.int p2), .val (.int p3), .unset, .unset, .unset, .unset, .unset, .unset, .unset] [(.int (((p2.toUInt32 >>> ((18 : Int32) &&& 31).toUInt32).toInt32) &&& (1 : Int32)))])) (fun _ k => XS.iand X0.here hx rfl (hb hby at_5) rfl k) ?_
  by_cases hc6_77 : (((p2.toUInt32 >>> ((18 : Int32) &&& 31).toUInt32).toInt32) &&& (1 : Int32)) = (0 : Int32)
  ·
    refine Goes.step (T' := s₁) (g' := (mkF m 13 #[.val (.int p0), .val (.int p1), .val (.int p2), .val (.int p3), .unset, .unset, .unset, .unset, .unset, .unset, .unset] [])) (fun _ k => XS.ifYes X0.here hx rfl (pc0 := 6) (pc' := 13) rfl (hb hby at_6) rfl ((if0 _ _).trans (teq hc6_77).1) (by decide) (by decide) k) ?_
    refine Goes.step (T' := s₁) (g' := (mkF m 14 #[.val (.int p0), .val (.int p1), .val (.int p2), .val (.int p3), .unset, .unset, .unset, .unset, .unset, .unset, .unset] [(.int (0 : Int32))])) (fun _ k => XS.iconst X0.here hx rfl (hb hby at_13) k) ?_
    refine Goes.step (T' := s₁) (g' := (mkF m 16 #[.val (.int p0), .val (.int p1), .val (.int p2), .val (.int p3), .val (.int (0 : Int32)), .unset, .unset, .unset, .unset, .unset, .unset] [])) (fun _ k => XS.istore X0.here hx rfl (hb hby at_14) rfl (l' := #[.val (.int p0), .val (.int p1), .val (.int p2), .val (.int p3), .val (.int (0 : Int32)), .unset, .unset, .unset, .unset, .unset, .unset]) rfl k) ?_
    refine Goes.step (T' := s₁) (g' := (mkF m 17 #[.val (.int p0), .val (.int p1), .val (.int p2), .val (.int p3), .val (.int (0 : Int32)), .unset, .unset, .unset, .unset, .unset, .unset] [(.int p3)])) (fun _ k => XS.iloadN X0.here hx rfl (hb hby at_16) rfl  k) ?_
    refine Goes.step (T' := s₁) (g' := (mkF m 19 #[.val (.int p0), .val (.int p1), .val (.int p2), .val (.int p3), .val (.int (0 : Int32)), .unset, .unset, .unset, .unset, .unset, .unset] [(.int (18 : Int32)), (.int p3)])) (fun _ k => XS.bipush X0.here hx rfl (hb hby at_17) k) ?_
    refine Goes.step (T' := s₁) (g' := (mkF m 20 #[.val (.int p0), .val (.int p1), .val (.int p2), .val (.int p3), .val (.int (0 : Int32)), .unset, .unset, .unset, .unset, .unset, .unset] [(.int ((p3.toUInt32 >>> ((18 : Int32) &&& 31).toUInt32).toInt32))])) (fun _ k => XS.iushr X0.here hx rfl (hb hby at_19) rfl k) ?_
    refine Goes.step (T' := s₁) (g' := (mkF m 21 #[.val (.int p0), .val (.int p1), .val (.int p2), .val (.int p3), .val (.int (0 : Int32)), .unset, .unset, .unset, .unset, .unset, .unset] [(.int (1 : Int32)), (.int ((p3.toUInt32 >>> ((18 : Int32) &&& 31).toUInt32).toInt32))])) (fun _ k => XS.iconst X0.here hx rfl (hb hby at_20) k) ?_
    refine Goes.step (T' := s₁) (g' := (mkF m 22 #[.val (.int p0), .val (.int p1), .val (.int p2), .val (.int p3), .val (.int (0 : Int32)), .unset, .unset, .unset, .unset, .unset, .unset] [(.int (((p3.toUInt32 >>> ((18 : Int32) &&& 31).toUInt32).toInt32) &&& (1 : Int32)))])) (fun _ k => XS.iand X0.here hx rfl (hb hby at_21) rfl k) ?_
    by_cases hc22_78 : (((p3.toUInt32 >>> ((18 : Int32) &&& 31).toUInt32).toInt32) &&& (1 : Int32)) = (0 : Int32)
    ·
      refine Goes.step (T' := s₁) (g' := (mkF m 29 #[.val (.int p0), .val (.int p1), .val (.int p2), .val (.int p3), .val (.int (0 : Int32)), .unset, .unset, .unset, .unset, .unset, .unset] [])) (fun _ k => XS.ifYes X0.here hx rfl (pc0 := 22) (pc' := 29) rfl (hb hby at_22) rfl ((if0 _ _).trans (teq hc22_78).1) (by decide) (by decide) k) ?_
      refine Goes.step (T' := s₁) (g' := (mkF m 30 #[.val (.int p0), .val (.int p1), .val (.int p2), .val (.int p3), .val (.int (0 : Int32)), .unset, .unset, .unset, .unset, .unset, .unset] [(.int (0 : Int32))])) (fun _ k => XS.iconst X0.here hx rfl (hb hby at_29) k) ?_
      refine Goes.step (T' := s₁) (g' := (mkF m 32 #[.val (.int p0), .val (.int p1), .val (.int p2), .val (.int p3), .val (.int (0 : Int32)), .val (.int (0 : Int32)), .unset, .unset, .unset, .unset, .unset] [])) (fun _ k => XS.istore X0.here hx rfl (hb hby at_30) rfl (l' := #[.val (.int p0), .val (.int p1), .val (.int p2), .val (.int p3), .val (.int (0 : Int32)), .val (.int (0 : Int32)), .unset, .unset, .unset, .unset, .unset]) rfl k) ?_
      refine Goes.step (T' := s₁) (g' := (mkF m 34 #[.val (.int p0), .val (.int p1), .val (.int p2), .val (.int p3), .val (.int (0 : Int32)), .val (.int (0 : Int32)), .unset, .unset, .unset, .unset, .unset] [(.int (0 : Int32))])) (fun _ k => XS.iload X0.here hx rfl (hb hby at_32) rfl  k) ?_
      refine Goes.step (T' := s₁) (g' := (mkF m 41 #[.val (.int p0), .val (.int p1), .val (.int p2), .val (.int p3), .val (.int (0 : Int32)), .val (.int (0 : Int32)), .unset, .unset, .unset, .unset, .unset] [])) (fun _ k => XS.ifYes X0.here hx rfl (pc0 := 34) (pc' := 41) rfl (hb hby at_34) rfl ((if0 _ _).trans (teq (by decide : ((0 : Int32) = (0 : Int32)))).1) (by decide) (by decide) k) ?_
      refine Goes.step (T' := s₁) (g' := (mkF m 42 #[.val (.int p0), .val (.int p1), .val (.int p2), .val (.int p3), .val (.int (0 : Int32)), .val (.int (0 : Int32)), .unset, .unset, .unset, .unset, .unset] [(.int p2)])) (fun _ k => XS.iloadN X0.here hx rfl (hb hby at_41) rfl  k) ?_
      obtain ⟨_, _, ⟨T79, L79, k79, n79⟩, -, X79, hS79, hgr79, ⟨Lc79, hQ79, l79, y79, z79, Ch79⟩, st79⟩ := callSS X0 hx (y := (⟨"com/example/wardkey/wardkey/policy/CodeOverlapsPinLaw", "text", "(I)Ljava/lang/String;"⟩ : MethodName)) hown (mvT hZ (hw _ (List.mem_of_getElem? (i := 0) rfl))) (mvT hZ (hw _ (List.mem_of_getElem? (i := 1) rfl))) (mvT hZ (hw _ (List.mem_of_getElem? (i := 2) rfl))) (mvT hZ (hw _ (List.mem_of_getElem? (i := 3) rfl))) (by decide) (backOfSH (W := 0) (rm_text l Z a0 hw [] hEL p2 h0 n0 O0 zcs Scs hz_Scs ) hZ (hw _ (List.mem_of_getElem? (i := 3) rfl)) (hw _ (List.mem_of_getElem? (i := 2) rfl)) (by decide) (by decide) hEL C0.1) (g := (mkF m 42 #[.val (.int p0), .val (.int p1), .val (.int p2), .val (.int p3), .val (.int (0 : Int32)), .val (.int (0 : Int32)), .unset, .unset, .unset, .unset, .unset] [(.int p2)])) rfl (by rw [hml]; rfl) (argsL := [(.int p2)]) (rest := []) (lenOf pd_8 rfl) rfl (by show 2 * 0 + _ ≤ _; exact Nat.le_of_eq rfl) (hb hby at_42) (fun _ _ => ⟨rfl, e0, (by decide : 0 + 6 ≤ _), (by decide : 0 + 12 ≤ _)⟩)
      dsimp only [Pt.U, Pt.locs, Pt.cells, Pt.slots] at X79 l79 y79 z79 st79 hQ79 hS79 hgr79 Ch79
      subst l79 y79 z79
      obtain ⟨h79, e79⟩ : ∃ z, T79.heap = z := ⟨_, rfl⟩
      rw [e79] at hQ79 Ch79
      obtain ⟨b_79, rfl, Nq79, Kq79, fr79_b_79, E_b_79_q79, G_b_79_q79⟩ := hQ79
      replace N0 := Fr.app N0 Nq79
      have g_b_79 : n0 ≤ b_79 := Nat.le_trans (own_n0 O0) fr79_b_79
      have sz_b_79 : h0.size ≤ b_79 := Nat.le_trans K0.1 fr79_b_79
      replace C0 := C0.trans Ch79
      replace O0 := O0.keep Kq79 all0
      replace K0 := K0.trans Kq79 all0
      have E_b_79 := E_b_79_q79
      have G_b_79 := G_b_79_q79
      obtain ⟨X79, hS79, hZ79, hown79⟩ := rebS hS0 (by rw [e0]; exact hk0) X79 hS79 hgr79 hZ hown
      rw [e79] at hS79
      clear hS0 hk0 hZ hown
      have hS0 := hS79
      have hk0 : h79.size ≤ h79.size := Nat.le_refl _
      have hZ := hZ79
      have hown := hown79
      refine Goes.run (T' := T79) (g' := (mkF m 45 #[.val (.int p0), .val (.int p1), .val (.int p2), .val (.int p3), .val (.int (0 : Int32)), .val (.int (0 : Int32)), .unset, .unset, .unset, .unset, .unset] [(.ref b_79)])) st79 ?_
      refine Goes.step (T' := T79) (g' := (mkF m 47 #[.val (.int p0), .val (.int p1), .val (.int p2), .val (.int p3), .val (.int (0 : Int32)), .val (.int (0 : Int32)), .val (.ref b_79), .unset, .unset, .unset, .unset] [])) (fun _ k => XS.astore X79.here hx rfl (hb hby at_45) rfl rfl (l' := #[.val (.int p0), .val (.int p1), .val (.int p2), .val (.int p3), .val (.int (0 : Int32)), .val (.int (0 : Int32)), .val (.ref b_79), .unset, .unset, .unset, .unset]) rfl k) ?_
      refine Goes.step (T' := T79) (g' := (mkF m 49 #[.val (.int p0), .val (.int p1), .val (.int p2), .val (.int p3), .val (.int (0 : Int32)), .val (.int (0 : Int32)), .val (.ref b_79), .unset, .unset, .unset, .unset] [(.int (0 : Int32))])) (fun _ k => XS.iload X79.here hx rfl (hb hby at_47) rfl  k) ?_
      refine Goes.step (T' := T79) (g' := (mkF m 56 #[.val (.int p0), .val (.int p1), .val (.int p2), .val (.int p3), .val (.int (0 : Int32)), .val (.int (0 : Int32)), .val (.ref b_79), .unset, .unset, .unset, .unset] [])) (fun _ k => XS.ifYes X79.here hx rfl (pc0 := 49) (pc' := 56) rfl (hb hby at_49) rfl ((if0 _ _).trans (teq (by decide : ((0 : Int32) = (0 : Int32)))).1) (by decide) (by decide) k) ?_
      refine Goes.step (T' := T79) (g' := (mkF m 57 #[.val (.int p0), .val (.int p1), .val (.int p2), .val (.int p3), .val (.int (0 : Int32)), .val (.int (0 : Int32)), .val (.ref b_79), .unset, .unset, .unset, .unset] [(.int p3)])) (fun _ k => XS.iloadN X79.here hx rfl (hb hby at_56) rfl  k) ?_
      obtain ⟨_, _, ⟨T80, L80, k80, n80⟩, -, X80, hS80, hgr80, ⟨Lc80, hQ80, l80, y80, z80, Ch80⟩, st80⟩ := callSS X79 hx (y := (⟨"com/example/wardkey/wardkey/policy/CodeOverlapsPinLaw", "text", "(I)Ljava/lang/String;"⟩ : MethodName)) hown (mvT hZ (hw _ (List.mem_of_getElem? (i := 0) rfl))) (mvT hZ (hw _ (List.mem_of_getElem? (i := 1) rfl))) (mvT hZ (hw _ (List.mem_of_getElem? (i := 2) rfl))) (mvT hZ (hw _ (List.mem_of_getElem? (i := 3) rfl))) (by decide) (backOfSH (W := 0) (rm_text l Z a0 hw [] hEL p3 h79 n0 O0 zcs Scs hz_Scs ) hZ (hw _ (List.mem_of_getElem? (i := 3) rfl)) (hw _ (List.mem_of_getElem? (i := 2) rfl)) (by decide) (by decide) hEL C0.1) (g := (mkF m 57 #[.val (.int p0), .val (.int p1), .val (.int p2), .val (.int p3), .val (.int (0 : Int32)), .val (.int (0 : Int32)), .val (.ref b_79), .unset, .unset, .unset, .unset] [(.int p3)])) rfl (by rw [hml]; rfl) (argsL := [(.int p3)]) (rest := []) (lenOf pd_8 rfl) rfl (by show 2 * 0 + _ ≤ _; exact Nat.le_of_eq rfl) (hb hby at_57) (fun _ _ => ⟨rfl, e79, (by decide : 6 + 6 ≤ _), (by decide : 12 + 12 ≤ _)⟩)
      dsimp only [Pt.U, Pt.locs, Pt.cells, Pt.slots] at X80 l80 y80 z80 st80 hQ80 hS80 hgr80 Ch80
      subst l80 y80 z80
      obtain ⟨h80, e80⟩ : ∃ z, T80.heap = z := ⟨_, rfl⟩
      rw [e80] at hQ80 Ch80
      obtain ⟨b_80, rfl, Nq80, Kq80, fr80_b_80, E_b_80_q80, G_b_80_q80⟩ := hQ80
      replace N0 := Fr.app N0 Nq80
      have g_b_80 : n0 ≤ b_80 := Nat.le_trans (own_n0 O0) fr80_b_80
      have sz_b_80 : h0.size ≤ b_80 := Nat.le_trans K0.1 fr80_b_80
      have ne_b_79_b_80 : b_79 ≠ b_80 := Nat.ne_of_lt (Nat.lt_of_lt_of_le E_b_79.lt fr80_b_80)
      replace C0 := C0.trans Ch80
      replace G_b_79 := G_b_79.ext (own_kext Kq80)
      replace E_b_79 := E_b_79.keep Kq80
      replace O0 := O0.keep Kq80 all0
      replace K0 := K0.trans Kq80 all0
      have E_b_80 := E_b_80_q80
      have G_b_80 := G_b_80_q80
      obtain ⟨X80, hS80, hZ80, hown80⟩ := rebS hS0 (by rw [e79]; exact hk0) X80 hS80 hgr80 hZ hown
      rw [e80] at hS80
      clear hS0 hk0 hZ hown
      have hS0 := hS80
      have hk0 : h80.size ≤ h80.size := Nat.le_refl _
      have hZ := hZ80
      have hown := hown80
      refine Goes.run (T' := T80) (g' := (mkF m 60 #[.val (.int p0), .val (.int p1), .val (.int p2), .val (.int p3), .val (.int (0 : Int32)), .val (.int (0 : Int32)), .val (.ref b_79), .unset, .unset, .unset, .unset] [(.ref b_80)])) st80 ?_
      refine Goes.step (T' := T80) (g' := (mkF m 62 #[.val (.int p0), .val (.int p1), .val (.int p2), .val (.int p3), .val (.int (0 : Int32)), .val (.int (0 : Int32)), .val (.ref b_79), .val (.ref b_80), .unset, .unset, .unset] [])) (fun _ k => XS.astore X80.here hx rfl (hb hby at_60) rfl rfl (l' := #[.val (.int p0), .val (.int p1), .val (.int p2), .val (.int p3), .val (.int (0 : Int32)), .val (.int (0 : Int32)), .val (.ref b_79), .val (.ref b_80), .unset, .unset, .unset]) rfl k) ?_
      obtain ⟨T81, h81, X81, e81, Ex81, A81, D81, -, st81⟩ := newO X80 hx hZ hown (hw _ (List.mem_of_getElem? (i := 33) rfl)) (hw _ (List.mem_of_getElem? (i := 34) rfl)) (hw _ (List.mem_of_getElem? (i := 35) rfl)) e80 (g := (mkF m 62 #[.val (.int p0), .val (.int p1), .val (.int p2), .val (.int p3), .val (.int (0 : Int32)), .val (.int (0 : Int32)), .val (.ref b_79), .val (.ref b_80), .unset, .unset, .unset] [])) rfl (hb hby at_62) (by decide) (by decide)
      obtain ⟨b81, gg81⟩ : ∃ z, z = h80.size := ⟨_, rfl⟩
      rw [← gg81] at A81 D81 st81
      have g_b81 : n0 ≤ b81 := Nat.le_trans (own_n0 O0) (Nat.le_of_eq gg81.symm)
      have sz_b81 : h0.size ≤ b81 := Nat.le_trans K0.1 (Nat.le_of_eq gg81.symm)
      have ne_b_79_b81 : b_79 ≠ b81 := Nat.ne_of_lt (Nat.lt_of_lt_of_le E_b_79.lt (Nat.le_of_eq gg81.symm))
      have ne_b_80_b81 : b_80 ≠ b81 := Nat.ne_of_lt (Nat.lt_of_lt_of_le E_b_80.lt (Nat.le_of_eq gg81.symm))
      have S_b81 := (Safe.new (Z := Z) (EL := EL) (vm := T80.vm) (Nat.le_of_eq gg81.symm)).ext Ex81 C0.1
      replace E_b_79 := E_b_79.ext Ex81
      replace G_b_79 := G_b_79.ext Ex81
      replace E_b_80 := E_b_80.ext Ex81
      replace G_b_80 := G_b_80.ext Ex81
      replace O0 := O0.ext Ex81
      replace K0 := K0.ext Ex81
      replace C0 := C0.trans (CHr.ext Ex81 C0.1)
      replace hk0 := Nat.le_trans hk0 Ex81.1
      have E_b81 := A81
      have F_b81_system : Fld Z h81 b81 "com/example/wardkey/wardkey/policy/Code" "system" "Ljava/lang/String;" .null := D81 (Or.inr (hw _ (List.mem_of_getElem? (i := 51) rfl))) (ty := (.object "java/lang/String")) (by decide)
      have F_b81_code : Fld Z h81 b81 "com/example/wardkey/wardkey/policy/Code" "code" "Ljava/lang/String;" .null := D81 (Or.inr (hw _ (List.mem_of_getElem? (i := 53) rfl))) (ty := (.object "java/lang/String")) (by decide)
      refine Goes.step (T' := T81) (g' := (mkF m 65 #[.val (.int p0), .val (.int p1), .val (.int p2), .val (.int p3), .val (.int (0 : Int32)), .val (.int (0 : Int32)), .val (.ref b_79), .val (.ref b_80), .unset, .unset, .unset] [(.ref b81)])) st81 ?_
      clear D81 A81
      refine Goes.step (T' := T81) (g' := (mkF m 66 #[.val (.int p0), .val (.int p1), .val (.int p2), .val (.int p3), .val (.int (0 : Int32)), .val (.int (0 : Int32)), .val (.ref b_79), .val (.ref b_80), .unset, .unset, .unset] [(.ref b81), (.ref b81)])) (fun _ k => XS.dup X81.here hx rfl (hb hby at_65) rfl rfl k) ?_
      refine Goes.step (T' := T81) (g' := (mkF m 68 #[.val (.int p0), .val (.int p1), .val (.int p2), .val (.int p3), .val (.int (0 : Int32)), .val (.int (0 : Int32)), .val (.ref b_79), .val (.ref b_80), .unset, .unset, .unset] [(.ref b_79), (.ref b81), (.ref b81)])) (fun _ k => XS.aload X81.here hx rfl (hb hby at_66) rfl rfl k) ?_
      refine Goes.step (T' := T81) (g' := (mkF m 69 #[.val (.int p0), .val (.int p1), .val (.int p2), .val (.int p3), .val (.int (0 : Int32)), .val (.int (0 : Int32)), .val (.ref b_79), .val (.ref b_80), .unset, .unset, .unset] [(.int p0), (.ref b_79), (.ref b81), (.ref b81)])) (fun _ k => XS.iloadN X81.here hx rfl (hb hby at_68) rfl  k) ?_
      obtain ⟨_, _, ⟨T82, L82, k82, n82⟩, -, X82, hS82, hgr82, ⟨Lc82, hQ82, l82, y82, z82, Ch82⟩, st82⟩ := callSS X81 hx (y := (⟨"com/example/wardkey/wardkey/policy/CodeOverlapsPinLaw", "text", "(I)Ljava/lang/String;"⟩ : MethodName)) hown (mvT hZ (hw _ (List.mem_of_getElem? (i := 0) rfl))) (mvT hZ (hw _ (List.mem_of_getElem? (i := 1) rfl))) (mvT hZ (hw _ (List.mem_of_getElem? (i := 2) rfl))) (mvT hZ (hw _ (List.mem_of_getElem? (i := 3) rfl))) (by decide) (backOfSH (W := 3) (rm_text l Z a0 hw [] hEL p0 h81 n0 O0 zcs Scs hz_Scs ) hZ (hw _ (List.mem_of_getElem? (i := 3) rfl)) (hw _ (List.mem_of_getElem? (i := 2) rfl)) (by decide) (by decide) hEL C0.1) (g := (mkF m 69 #[.val (.int p0), .val (.int p1), .val (.int p2), .val (.int p3), .val (.int (0 : Int32)), .val (.int (0 : Int32)), .val (.ref b_79), .val (.ref b_80), .unset, .unset, .unset] [(.int p0), (.ref b_79), (.ref b81), (.ref b81)])) rfl (by rw [hml]; rfl) (argsL := [(.int p0)]) (rest := [(.ref b_79), (.ref b81), (.ref b81)]) (lenOf pd_8 rfl) rfl (by show 2 * 0 + _ ≤ _; exact Nat.le_of_eq rfl) (hb hby at_69) (fun _ _ => ⟨rfl, e81, (by decide : 13 + 6 ≤ _), (by decide : 26 + 12 ≤ _)⟩)
      dsimp only [Pt.U, Pt.locs, Pt.cells, Pt.slots] at X82 l82 y82 z82 st82 hQ82 hS82 hgr82 Ch82
      subst l82 y82 z82
      obtain ⟨h82, e82⟩ : ∃ z, T82.heap = z := ⟨_, rfl⟩
      rw [e82] at hQ82 Ch82
      obtain ⟨b_82, rfl, Nq82, Kq82, fr82_b_82, E_b_82_q82, G_b_82_q82⟩ := hQ82
      replace N0 := Fr.app N0 Nq82
      have g_b_82 : n0 ≤ b_82 := Nat.le_trans (own_n0 O0) fr82_b_82
      have sz_b_82 : h0.size ≤ b_82 := Nat.le_trans K0.1 fr82_b_82
      have ne_b_79_b_82 : b_79 ≠ b_82 := Nat.ne_of_lt (Nat.lt_of_lt_of_le E_b_79.lt fr82_b_82)
      have ne_b_80_b_82 : b_80 ≠ b_82 := Nat.ne_of_lt (Nat.lt_of_lt_of_le E_b_80.lt fr82_b_82)
      have ne_b81_b_82 : b81 ≠ b_82 := Nat.ne_of_lt (Nat.lt_of_lt_of_le E_b81.lt fr82_b_82)
      replace S_b81 := Ch82.safe E_b81.lt S_b81
      replace C0 := C0.trans Ch82
      replace G_b_79 := G_b_79.ext (own_kext Kq82)
      replace G_b_80 := G_b_80.ext (own_kext Kq82)
      replace E_b_79 := E_b_79.keep Kq82
      replace E_b_80 := E_b_80.keep Kq82
      replace E_b81 := E_b81.keep Kq82
      replace F_b81_system := F_b81_system.keep Kq82 nin0
      replace F_b81_code := F_b81_code.keep Kq82 nin0
      replace O0 := O0.keep Kq82 all0
      replace K0 := K0.trans Kq82 all0
      have E_b_82 := E_b_82_q82
      have G_b_82 := G_b_82_q82
      obtain ⟨X82, hS82, hZ82, hown82⟩ := rebS hS0 (by rw [e81]; exact hk0) X82 hS82 hgr82 hZ hown
      rw [e82] at hS82
      clear hS0 hk0 hZ hown
      have hS0 := hS82
      have hk0 : h82.size ≤ h82.size := Nat.le_refl _
      have hZ := hZ82
      have hown := hown82
      refine Goes.run (T' := T82) (g' := (mkF m 72 #[.val (.int p0), .val (.int p1), .val (.int p2), .val (.int p3), .val (.int (0 : Int32)), .val (.int (0 : Int32)), .val (.ref b_79), .val (.ref b_80), .unset, .unset, .unset] [(.ref b_82), (.ref b_79), (.ref b81), (.ref b81)])) st82 ?_
      obtain ⟨_, _, ⟨T83, L83, k83, n83⟩, -, X83, hS83, hgr83, ⟨Lc83, hQ83, l83, y83, z83, Ch83⟩, st83⟩ := X82.specialBackS hx (y := (⟨"com/example/wardkey/wardkey/policy/Code", "<init>", "(Ljava/lang/String;Ljava/lang/String;)V"⟩ : MethodName)) rfl hown (mvT hZ (hw _ (List.mem_of_getElem? (i := 36) rfl))) (mvT hZ (hw _ (List.mem_of_getElem? (i := 37) rfl))) (mvT hZ (hw _ (List.mem_of_getElem? (i := 38) rfl))) (by decide) (backOfSH (W := 1) (rm_codeInit l Z a0 hw [] hEL b81 (.ref b_79) rfl b_82 h82 n0 O0  E_b81 F_b81_system F_b81_code g_b81) hZ (hw _ (List.mem_of_getElem? (i := 38) rfl)) (hw _ (List.mem_of_getElem? (i := 35) rfl)) (by decide) (by decide) hEL C0.1) (g := (mkF m 72 #[.val (.int p0), .val (.int p1), .val (.int p2), .val (.int p3), .val (.int (0 : Int32)), .val (.int (0 : Int32)), .val (.ref b_79), .val (.ref b_80), .unset, .unset, .unset] [(.ref b_82), (.ref b_79), (.ref b81), (.ref b81)])) rfl (by rw [hml]; rfl) (Steps.refl _) (a := b81) (argsL := [(.ref b_79), (.ref b_82)]) (rest := [(.ref b81)]) (lenOf pd_9 rfl) rfl (by show 2 * 0 + _ ≤ _; exact Nat.le_of_eq rfl) (hb hby at_72) (fun _ _ => ⟨rfl, e82, (by decide : 19 + 2 ≤ _), (by decide : 38 + 20 ≤ _)⟩)
      dsimp only [Pt.U, Pt.locs, Pt.cells, Pt.slots] at X83 l83 y83 z83 st83 hQ83 hS83 hgr83 Ch83
      subst l83 y83 z83
      obtain ⟨h83, e83⟩ : ∃ z, T83.heap = z := ⟨_, rfl⟩
      rw [e83] at hQ83 Ch83
      obtain ⟨rfl, Nq83, Kq83, E_b81_q83, F_b81_system_q83, F_b81_code_q83⟩ := hQ83
      replace N0 := Fr.app N0 Nq83
      replace S_b81 := Ch83.safe E_b81.lt S_b81
      replace C0 := C0.trans Ch83
      replace G_b_79 := G_b_79.keepE Kq83 E_b81 (by decide) (hw _ (List.mem_of_getElem? (i := 34) rfl))
      replace G_b_80 := G_b_80.keepE Kq83 E_b81 (by decide) (hw _ (List.mem_of_getElem? (i := 34) rfl))
      replace G_b_82 := G_b_82.keepE Kq83 E_b81 (by decide) (hw _ (List.mem_of_getElem? (i := 34) rfl))
      replace E_b_79 := E_b_79.keep Kq83
      replace E_b_80 := E_b_80.keep Kq83
      clear E_b81
      clear F_b81_system
      clear F_b81_code
      replace E_b_82 := E_b_82.keep Kq83
      replace O0 := O0.keep Kq83 (allS g_b81 all0)
      replace K0 := K0.trans Kq83 (allS (Or.inr sz_b81) all0)
      have E_b81 := E_b81_q83
      have F_b81_system := F_b81_system_q83
      have F_b81_code := F_b81_code_q83
      obtain ⟨X83, hS83, hZ83, hown83⟩ := rebS hS0 (by rw [e82]; exact hk0) X83 hS83 hgr83 hZ hown
      rw [e83] at hS83
      clear hS0 hk0 hZ hown
      have hS0 := hS83
      have hk0 : h83.size ≤ h83.size := Nat.le_refl _
      have hZ := hZ83
      have hown := hown83
      refine Goes.run (T' := T83) (g' := (mkF m 75 #[.val (.int p0), .val (.int p1), .val (.int p2), .val (.int p3), .val (.int (0 : Int32)), .val (.int (0 : Int32)), .val (.ref b_79), .val (.ref b_80), .unset, .unset, .unset] [(.ref b81)])) st83 ?_
      refine Goes.step (T' := T83) (g' := (mkF m 77 #[.val (.int p0), .val (.int p1), .val (.int p2), .val (.int p3), .val (.int (0 : Int32)), .val (.int (0 : Int32)), .val (.ref b_79), .val (.ref b_80), .val (.ref b81), .unset, .unset] [])) (fun _ k => XS.astore X83.here hx rfl (hb hby at_75) rfl rfl (l' := #[.val (.int p0), .val (.int p1), .val (.int p2), .val (.int p3), .val (.int (0 : Int32)), .val (.int (0 : Int32)), .val (.ref b_79), .val (.ref b_80), .val (.ref b81), .unset, .unset]) rfl k) ?_
      obtain ⟨T84, h84, X84, e84, Ex84, A84, D84, -, st84⟩ := newO X83 hx hZ hown (hw _ (List.mem_of_getElem? (i := 33) rfl)) (hw _ (List.mem_of_getElem? (i := 34) rfl)) (hw _ (List.mem_of_getElem? (i := 35) rfl)) e83 (g := (mkF m 77 #[.val (.int p0), .val (.int p1), .val (.int p2), .val (.int p3), .val (.int (0 : Int32)), .val (.int (0 : Int32)), .val (.ref b_79), .val (.ref b_80), .val (.ref b81), .unset, .unset] [])) rfl (hb hby at_77) (by decide) (by decide)
      obtain ⟨b84, gg84⟩ : ∃ z, z = h83.size := ⟨_, rfl⟩
      rw [← gg84] at A84 D84 st84
      have g_b84 : n0 ≤ b84 := Nat.le_trans (own_n0 O0) (Nat.le_of_eq gg84.symm)
      have sz_b84 : h0.size ≤ b84 := Nat.le_trans K0.1 (Nat.le_of_eq gg84.symm)
      have ne_b_79_b84 : b_79 ≠ b84 := Nat.ne_of_lt (Nat.lt_of_lt_of_le E_b_79.lt (Nat.le_of_eq gg84.symm))
      have ne_b_80_b84 : b_80 ≠ b84 := Nat.ne_of_lt (Nat.lt_of_lt_of_le E_b_80.lt (Nat.le_of_eq gg84.symm))
      have ne_b_82_b84 : b_82 ≠ b84 := Nat.ne_of_lt (Nat.lt_of_lt_of_le E_b_82.lt (Nat.le_of_eq gg84.symm))
      have ne_b81_b84 : b81 ≠ b84 := Nat.ne_of_lt (Nat.lt_of_lt_of_le E_b81.lt (Nat.le_of_eq gg84.symm))
      have S_b84 := (Safe.new (Z := Z) (EL := EL) (vm := T83.vm) (Nat.le_of_eq gg84.symm)).ext Ex84 C0.1
      replace S_b81 := S_b81.ext Ex84 C0.1
      replace E_b_79 := E_b_79.ext Ex84
      replace G_b_79 := G_b_79.ext Ex84
      replace E_b_80 := E_b_80.ext Ex84
      replace G_b_80 := G_b_80.ext Ex84
      replace E_b_82 := E_b_82.ext Ex84
      replace G_b_82 := G_b_82.ext Ex84
      replace E_b81 := E_b81.ext Ex84
      replace F_b81_system := F_b81_system.ext Ex84
      replace F_b81_code := F_b81_code.ext Ex84
      replace O0 := O0.ext Ex84
      replace K0 := K0.ext Ex84
      replace C0 := C0.trans (CHr.ext Ex84 C0.1)
      replace hk0 := Nat.le_trans hk0 Ex84.1
      have E_b84 := A84
      have F_b84_system : Fld Z h84 b84 "com/example/wardkey/wardkey/policy/Code" "system" "Ljava/lang/String;" .null := D84 (Or.inr (hw _ (List.mem_of_getElem? (i := 51) rfl))) (ty := (.object "java/lang/String")) (by decide)
      have F_b84_code : Fld Z h84 b84 "com/example/wardkey/wardkey/policy/Code" "code" "Ljava/lang/String;" .null := D84 (Or.inr (hw _ (List.mem_of_getElem? (i := 53) rfl))) (ty := (.object "java/lang/String")) (by decide)
      refine Goes.step (T' := T84) (g' := (mkF m 80 #[.val (.int p0), .val (.int p1), .val (.int p2), .val (.int p3), .val (.int (0 : Int32)), .val (.int (0 : Int32)), .val (.ref b_79), .val (.ref b_80), .val (.ref b81), .unset, .unset] [(.ref b84)])) st84 ?_
      clear D84 A84
      refine Goes.step (T' := T84) (g' := (mkF m 81 #[.val (.int p0), .val (.int p1), .val (.int p2), .val (.int p3), .val (.int (0 : Int32)), .val (.int (0 : Int32)), .val (.ref b_79), .val (.ref b_80), .val (.ref b81), .unset, .unset] [(.ref b84), (.ref b84)])) (fun _ k => XS.dup X84.here hx rfl (hb hby at_80) rfl rfl k) ?_
      refine Goes.step (T' := T84) (g' := (mkF m 83 #[.val (.int p0), .val (.int p1), .val (.int p2), .val (.int p3), .val (.int (0 : Int32)), .val (.int (0 : Int32)), .val (.ref b_79), .val (.ref b_80), .val (.ref b81), .unset, .unset] [(.ref b_80), (.ref b84), (.ref b84)])) (fun _ k => XS.aload X84.here hx rfl (hb hby at_81) rfl rfl k) ?_
      refine Goes.step (T' := T84) (g' := (mkF m 84 #[.val (.int p0), .val (.int p1), .val (.int p2), .val (.int p3), .val (.int (0 : Int32)), .val (.int (0 : Int32)), .val (.ref b_79), .val (.ref b_80), .val (.ref b81), .unset, .unset] [(.int p1), (.ref b_80), (.ref b84), (.ref b84)])) (fun _ k => XS.iloadN X84.here hx rfl (hb hby at_83) rfl  k) ?_
      obtain ⟨_, _, ⟨T85, L85, k85, n85⟩, -, X85, hS85, hgr85, ⟨Lc85, hQ85, l85, y85, z85, Ch85⟩, st85⟩ := callSS X84 hx (y := (⟨"com/example/wardkey/wardkey/policy/CodeOverlapsPinLaw", "text", "(I)Ljava/lang/String;"⟩ : MethodName)) hown (mvT hZ (hw _ (List.mem_of_getElem? (i := 0) rfl))) (mvT hZ (hw _ (List.mem_of_getElem? (i := 1) rfl))) (mvT hZ (hw _ (List.mem_of_getElem? (i := 2) rfl))) (mvT hZ (hw _ (List.mem_of_getElem? (i := 3) rfl))) (by decide) (backOfSH (W := 3) (rm_text l Z a0 hw [] hEL p1 h84 n0 O0 zcs Scs hz_Scs ) hZ (hw _ (List.mem_of_getElem? (i := 3) rfl)) (hw _ (List.mem_of_getElem? (i := 2) rfl)) (by decide) (by decide) hEL C0.1) (g := (mkF m 84 #[.val (.int p0), .val (.int p1), .val (.int p2), .val (.int p3), .val (.int (0 : Int32)), .val (.int (0 : Int32)), .val (.ref b_79), .val (.ref b_80), .val (.ref b81), .unset, .unset] [(.int p1), (.ref b_80), (.ref b84), (.ref b84)])) rfl (by rw [hml]; rfl) (argsL := [(.int p1)]) (rest := [(.ref b_80), (.ref b84), (.ref b84)]) (lenOf pd_8 rfl) rfl (by show 2 * 0 + _ ≤ _; exact Nat.le_of_eq rfl) (hb hby at_84) (fun _ _ => ⟨rfl, e84, (by decide : 22 + 6 ≤ _), (by decide : 60 + 12 ≤ _)⟩)
      dsimp only [Pt.U, Pt.locs, Pt.cells, Pt.slots] at X85 l85 y85 z85 st85 hQ85 hS85 hgr85 Ch85
      subst l85 y85 z85
      obtain ⟨h85, e85⟩ : ∃ z, T85.heap = z := ⟨_, rfl⟩
      rw [e85] at hQ85 Ch85
      obtain ⟨b_85, rfl, Nq85, Kq85, fr85_b_85, E_b_85_q85, G_b_85_q85⟩ := hQ85
      replace N0 := Fr.app N0 Nq85
      have g_b_85 : n0 ≤ b_85 := Nat.le_trans (own_n0 O0) fr85_b_85
      have sz_b_85 : h0.size ≤ b_85 := Nat.le_trans K0.1 fr85_b_85
      have ne_b_79_b_85 : b_79 ≠ b_85 := Nat.ne_of_lt (Nat.lt_of_lt_of_le E_b_79.lt fr85_b_85)
      have ne_b_80_b_85 : b_80 ≠ b_85 := Nat.ne_of_lt (Nat.lt_of_lt_of_le E_b_80.lt fr85_b_85)
      have ne_b_82_b_85 : b_82 ≠ b_85 := Nat.ne_of_lt (Nat.lt_of_lt_of_le E_b_82.lt fr85_b_85)
      have ne_b81_b_85 : b81 ≠ b_85 := Nat.ne_of_lt (Nat.lt_of_lt_of_le E_b81.lt fr85_b_85)
      have ne_b84_b_85 : b84 ≠ b_85 := Nat.ne_of_lt (Nat.lt_of_lt_of_le E_b84.lt fr85_b_85)
      replace S_b81 := Ch85.safe E_b81.lt S_b81
      replace S_b84 := Ch85.safe E_b84.lt S_b84
      replace C0 := C0.trans Ch85
      replace G_b_79 := G_b_79.ext (own_kext Kq85)
      replace G_b_80 := G_b_80.ext (own_kext Kq85)
      replace G_b_82 := G_b_82.ext (own_kext Kq85)
      replace E_b_79 := E_b_79.keep Kq85
      replace E_b_80 := E_b_80.keep Kq85
      replace E_b_82 := E_b_82.keep Kq85
      replace E_b81 := E_b81.keep Kq85
      replace F_b81_system := F_b81_system.keep Kq85 nin0
      replace F_b81_code := F_b81_code.keep Kq85 nin0
      replace E_b84 := E_b84.keep Kq85
      replace F_b84_system := F_b84_system.keep Kq85 nin0
      replace F_b84_code := F_b84_code.keep Kq85 nin0
      replace O0 := O0.keep Kq85 all0
      replace K0 := K0.trans Kq85 all0
      have E_b_85 := E_b_85_q85
      have G_b_85 := G_b_85_q85
      obtain ⟨X85, hS85, hZ85, hown85⟩ := rebS hS0 (by rw [e84]; exact hk0) X85 hS85 hgr85 hZ hown
      rw [e85] at hS85
      clear hS0 hk0 hZ hown
      have hS0 := hS85
      have hk0 : h85.size ≤ h85.size := Nat.le_refl _
      have hZ := hZ85
      have hown := hown85
      refine Goes.run (T' := T85) (g' := (mkF m 87 #[.val (.int p0), .val (.int p1), .val (.int p2), .val (.int p3), .val (.int (0 : Int32)), .val (.int (0 : Int32)), .val (.ref b_79), .val (.ref b_80), .val (.ref b81), .unset, .unset] [(.ref b_85), (.ref b_80), (.ref b84), (.ref b84)])) st85 ?_
      obtain ⟨_, _, ⟨T86, L86, k86, n86⟩, -, X86, hS86, hgr86, ⟨Lc86, hQ86, l86, y86, z86, Ch86⟩, st86⟩ := X85.specialBackS hx (y := (⟨"com/example/wardkey/wardkey/policy/Code", "<init>", "(Ljava/lang/String;Ljava/lang/String;)V"⟩ : MethodName)) rfl hown (mvT hZ (hw _ (List.mem_of_getElem? (i := 36) rfl))) (mvT hZ (hw _ (List.mem_of_getElem? (i := 37) rfl))) (mvT hZ (hw _ (List.mem_of_getElem? (i := 38) rfl))) (by decide) (backOfSH (W := 1) (rm_codeInit l Z a0 hw [] hEL b84 (.ref b_80) rfl b_85 h85 n0 O0  E_b84 F_b84_system F_b84_code g_b84) hZ (hw _ (List.mem_of_getElem? (i := 38) rfl)) (hw _ (List.mem_of_getElem? (i := 35) rfl)) (by decide) (by decide) hEL C0.1) (g := (mkF m 87 #[.val (.int p0), .val (.int p1), .val (.int p2), .val (.int p3), .val (.int (0 : Int32)), .val (.int (0 : Int32)), .val (.ref b_79), .val (.ref b_80), .val (.ref b81), .unset, .unset] [(.ref b_85), (.ref b_80), (.ref b84), (.ref b84)])) rfl (by rw [hml]; rfl) (Steps.refl _) (a := b84) (argsL := [(.ref b_80), (.ref b_85)]) (rest := [(.ref b84)]) (lenOf pd_9 rfl) rfl (by show 2 * 0 + _ ≤ _; exact Nat.le_of_eq rfl) (hb hby at_87) (fun _ _ => ⟨rfl, e85, (by decide : 28 + 2 ≤ _), (by decide : 72 + 20 ≤ _)⟩)
      dsimp only [Pt.U, Pt.locs, Pt.cells, Pt.slots] at X86 l86 y86 z86 st86 hQ86 hS86 hgr86 Ch86
      subst l86 y86 z86
      obtain ⟨h86, e86⟩ : ∃ z, T86.heap = z := ⟨_, rfl⟩
      rw [e86] at hQ86 Ch86
      obtain ⟨rfl, Nq86, Kq86, E_b84_q86, F_b84_system_q86, F_b84_code_q86⟩ := hQ86
      replace N0 := Fr.app N0 Nq86
      replace S_b81 := Ch86.safe E_b81.lt S_b81
      replace S_b84 := Ch86.safe E_b84.lt S_b84
      replace C0 := C0.trans Ch86
      replace G_b_79 := G_b_79.keepE Kq86 E_b84 (by decide) (hw _ (List.mem_of_getElem? (i := 34) rfl))
      replace G_b_80 := G_b_80.keepE Kq86 E_b84 (by decide) (hw _ (List.mem_of_getElem? (i := 34) rfl))
      replace G_b_82 := G_b_82.keepE Kq86 E_b84 (by decide) (hw _ (List.mem_of_getElem? (i := 34) rfl))
      replace G_b_85 := G_b_85.keepE Kq86 E_b84 (by decide) (hw _ (List.mem_of_getElem? (i := 34) rfl))
      replace E_b_79 := E_b_79.keep Kq86
      replace E_b_80 := E_b_80.keep Kq86
      replace E_b_82 := E_b_82.keep Kq86
      replace E_b81 := E_b81.keep Kq86
      replace F_b81_system := F_b81_system.keep Kq86 (ninS ne_b81_b84 nin0)
      replace F_b81_code := F_b81_code.keep Kq86 (ninS ne_b81_b84 nin0)
      clear E_b84
      clear F_b84_system
      clear F_b84_code
      replace E_b_85 := E_b_85.keep Kq86
      replace O0 := O0.keep Kq86 (allS g_b84 all0)
      replace K0 := K0.trans Kq86 (allS (Or.inr sz_b84) all0)
      have E_b84 := E_b84_q86
      have F_b84_system := F_b84_system_q86
      have F_b84_code := F_b84_code_q86
      obtain ⟨X86, hS86, hZ86, hown86⟩ := rebS hS0 (by rw [e85]; exact hk0) X86 hS86 hgr86 hZ hown
      rw [e86] at hS86
      clear hS0 hk0 hZ hown
      have hS0 := hS86
      have hk0 : h86.size ≤ h86.size := Nat.le_refl _
      have hZ := hZ86
      have hown := hown86
      refine Goes.run (T' := T86) (g' := (mkF m 90 #[.val (.int p0), .val (.int p1), .val (.int p2), .val (.int p3), .val (.int (0 : Int32)), .val (.int (0 : Int32)), .val (.ref b_79), .val (.ref b_80), .val (.ref b81), .unset, .unset] [(.ref b84)])) st86 ?_
      refine Goes.step (T' := T86) (g' := (mkF m 92 #[.val (.int p0), .val (.int p1), .val (.int p2), .val (.int p3), .val (.int (0 : Int32)), .val (.int (0 : Int32)), .val (.ref b_79), .val (.ref b_80), .val (.ref b81), .val (.ref b84), .unset] [])) (fun _ k => XS.astore X86.here hx rfl (hb hby at_90) rfl rfl (l' := #[.val (.int p0), .val (.int p1), .val (.int p2), .val (.int p3), .val (.int (0 : Int32)), .val (.int (0 : Int32)), .val (.ref b_79), .val (.ref b_80), .val (.ref b81), .val (.ref b84), .unset]) rfl k) ?_
      refine Goes.step (T' := T86) (g' := (mkF m 93 #[.val (.int p0), .val (.int p1), .val (.int p2), .val (.int p3), .val (.int (0 : Int32)), .val (.int (0 : Int32)), .val (.ref b_79), .val (.ref b_80), .val (.ref b81), .val (.ref b84), .unset] [(.int p0)])) (fun _ k => XS.iloadN X86.here hx rfl (hb hby at_92) rfl  k) ?_
      refine Goes.step (T' := T86) (g' := (mkF m 94 #[.val (.int p0), .val (.int p1), .val (.int p2), .val (.int p3), .val (.int (0 : Int32)), .val (.int (0 : Int32)), .val (.ref b_79), .val (.ref b_80), .val (.ref b81), .val (.ref b84), .unset] [(.int p1), (.int p0)])) (fun _ k => XS.iloadN X86.here hx rfl (hb hby at_93) rfl  k) ?_
      obtain ⟨_, _, ⟨T87, L87, k87, n87⟩, -, X87, ⟨Lc87, hQ87, l87, y87, z87⟩, st87⟩ := Jvm.LawKit.callS X86 hx (y := (⟨"com/example/wardkey/wardkey/policy/CodeOverlapsPinLaw", "same", "(II)Z"⟩ : MethodName)) hown (mvT hZ (hw _ (List.mem_of_getElem? (i := 54) rfl))) (mvT hZ (hw _ (List.mem_of_getElem? (i := 55) rfl))) (mvT hZ (hw _ (List.mem_of_getElem? (i := 2) rfl))) (mvT hZ (hw _ (List.mem_of_getElem? (i := 56) rfl))) (by decide) (backOf (W := 0) (rm_same l Z a0 hw [] p0 p1 h86 n0 O0  ) hZ (hw _ (List.mem_of_getElem? (i := 56) rfl)) (hw _ (List.mem_of_getElem? (i := 2) rfl)) (by decide) (by decide)) (g := (mkF m 94 #[.val (.int p0), .val (.int p1), .val (.int p2), .val (.int p3), .val (.int (0 : Int32)), .val (.int (0 : Int32)), .val (.ref b_79), .val (.ref b_80), .val (.ref b81), .val (.ref b84), .unset] [(.int p1), (.int p0)])) rfl (by rw [hml]; rfl) (argsL := [(.int p0), (.int p1)]) (rest := []) (lenOf pd_10 rfl) rfl (by show 2 * 0 + _ ≤ _; exact Nat.le_of_eq rfl) (hb hby at_94) (fun _ _ => ⟨rfl, e86, (by decide : 30 + 0 ≤ _), (by decide : 92 + 0 ≤ _)⟩)
      dsimp only [Pt.U, Pt.locs, Pt.cells, Pt.slots] at X87 l87 y87 z87 st87 hQ87
      subst l87 y87 z87
      obtain ⟨rfl, rfl, e87⟩ := hQ87
      replace N0 := Fr.app N0 (Fr.nil n0)
      refine Goes.step (T' := T87) (g' := (mkF m 97 #[.val (.int p0), .val (.int p1), .val (.int p2), .val (.int p3), .val (.int (0 : Int32)), .val (.int (0 : Int32)), .val (.ref b_79), .val (.ref b_80), .val (.ref b81), .val (.ref b84), .unset] [(.int (if TX p0 = TX p1 then 1 else 0))])) st87 ?_
      by_cases hc97_88 : (if TX p0 = TX p1 then 1 else 0) = (0 : Int32)
      ·
        refine Goes.step (T' := T87) (g' := (mkF m 122 #[.val (.int p0), .val (.int p1), .val (.int p2), .val (.int p3), .val (.int (0 : Int32)), .val (.int (0 : Int32)), .val (.ref b_79), .val (.ref b_80), .val (.ref b81), .val (.ref b84), .unset] [])) (fun _ k => XS.ifYes X87.here hx rfl (pc0 := 97) (pc' := 122) rfl (hb hby at_97) rfl ((if0 _ _).trans (teq hc97_88).1) (by decide) (by decide) k) ?_
        refine Goes.step (T' := T87) (g' := (mkF m 123 #[.val (.int p0), .val (.int p1), .val (.int p2), .val (.int p3), .val (.int (0 : Int32)), .val (.int (0 : Int32)), .val (.ref b_79), .val (.ref b_80), .val (.ref b81), .val (.ref b84), .unset] [(.int (0 : Int32))])) (fun _ k => XS.iconst X87.here hx rfl (hb hby at_122) k) ?_
        refine Goes.step (T' := T87) (g' := (mkF m 125 #[.val (.int p0), .val (.int p1), .val (.int p2), .val (.int p3), .val (.int (0 : Int32)), .val (.int (0 : Int32)), .val (.ref b_79), .val (.ref b_80), .val (.ref b81), .val (.ref b84), .val (.int (0 : Int32))] [])) (fun _ k => XS.istore X87.here hx rfl (hb hby at_123) rfl (l' := #[.val (.int p0), .val (.int p1), .val (.int p2), .val (.int p3), .val (.int (0 : Int32)), .val (.int (0 : Int32)), .val (.ref b_79), .val (.ref b_80), .val (.ref b81), .val (.ref b84), .val (.int (0 : Int32))]) rfl k) ?_
        refine Goes.step (T' := T87) (g' := (mkF m 127 #[.val (.int p0), .val (.int p1), .val (.int p2), .val (.int p3), .val (.int (0 : Int32)), .val (.int (0 : Int32)), .val (.ref b_79), .val (.ref b_80), .val (.ref b81), .val (.ref b84), .val (.int (0 : Int32))] [(.ref b81)])) (fun _ k => XS.aload X87.here hx rfl (hb hby at_125) rfl rfl k) ?_
        refine Goes.step (T' := T87) (g' := (mkF m 129 #[.val (.int p0), .val (.int p1), .val (.int p2), .val (.int p3), .val (.int (0 : Int32)), .val (.int (0 : Int32)), .val (.ref b_79), .val (.ref b_80), .val (.ref b81), .val (.ref b84), .val (.int (0 : Int32))] [(.ref b84), (.ref b81)])) (fun _ k => XS.aload X87.here hx rfl (hb hby at_127) rfl rfl k) ?_
        obtain ⟨cq89, kq89, qa89, qb89, qc89⟩ := isOf hZ e87 E_b81
        obtain ⟨_, _, ⟨T89, L89, k89, n89⟩, -, X89, ⟨Lc89, hQ89, l89, y89, z89⟩, st89⟩ := X87.virtualBack hx (y := (⟨"com/example/wardkey/wardkey/policy/Code", "overlaps", "(Lcom/example/wardkey/wardkey/policy/Code;)Z"⟩ : MethodName)) (z := (⟨"com/example/wardkey/wardkey/policy/Code", "overlaps", "(Lcom/example/wardkey/wardkey/policy/Code;)Z"⟩ : MethodName)) hown (mvT hZ (hw _ (List.mem_of_getElem? (i := 57) rfl))) (mvT hZ (hw _ (List.mem_of_getElem? (i := 58) rfl))) (notFace_of_selects (args := #[]) (mvT hZ (hw _ (List.mem_of_getElem? (i := 60) rfl)))) (mvT hZ (hw _ (List.mem_of_getElem? (i := 60) rfl))) (mvT hZ (hw _ (List.mem_of_getElem? (i := 59) rfl))) (by decide) (backOf (W := 0) (rm_ovSS l Z a0 hw [] b81 b84 b_82 ((TX p0)) b_85 ((TX p1)) b_79 ((TX p2)) b_80 ((TX p3)) h86 n0 O0 zcs Scs hz_Scs F_b81_code F_b84_code E_b_82 G_b_82 E_b_85 G_b_85 F_b81_system E_b_79 G_b_79 F_b84_system E_b_80 G_b_80 (own_TXlen _) (own_TXlen _) (own_TXlen _) (own_TXlen _)) hZ (hw _ (List.mem_of_getElem? (i := 61) rfl)) (hw _ (List.mem_of_getElem? (i := 35) rfl)) (by decide) (by decide)) qa89 qc89 (g := (mkF m 129 #[.val (.int p0), .val (.int p1), .val (.int p2), .val (.int p3), .val (.int (0 : Int32)), .val (.int (0 : Int32)), .val (.ref b_79), .val (.ref b_80), .val (.ref b81), .val (.ref b84), .val (.int (0 : Int32))] [(.ref b84), (.ref b81)])) rfl (by rw [hml]; rfl) (Steps.refl _) (argsL := [(.ref b84)]) (rest := []) (lenOf pd_11 rfl) rfl (by show 2 * 0 + _ ≤ _; exact Nat.le_of_eq rfl) (hb hby at_129) (fun _ _ => ⟨rfl, e87, (by decide : 30 + 0 ≤ _), (by decide : 92 + 0 ≤ _)⟩)
        dsimp only [Pt.U, Pt.locs, Pt.cells, Pt.slots] at X89 l89 y89 z89 st89 hQ89
        subst l89 y89 z89
        obtain ⟨rfl, rfl, e89⟩ := hQ89
        replace N0 := Fr.app N0 (Fr.nil n0)
        refine Goes.run (T' := T89) (g' := (mkF m 132 #[.val (.int p0), .val (.int p1), .val (.int p2), .val (.int p3), .val (.int (0 : Int32)), .val (.int (0 : Int32)), .val (.ref b_79), .val (.ref b_80), .val (.ref b81), .val (.ref b84), .val (.int (0 : Int32))] [(.int (if (TX p0) = (TX p1) ∧ (TX p2) = (TX p3) then 1 else 0))])) st89 ?_
        refine Goes.step (T' := T89) (g' := (mkF m 134 #[.val (.int p0), .val (.int p1), .val (.int p2), .val (.int p3), .val (.int (0 : Int32)), .val (.int (0 : Int32)), .val (.ref b_79), .val (.ref b_80), .val (.ref b81), .val (.ref b84), .val (.int (0 : Int32))] [(.int (0 : Int32)), (.int (if (TX p0) = (TX p1) ∧ (TX p2) = (TX p3) then 1 else 0))])) (fun _ k => XS.iload X89.here hx rfl (hb hby at_132) rfl  k) ?_
        refine Goes.step (T' := T89) (g' := (mkF m 137 #[.val (.int p0), .val (.int p1), .val (.int p2), .val (.int p3), .val (.int (0 : Int32)), .val (.int (0 : Int32)), .val (.ref b_79), .val (.ref b_80), .val (.ref b81), .val (.ref b84), .val (.int (0 : Int32))] [])) (fun _ k => XS.icmpNo X89.here hx rfl (hb hby at_134) rfl (teq (if_neg fun q => (own_if0 hc97_88) q.1)).2 k) ?_
        refine Goes.step (T' := T89) (g' := (mkF m 139 #[.val (.int p0), .val (.int p1), .val (.int p2), .val (.int p3), .val (.int (0 : Int32)), .val (.int (0 : Int32)), .val (.ref b_79), .val (.ref b_80), .val (.ref b81), .val (.ref b84), .val (.int (0 : Int32))] [(.ref b84)])) (fun _ k => XS.aload X89.here hx rfl (hb hby at_137) rfl rfl k) ?_
        refine Goes.step (T' := T89) (g' := (mkF m 141 #[.val (.int p0), .val (.int p1), .val (.int p2), .val (.int p3), .val (.int (0 : Int32)), .val (.int (0 : Int32)), .val (.ref b_79), .val (.ref b_80), .val (.ref b81), .val (.ref b84), .val (.int (0 : Int32))] [(.ref b81), (.ref b84)])) (fun _ k => XS.aload X89.here hx rfl (hb hby at_139) rfl rfl k) ?_
        obtain ⟨cq90, kq90, qa90, qb90, qc90⟩ := isOf hZ e89 E_b84
        obtain ⟨_, _, ⟨T90, L90, k90, n90⟩, -, X90, ⟨Lc90, hQ90, l90, y90, z90⟩, st90⟩ := X89.virtualBack hx (y := (⟨"com/example/wardkey/wardkey/policy/Code", "overlaps", "(Lcom/example/wardkey/wardkey/policy/Code;)Z"⟩ : MethodName)) (z := (⟨"com/example/wardkey/wardkey/policy/Code", "overlaps", "(Lcom/example/wardkey/wardkey/policy/Code;)Z"⟩ : MethodName)) hown (mvT hZ (hw _ (List.mem_of_getElem? (i := 57) rfl))) (mvT hZ (hw _ (List.mem_of_getElem? (i := 58) rfl))) (notFace_of_selects (args := #[]) (mvT hZ (hw _ (List.mem_of_getElem? (i := 60) rfl)))) (mvT hZ (hw _ (List.mem_of_getElem? (i := 60) rfl))) (mvT hZ (hw _ (List.mem_of_getElem? (i := 59) rfl))) (by decide) (backOf (W := 0) (rm_ovSS l Z a0 hw [] b84 b81 b_85 ((TX p1)) b_82 ((TX p0)) b_80 ((TX p3)) b_79 ((TX p2)) h86 n0 O0 zcs Scs hz_Scs F_b84_code F_b81_code E_b_85 G_b_85 E_b_82 G_b_82 F_b84_system E_b_80 G_b_80 F_b81_system E_b_79 G_b_79 (own_TXlen _) (own_TXlen _) (own_TXlen _) (own_TXlen _)) hZ (hw _ (List.mem_of_getElem? (i := 61) rfl)) (hw _ (List.mem_of_getElem? (i := 35) rfl)) (by decide) (by decide)) qa90 qc90 (g := (mkF m 141 #[.val (.int p0), .val (.int p1), .val (.int p2), .val (.int p3), .val (.int (0 : Int32)), .val (.int (0 : Int32)), .val (.ref b_79), .val (.ref b_80), .val (.ref b81), .val (.ref b84), .val (.int (0 : Int32))] [(.ref b81), (.ref b84)])) rfl (by rw [hml]; rfl) (Steps.refl _) (argsL := [(.ref b81)]) (rest := []) (lenOf pd_11 rfl) rfl (by show 2 * 0 + _ ≤ _; exact Nat.le_of_eq rfl) (hb hby at_141) (fun _ _ => ⟨rfl, e89, (by decide : 30 + 0 ≤ _), (by decide : 92 + 0 ≤ _)⟩)
        dsimp only [Pt.U, Pt.locs, Pt.cells, Pt.slots] at X90 l90 y90 z90 st90 hQ90
        subst l90 y90 z90
        obtain ⟨rfl, rfl, e90⟩ := hQ90
        replace N0 := Fr.app N0 (Fr.nil n0)
        refine Goes.run (T' := T90) (g' := (mkF m 144 #[.val (.int p0), .val (.int p1), .val (.int p2), .val (.int p3), .val (.int (0 : Int32)), .val (.int (0 : Int32)), .val (.ref b_79), .val (.ref b_80), .val (.ref b81), .val (.ref b84), .val (.int (0 : Int32))] [(.int (if (TX p1) = (TX p0) ∧ (TX p3) = (TX p2) then 1 else 0))])) st90 ?_
        refine Goes.step (T' := T90) (g' := (mkF m 146 #[.val (.int p0), .val (.int p1), .val (.int p2), .val (.int p3), .val (.int (0 : Int32)), .val (.int (0 : Int32)), .val (.ref b_79), .val (.ref b_80), .val (.ref b81), .val (.ref b84), .val (.int (0 : Int32))] [(.int (0 : Int32)), (.int (if (TX p1) = (TX p0) ∧ (TX p3) = (TX p2) then 1 else 0))])) (fun _ k => XS.iload X90.here hx rfl (hb hby at_144) rfl  k) ?_
        refine Goes.step (T' := T90) (g' := (mkF m 149 #[.val (.int p0), .val (.int p1), .val (.int p2), .val (.int p3), .val (.int (0 : Int32)), .val (.int (0 : Int32)), .val (.ref b_79), .val (.ref b_80), .val (.ref b81), .val (.ref b84), .val (.int (0 : Int32))] [])) (fun _ k => XS.icmpNo X90.here hx rfl (hb hby at_146) rfl (teq (if_neg fun q => (own_if0 hc97_88) q.1.symm)).2 k) ?_
        refine Goes.step (T' := T90) (g' := (mkF m 150 #[.val (.int p0), .val (.int p1), .val (.int p2), .val (.int p3), .val (.int (0 : Int32)), .val (.int (0 : Int32)), .val (.ref b_79), .val (.ref b_80), .val (.ref b81), .val (.ref b84), .val (.int (0 : Int32))] [(.int (1 : Int32))])) (fun _ k => XS.iconst X90.here hx rfl (hb hby at_149) k) ?_
        refine Goes.step (T' := T90) (g' := (mkF m 154 #[.val (.int p0), .val (.int p1), .val (.int p2), .val (.int p3), .val (.int (0 : Int32)), .val (.int (0 : Int32)), .val (.ref b_79), .val (.ref b_80), .val (.ref b81), .val (.ref b84), .val (.int (0 : Int32))] [(.int (1 : Int32))])) (fun _ k => XS.goto X90.here hx rfl (pc0 := 150) (pc' := 154) rfl (hb hby at_150) (by decide) (by decide) k) ?_
        obtain ⟨fs, hr, hrun, hended, hend⟩ := X90.leaveW hS0 (by rw [e90]; exact hk0) (v := some (.int (nar .boolean (1 : Int32)))) (fun h => by rw [Bd.returns] at h; cases h)
        exact ⟨_, _, retN X90 hx (t := .boolean) Bd.returns (by simp) (hb hby at_154) hr, hrun, hended, _, _, rfl, (by show Q_law Z p0 p1 p2 p3 h0 n0 _ T90.heap _; rw [e90]; exact ⟨rfl, N0, K0⟩), (by show CHr Z EL s.vm s.heap T90.vm T90.heap; rw [e90, hh]; exact C0.trans (CHv.at X90 hZ hEL C0.1)), own_mono hend (by decide) (by decide)⟩
      ·
        refine Goes.step (T' := T87) (g' := (mkF m 100 #[.val (.int p0), .val (.int p1), .val (.int p2), .val (.int p3), .val (.int (0 : Int32)), .val (.int (0 : Int32)), .val (.ref b_79), .val (.ref b_80), .val (.ref b81), .val (.ref b84), .unset] [])) (fun _ k => XS.ifNo X87.here hx rfl (hb hby at_97) rfl ((if0 _ _).trans (feq hc97_88).1) k) ?_
        refine Goes.step (T' := T87) (g' := (mkF m 102 #[.val (.int p0), .val (.int p1), .val (.int p2), .val (.int p3), .val (.int (0 : Int32)), .val (.int (0 : Int32)), .val (.ref b_79), .val (.ref b_80), .val (.ref b81), .val (.ref b84), .unset] [(.int (0 : Int32))])) (fun _ k => XS.iload X87.here hx rfl (hb hby at_100) rfl  k) ?_
        refine Goes.step (T' := T87) (g' := (mkF m 105 #[.val (.int p0), .val (.int p1), .val (.int p2), .val (.int p3), .val (.int (0 : Int32)), .val (.int (0 : Int32)), .val (.ref b_79), .val (.ref b_80), .val (.ref b81), .val (.ref b84), .unset] [])) (fun _ k => XS.ifNo X87.here hx rfl (hb hby at_102) rfl ((if0 _ _).trans (teq (by decide : ((0 : Int32) = (0 : Int32)))).2) k) ?_
        refine Goes.step (T' := T87) (g' := (mkF m 107 #[.val (.int p0), .val (.int p1), .val (.int p2), .val (.int p3), .val (.int (0 : Int32)), .val (.int (0 : Int32)), .val (.ref b_79), .val (.ref b_80), .val (.ref b81), .val (.ref b84), .unset] [(.int (0 : Int32))])) (fun _ k => XS.iload X87.here hx rfl (hb hby at_105) rfl  k) ?_
        refine Goes.step (T' := T87) (g' := (mkF m 110 #[.val (.int p0), .val (.int p1), .val (.int p2), .val (.int p3), .val (.int (0 : Int32)), .val (.int (0 : Int32)), .val (.ref b_79), .val (.ref b_80), .val (.ref b81), .val (.ref b84), .unset] [])) (fun _ k => XS.ifNo X87.here hx rfl (hb hby at_107) rfl ((if0 _ _).trans (teq (by decide : ((0 : Int32) = (0 : Int32)))).2) k) ?_
        refine Goes.step (T' := T87) (g' := (mkF m 111 #[.val (.int p0), .val (.int p1), .val (.int p2), .val (.int p3), .val (.int (0 : Int32)), .val (.int (0 : Int32)), .val (.ref b_79), .val (.ref b_80), .val (.ref b81), .val (.ref b84), .unset] [(.int p2)])) (fun _ k => XS.iloadN X87.here hx rfl (hb hby at_110) rfl  k) ?_
        refine Goes.step (T' := T87) (g' := (mkF m 112 #[.val (.int p0), .val (.int p1), .val (.int p2), .val (.int p3), .val (.int (0 : Int32)), .val (.int (0 : Int32)), .val (.ref b_79), .val (.ref b_80), .val (.ref b81), .val (.ref b84), .unset] [(.int p3), (.int p2)])) (fun _ k => XS.iloadN X87.here hx rfl (hb hby at_111) rfl  k) ?_
        obtain ⟨_, _, ⟨T91, L91, k91, n91⟩, -, X91, ⟨Lc91, hQ91, l91, y91, z91⟩, st91⟩ := Jvm.LawKit.callS X87 hx (y := (⟨"com/example/wardkey/wardkey/policy/CodeOverlapsPinLaw", "same", "(II)Z"⟩ : MethodName)) hown (mvT hZ (hw _ (List.mem_of_getElem? (i := 54) rfl))) (mvT hZ (hw _ (List.mem_of_getElem? (i := 55) rfl))) (mvT hZ (hw _ (List.mem_of_getElem? (i := 2) rfl))) (mvT hZ (hw _ (List.mem_of_getElem? (i := 56) rfl))) (by decide) (backOf (W := 0) (rm_same l Z a0 hw [] p2 p3 h86 n0 O0  ) hZ (hw _ (List.mem_of_getElem? (i := 56) rfl)) (hw _ (List.mem_of_getElem? (i := 2) rfl)) (by decide) (by decide)) (g := (mkF m 112 #[.val (.int p0), .val (.int p1), .val (.int p2), .val (.int p3), .val (.int (0 : Int32)), .val (.int (0 : Int32)), .val (.ref b_79), .val (.ref b_80), .val (.ref b81), .val (.ref b84), .unset] [(.int p3), (.int p2)])) rfl (by rw [hml]; rfl) (argsL := [(.int p2), (.int p3)]) (rest := []) (lenOf pd_10 rfl) rfl (by show 2 * 0 + _ ≤ _; exact Nat.le_of_eq rfl) (hb hby at_112) (fun _ _ => ⟨rfl, e87, (by decide : 30 + 0 ≤ _), (by decide : 92 + 0 ≤ _)⟩)
        dsimp only [Pt.U, Pt.locs, Pt.cells, Pt.slots] at X91 l91 y91 z91 st91 hQ91
        subst l91 y91 z91
        obtain ⟨rfl, rfl, e91⟩ := hQ91
        replace N0 := Fr.app N0 (Fr.nil n0)
        refine Goes.step (T' := T91) (g' := (mkF m 115 #[.val (.int p0), .val (.int p1), .val (.int p2), .val (.int p3), .val (.int (0 : Int32)), .val (.int (0 : Int32)), .val (.ref b_79), .val (.ref b_80), .val (.ref b81), .val (.ref b84), .unset] [(.int (if TX p2 = TX p3 then 1 else 0))])) st91 ?_
        by_cases hc115_92 : (if TX p2 = TX p3 then 1 else 0) = (0 : Int32)
        ·
          refine Goes.step (T' := T91) (g' := (mkF m 122 #[.val (.int p0), .val (.int p1), .val (.int p2), .val (.int p3), .val (.int (0 : Int32)), .val (.int (0 : Int32)), .val (.ref b_79), .val (.ref b_80), .val (.ref b81), .val (.ref b84), .unset] [])) (fun _ k => XS.ifYes X91.here hx rfl (pc0 := 115) (pc' := 122) rfl (hb hby at_115) rfl ((if0 _ _).trans (teq hc115_92).1) (by decide) (by decide) k) ?_
          refine Goes.step (T' := T91) (g' := (mkF m 123 #[.val (.int p0), .val (.int p1), .val (.int p2), .val (.int p3), .val (.int (0 : Int32)), .val (.int (0 : Int32)), .val (.ref b_79), .val (.ref b_80), .val (.ref b81), .val (.ref b84), .unset] [(.int (0 : Int32))])) (fun _ k => XS.iconst X91.here hx rfl (hb hby at_122) k) ?_
          refine Goes.step (T' := T91) (g' := (mkF m 125 #[.val (.int p0), .val (.int p1), .val (.int p2), .val (.int p3), .val (.int (0 : Int32)), .val (.int (0 : Int32)), .val (.ref b_79), .val (.ref b_80), .val (.ref b81), .val (.ref b84), .val (.int (0 : Int32))] [])) (fun _ k => XS.istore X91.here hx rfl (hb hby at_123) rfl (l' := #[.val (.int p0), .val (.int p1), .val (.int p2), .val (.int p3), .val (.int (0 : Int32)), .val (.int (0 : Int32)), .val (.ref b_79), .val (.ref b_80), .val (.ref b81), .val (.ref b84), .val (.int (0 : Int32))]) rfl k) ?_
          refine Goes.step (T' := T91) (g' := (mkF m 127 #[.val (.int p0), .val (.int p1), .val (.int p2), .val (.int p3), .val (.int (0 : Int32)), .val (.int (0 : Int32)), .val (.ref b_79), .val (.ref b_80), .val (.ref b81), .val (.ref b84), .val (.int (0 : Int32))] [(.ref b81)])) (fun _ k => XS.aload X91.here hx rfl (hb hby at_125) rfl rfl k) ?_
          refine Goes.step (T' := T91) (g' := (mkF m 129 #[.val (.int p0), .val (.int p1), .val (.int p2), .val (.int p3), .val (.int (0 : Int32)), .val (.int (0 : Int32)), .val (.ref b_79), .val (.ref b_80), .val (.ref b81), .val (.ref b84), .val (.int (0 : Int32))] [(.ref b84), (.ref b81)])) (fun _ k => XS.aload X91.here hx rfl (hb hby at_127) rfl rfl k) ?_
          obtain ⟨cq93, kq93, qa93, qb93, qc93⟩ := isOf hZ e91 E_b81
          obtain ⟨_, _, ⟨T93, L93, k93, n93⟩, -, X93, ⟨Lc93, hQ93, l93, y93, z93⟩, st93⟩ := X91.virtualBack hx (y := (⟨"com/example/wardkey/wardkey/policy/Code", "overlaps", "(Lcom/example/wardkey/wardkey/policy/Code;)Z"⟩ : MethodName)) (z := (⟨"com/example/wardkey/wardkey/policy/Code", "overlaps", "(Lcom/example/wardkey/wardkey/policy/Code;)Z"⟩ : MethodName)) hown (mvT hZ (hw _ (List.mem_of_getElem? (i := 57) rfl))) (mvT hZ (hw _ (List.mem_of_getElem? (i := 58) rfl))) (notFace_of_selects (args := #[]) (mvT hZ (hw _ (List.mem_of_getElem? (i := 60) rfl)))) (mvT hZ (hw _ (List.mem_of_getElem? (i := 60) rfl))) (mvT hZ (hw _ (List.mem_of_getElem? (i := 59) rfl))) (by decide) (backOf (W := 0) (rm_ovSS l Z a0 hw [] b81 b84 b_82 ((TX p0)) b_85 ((TX p1)) b_79 ((TX p2)) b_80 ((TX p3)) h86 n0 O0 zcs Scs hz_Scs F_b81_code F_b84_code E_b_82 G_b_82 E_b_85 G_b_85 F_b81_system E_b_79 G_b_79 F_b84_system E_b_80 G_b_80 (own_TXlen _) (own_TXlen _) (own_TXlen _) (own_TXlen _)) hZ (hw _ (List.mem_of_getElem? (i := 61) rfl)) (hw _ (List.mem_of_getElem? (i := 35) rfl)) (by decide) (by decide)) qa93 qc93 (g := (mkF m 129 #[.val (.int p0), .val (.int p1), .val (.int p2), .val (.int p3), .val (.int (0 : Int32)), .val (.int (0 : Int32)), .val (.ref b_79), .val (.ref b_80), .val (.ref b81), .val (.ref b84), .val (.int (0 : Int32))] [(.ref b84), (.ref b81)])) rfl (by rw [hml]; rfl) (Steps.refl _) (argsL := [(.ref b84)]) (rest := []) (lenOf pd_11 rfl) rfl (by show 2 * 0 + _ ≤ _; exact Nat.le_of_eq rfl) (hb hby at_129) (fun _ _ => ⟨rfl, e91, (by decide : 30 + 0 ≤ _), (by decide : 92 + 0 ≤ _)⟩)
          dsimp only [Pt.U, Pt.locs, Pt.cells, Pt.slots] at X93 l93 y93 z93 st93 hQ93
          subst l93 y93 z93
          obtain ⟨rfl, rfl, e93⟩ := hQ93
          replace N0 := Fr.app N0 (Fr.nil n0)
          refine Goes.run (T' := T93) (g' := (mkF m 132 #[.val (.int p0), .val (.int p1), .val (.int p2), .val (.int p3), .val (.int (0 : Int32)), .val (.int (0 : Int32)), .val (.ref b_79), .val (.ref b_80), .val (.ref b81), .val (.ref b84), .val (.int (0 : Int32))] [(.int (if (TX p0) = (TX p1) ∧ (TX p2) = (TX p3) then 1 else 0))])) st93 ?_
          refine Goes.step (T' := T93) (g' := (mkF m 134 #[.val (.int p0), .val (.int p1), .val (.int p2), .val (.int p3), .val (.int (0 : Int32)), .val (.int (0 : Int32)), .val (.ref b_79), .val (.ref b_80), .val (.ref b81), .val (.ref b84), .val (.int (0 : Int32))] [(.int (0 : Int32)), (.int (if (TX p0) = (TX p1) ∧ (TX p2) = (TX p3) then 1 else 0))])) (fun _ k => XS.iload X93.here hx rfl (hb hby at_132) rfl  k) ?_
          refine Goes.step (T' := T93) (g' := (mkF m 137 #[.val (.int p0), .val (.int p1), .val (.int p2), .val (.int p3), .val (.int (0 : Int32)), .val (.int (0 : Int32)), .val (.ref b_79), .val (.ref b_80), .val (.ref b81), .val (.ref b84), .val (.int (0 : Int32))] [])) (fun _ k => XS.icmpNo X93.here hx rfl (hb hby at_134) rfl (teq (if_neg fun q => (own_if0 hc115_92) q.2)).2 k) ?_
          refine Goes.step (T' := T93) (g' := (mkF m 139 #[.val (.int p0), .val (.int p1), .val (.int p2), .val (.int p3), .val (.int (0 : Int32)), .val (.int (0 : Int32)), .val (.ref b_79), .val (.ref b_80), .val (.ref b81), .val (.ref b84), .val (.int (0 : Int32))] [(.ref b84)])) (fun _ k => XS.aload X93.here hx rfl (hb hby at_137) rfl rfl k) ?_
          refine Goes.step (T' := T93) (g' := (mkF m 141 #[.val (.int p0), .val (.int p1), .val (.int p2), .val (.int p3), .val (.int (0 : Int32)), .val (.int (0 : Int32)), .val (.ref b_79), .val (.ref b_80), .val (.ref b81), .val (.ref b84), .val (.int (0 : Int32))] [(.ref b81), (.ref b84)])) (fun _ k => XS.aload X93.here hx rfl (hb hby at_139) rfl rfl k) ?_
          obtain ⟨cq94, kq94, qa94, qb94, qc94⟩ := isOf hZ e93 E_b84
          obtain ⟨_, _, ⟨T94, L94, k94, n94⟩, -, X94, ⟨Lc94, hQ94, l94, y94, z94⟩, st94⟩ := X93.virtualBack hx (y := (⟨"com/example/wardkey/wardkey/policy/Code", "overlaps", "(Lcom/example/wardkey/wardkey/policy/Code;)Z"⟩ : MethodName)) (z := (⟨"com/example/wardkey/wardkey/policy/Code", "overlaps", "(Lcom/example/wardkey/wardkey/policy/Code;)Z"⟩ : MethodName)) hown (mvT hZ (hw _ (List.mem_of_getElem? (i := 57) rfl))) (mvT hZ (hw _ (List.mem_of_getElem? (i := 58) rfl))) (notFace_of_selects (args := #[]) (mvT hZ (hw _ (List.mem_of_getElem? (i := 60) rfl)))) (mvT hZ (hw _ (List.mem_of_getElem? (i := 60) rfl))) (mvT hZ (hw _ (List.mem_of_getElem? (i := 59) rfl))) (by decide) (backOf (W := 0) (rm_ovSS l Z a0 hw [] b84 b81 b_85 ((TX p1)) b_82 ((TX p0)) b_80 ((TX p3)) b_79 ((TX p2)) h86 n0 O0 zcs Scs hz_Scs F_b84_code F_b81_code E_b_85 G_b_85 E_b_82 G_b_82 F_b84_system E_b_80 G_b_80 F_b81_system E_b_79 G_b_79 (own_TXlen _) (own_TXlen _) (own_TXlen _) (own_TXlen _)) hZ (hw _ (List.mem_of_getElem? (i := 61) rfl)) (hw _ (List.mem_of_getElem? (i := 35) rfl)) (by decide) (by decide)) qa94 qc94 (g := (mkF m 141 #[.val (.int p0), .val (.int p1), .val (.int p2), .val (.int p3), .val (.int (0 : Int32)), .val (.int (0 : Int32)), .val (.ref b_79), .val (.ref b_80), .val (.ref b81), .val (.ref b84), .val (.int (0 : Int32))] [(.ref b81), (.ref b84)])) rfl (by rw [hml]; rfl) (Steps.refl _) (argsL := [(.ref b81)]) (rest := []) (lenOf pd_11 rfl) rfl (by show 2 * 0 + _ ≤ _; exact Nat.le_of_eq rfl) (hb hby at_141) (fun _ _ => ⟨rfl, e93, (by decide : 30 + 0 ≤ _), (by decide : 92 + 0 ≤ _)⟩)
          dsimp only [Pt.U, Pt.locs, Pt.cells, Pt.slots] at X94 l94 y94 z94 st94 hQ94
          subst l94 y94 z94
          obtain ⟨rfl, rfl, e94⟩ := hQ94
          replace N0 := Fr.app N0 (Fr.nil n0)
          refine Goes.run (T' := T94) (g' := (mkF m 144 #[.val (.int p0), .val (.int p1), .val (.int p2), .val (.int p3), .val (.int (0 : Int32)), .val (.int (0 : Int32)), .val (.ref b_79), .val (.ref b_80), .val (.ref b81), .val (.ref b84), .val (.int (0 : Int32))] [(.int (if (TX p1) = (TX p0) ∧ (TX p3) = (TX p2) then 1 else 0))])) st94 ?_
          refine Goes.step (T' := T94) (g' := (mkF m 146 #[.val (.int p0), .val (.int p1), .val (.int p2), .val (.int p3), .val (.int (0 : Int32)), .val (.int (0 : Int32)), .val (.ref b_79), .val (.ref b_80), .val (.ref b81), .val (.ref b84), .val (.int (0 : Int32))] [(.int (0 : Int32)), (.int (if (TX p1) = (TX p0) ∧ (TX p3) = (TX p2) then 1 else 0))])) (fun _ k => XS.iload X94.here hx rfl (hb hby at_144) rfl  k) ?_
          refine Goes.step (T' := T94) (g' := (mkF m 149 #[.val (.int p0), .val (.int p1), .val (.int p2), .val (.int p3), .val (.int (0 : Int32)), .val (.int (0 : Int32)), .val (.ref b_79), .val (.ref b_80), .val (.ref b81), .val (.ref b84), .val (.int (0 : Int32))] [])) (fun _ k => XS.icmpNo X94.here hx rfl (hb hby at_146) rfl (teq (if_neg fun q => (own_if0 hc115_92) q.2.symm)).2 k) ?_
          refine Goes.step (T' := T94) (g' := (mkF m 150 #[.val (.int p0), .val (.int p1), .val (.int p2), .val (.int p3), .val (.int (0 : Int32)), .val (.int (0 : Int32)), .val (.ref b_79), .val (.ref b_80), .val (.ref b81), .val (.ref b84), .val (.int (0 : Int32))] [(.int (1 : Int32))])) (fun _ k => XS.iconst X94.here hx rfl (hb hby at_149) k) ?_
          refine Goes.step (T' := T94) (g' := (mkF m 154 #[.val (.int p0), .val (.int p1), .val (.int p2), .val (.int p3), .val (.int (0 : Int32)), .val (.int (0 : Int32)), .val (.ref b_79), .val (.ref b_80), .val (.ref b81), .val (.ref b84), .val (.int (0 : Int32))] [(.int (1 : Int32))])) (fun _ k => XS.goto X94.here hx rfl (pc0 := 150) (pc' := 154) rfl (hb hby at_150) (by decide) (by decide) k) ?_
          obtain ⟨fs, hr, hrun, hended, hend⟩ := X94.leaveW hS0 (by rw [e94]; exact hk0) (v := some (.int (nar .boolean (1 : Int32)))) (fun h => by rw [Bd.returns] at h; cases h)
          exact ⟨_, _, retN X94 hx (t := .boolean) Bd.returns (by simp) (hb hby at_154) hr, hrun, hended, _, _, rfl, (by show Q_law Z p0 p1 p2 p3 h0 n0 _ T94.heap _; rw [e94]; exact ⟨rfl, N0, K0⟩), (by show CHr Z EL s.vm s.heap T94.vm T94.heap; rw [e94, hh]; exact C0.trans (CHv.at X94 hZ hEL C0.1)), own_mono hend (by decide) (by decide)⟩
        ·
          refine Goes.step (T' := T91) (g' := (mkF m 118 #[.val (.int p0), .val (.int p1), .val (.int p2), .val (.int p3), .val (.int (0 : Int32)), .val (.int (0 : Int32)), .val (.ref b_79), .val (.ref b_80), .val (.ref b81), .val (.ref b84), .unset] [])) (fun _ k => XS.ifNo X91.here hx rfl (hb hby at_115) rfl ((if0 _ _).trans (feq hc115_92).1) k) ?_
          refine Goes.step (T' := T91) (g' := (mkF m 119 #[.val (.int p0), .val (.int p1), .val (.int p2), .val (.int p3), .val (.int (0 : Int32)), .val (.int (0 : Int32)), .val (.ref b_79), .val (.ref b_80), .val (.ref b81), .val (.ref b84), .unset] [(.int (1 : Int32))])) (fun _ k => XS.iconst X91.here hx rfl (hb hby at_118) k) ?_
          refine Goes.step (T' := T91) (g' := (mkF m 123 #[.val (.int p0), .val (.int p1), .val (.int p2), .val (.int p3), .val (.int (0 : Int32)), .val (.int (0 : Int32)), .val (.ref b_79), .val (.ref b_80), .val (.ref b81), .val (.ref b84), .unset] [(.int (1 : Int32))])) (fun _ k => XS.goto X91.here hx rfl (pc0 := 119) (pc' := 123) rfl (hb hby at_119) (by decide) (by decide) k) ?_
          refine Goes.step (T' := T91) (g' := (mkF m 125 #[.val (.int p0), .val (.int p1), .val (.int p2), .val (.int p3), .val (.int (0 : Int32)), .val (.int (0 : Int32)), .val (.ref b_79), .val (.ref b_80), .val (.ref b81), .val (.ref b84), .val (.int (1 : Int32))] [])) (fun _ k => XS.istore X91.here hx rfl (hb hby at_123) rfl (l' := #[.val (.int p0), .val (.int p1), .val (.int p2), .val (.int p3), .val (.int (0 : Int32)), .val (.int (0 : Int32)), .val (.ref b_79), .val (.ref b_80), .val (.ref b81), .val (.ref b84), .val (.int (1 : Int32))]) rfl k) ?_
          refine Goes.step (T' := T91) (g' := (mkF m 127 #[.val (.int p0), .val (.int p1), .val (.int p2), .val (.int p3), .val (.int (0 : Int32)), .val (.int (0 : Int32)), .val (.ref b_79), .val (.ref b_80), .val (.ref b81), .val (.ref b84), .val (.int (1 : Int32))] [(.ref b81)])) (fun _ k => XS.aload X91.here hx rfl (hb hby at_125) rfl rfl k) ?_
          refine Goes.step (T' := T91) (g' := (mkF m 129 #[.val (.int p0), .val (.int p1), .val (.int p2), .val (.int p3), .val (.int (0 : Int32)), .val (.int (0 : Int32)), .val (.ref b_79), .val (.ref b_80), .val (.ref b81), .val (.ref b84), .val (.int (1 : Int32))] [(.ref b84), (.ref b81)])) (fun _ k => XS.aload X91.here hx rfl (hb hby at_127) rfl rfl k) ?_
          obtain ⟨cq95, kq95, qa95, qb95, qc95⟩ := isOf hZ e91 E_b81
          obtain ⟨_, _, ⟨T95, L95, k95, n95⟩, -, X95, ⟨Lc95, hQ95, l95, y95, z95⟩, st95⟩ := X91.virtualBack hx (y := (⟨"com/example/wardkey/wardkey/policy/Code", "overlaps", "(Lcom/example/wardkey/wardkey/policy/Code;)Z"⟩ : MethodName)) (z := (⟨"com/example/wardkey/wardkey/policy/Code", "overlaps", "(Lcom/example/wardkey/wardkey/policy/Code;)Z"⟩ : MethodName)) hown (mvT hZ (hw _ (List.mem_of_getElem? (i := 57) rfl))) (mvT hZ (hw _ (List.mem_of_getElem? (i := 58) rfl))) (notFace_of_selects (args := #[]) (mvT hZ (hw _ (List.mem_of_getElem? (i := 60) rfl)))) (mvT hZ (hw _ (List.mem_of_getElem? (i := 60) rfl))) (mvT hZ (hw _ (List.mem_of_getElem? (i := 59) rfl))) (by decide) (backOf (W := 0) (rm_ovSS l Z a0 hw [] b81 b84 b_82 ((TX p0)) b_85 ((TX p1)) b_79 ((TX p2)) b_80 ((TX p3)) h86 n0 O0 zcs Scs hz_Scs F_b81_code F_b84_code E_b_82 G_b_82 E_b_85 G_b_85 F_b81_system E_b_79 G_b_79 F_b84_system E_b_80 G_b_80 (own_TXlen _) (own_TXlen _) (own_TXlen _) (own_TXlen _)) hZ (hw _ (List.mem_of_getElem? (i := 61) rfl)) (hw _ (List.mem_of_getElem? (i := 35) rfl)) (by decide) (by decide)) qa95 qc95 (g := (mkF m 129 #[.val (.int p0), .val (.int p1), .val (.int p2), .val (.int p3), .val (.int (0 : Int32)), .val (.int (0 : Int32)), .val (.ref b_79), .val (.ref b_80), .val (.ref b81), .val (.ref b84), .val (.int (1 : Int32))] [(.ref b84), (.ref b81)])) rfl (by rw [hml]; rfl) (Steps.refl _) (argsL := [(.ref b84)]) (rest := []) (lenOf pd_11 rfl) rfl (by show 2 * 0 + _ ≤ _; exact Nat.le_of_eq rfl) (hb hby at_129) (fun _ _ => ⟨rfl, e91, (by decide : 30 + 0 ≤ _), (by decide : 92 + 0 ≤ _)⟩)
          dsimp only [Pt.U, Pt.locs, Pt.cells, Pt.slots] at X95 l95 y95 z95 st95 hQ95
          subst l95 y95 z95
          obtain ⟨rfl, rfl, e95⟩ := hQ95
          replace N0 := Fr.app N0 (Fr.nil n0)
          refine Goes.run (T' := T95) (g' := (mkF m 132 #[.val (.int p0), .val (.int p1), .val (.int p2), .val (.int p3), .val (.int (0 : Int32)), .val (.int (0 : Int32)), .val (.ref b_79), .val (.ref b_80), .val (.ref b81), .val (.ref b84), .val (.int (1 : Int32))] [(.int (if (TX p0) = (TX p1) ∧ (TX p2) = (TX p3) then 1 else 0))])) st95 ?_
          refine Goes.step (T' := T95) (g' := (mkF m 134 #[.val (.int p0), .val (.int p1), .val (.int p2), .val (.int p3), .val (.int (0 : Int32)), .val (.int (0 : Int32)), .val (.ref b_79), .val (.ref b_80), .val (.ref b81), .val (.ref b84), .val (.int (1 : Int32))] [(.int (1 : Int32)), (.int (if (TX p0) = (TX p1) ∧ (TX p2) = (TX p3) then 1 else 0))])) (fun _ k => XS.iload X95.here hx rfl (hb hby at_132) rfl  k) ?_
          refine Goes.step (T' := T95) (g' := (mkF m 137 #[.val (.int p0), .val (.int p1), .val (.int p2), .val (.int p3), .val (.int (0 : Int32)), .val (.int (0 : Int32)), .val (.ref b_79), .val (.ref b_80), .val (.ref b81), .val (.ref b84), .val (.int (1 : Int32))] [])) (fun _ k => XS.icmpNo X95.here hx rfl (hb hby at_134) rfl (teq (if_pos ⟨(own_if1 hc97_88), (own_if1 hc115_92)⟩)).2 k) ?_
          refine Goes.step (T' := T95) (g' := (mkF m 139 #[.val (.int p0), .val (.int p1), .val (.int p2), .val (.int p3), .val (.int (0 : Int32)), .val (.int (0 : Int32)), .val (.ref b_79), .val (.ref b_80), .val (.ref b81), .val (.ref b84), .val (.int (1 : Int32))] [(.ref b84)])) (fun _ k => XS.aload X95.here hx rfl (hb hby at_137) rfl rfl k) ?_
          refine Goes.step (T' := T95) (g' := (mkF m 141 #[.val (.int p0), .val (.int p1), .val (.int p2), .val (.int p3), .val (.int (0 : Int32)), .val (.int (0 : Int32)), .val (.ref b_79), .val (.ref b_80), .val (.ref b81), .val (.ref b84), .val (.int (1 : Int32))] [(.ref b81), (.ref b84)])) (fun _ k => XS.aload X95.here hx rfl (hb hby at_139) rfl rfl k) ?_
          obtain ⟨cq96, kq96, qa96, qb96, qc96⟩ := isOf hZ e95 E_b84
          obtain ⟨_, _, ⟨T96, L96, k96, n96⟩, -, X96, ⟨Lc96, hQ96, l96, y96, z96⟩, st96⟩ := X95.virtualBack hx (y := (⟨"com/example/wardkey/wardkey/policy/Code", "overlaps", "(Lcom/example/wardkey/wardkey/policy/Code;)Z"⟩ : MethodName)) (z := (⟨"com/example/wardkey/wardkey/policy/Code", "overlaps", "(Lcom/example/wardkey/wardkey/policy/Code;)Z"⟩ : MethodName)) hown (mvT hZ (hw _ (List.mem_of_getElem? (i := 57) rfl))) (mvT hZ (hw _ (List.mem_of_getElem? (i := 58) rfl))) (notFace_of_selects (args := #[]) (mvT hZ (hw _ (List.mem_of_getElem? (i := 60) rfl)))) (mvT hZ (hw _ (List.mem_of_getElem? (i := 60) rfl))) (mvT hZ (hw _ (List.mem_of_getElem? (i := 59) rfl))) (by decide) (backOf (W := 0) (rm_ovSS l Z a0 hw [] b84 b81 b_85 ((TX p1)) b_82 ((TX p0)) b_80 ((TX p3)) b_79 ((TX p2)) h86 n0 O0 zcs Scs hz_Scs F_b84_code F_b81_code E_b_85 G_b_85 E_b_82 G_b_82 F_b84_system E_b_80 G_b_80 F_b81_system E_b_79 G_b_79 (own_TXlen _) (own_TXlen _) (own_TXlen _) (own_TXlen _)) hZ (hw _ (List.mem_of_getElem? (i := 61) rfl)) (hw _ (List.mem_of_getElem? (i := 35) rfl)) (by decide) (by decide)) qa96 qc96 (g := (mkF m 141 #[.val (.int p0), .val (.int p1), .val (.int p2), .val (.int p3), .val (.int (0 : Int32)), .val (.int (0 : Int32)), .val (.ref b_79), .val (.ref b_80), .val (.ref b81), .val (.ref b84), .val (.int (1 : Int32))] [(.ref b81), (.ref b84)])) rfl (by rw [hml]; rfl) (Steps.refl _) (argsL := [(.ref b81)]) (rest := []) (lenOf pd_11 rfl) rfl (by show 2 * 0 + _ ≤ _; exact Nat.le_of_eq rfl) (hb hby at_141) (fun _ _ => ⟨rfl, e95, (by decide : 30 + 0 ≤ _), (by decide : 92 + 0 ≤ _)⟩)
          dsimp only [Pt.U, Pt.locs, Pt.cells, Pt.slots] at X96 l96 y96 z96 st96 hQ96
          subst l96 y96 z96
          obtain ⟨rfl, rfl, e96⟩ := hQ96
          replace N0 := Fr.app N0 (Fr.nil n0)
          refine Goes.run (T' := T96) (g' := (mkF m 144 #[.val (.int p0), .val (.int p1), .val (.int p2), .val (.int p3), .val (.int (0 : Int32)), .val (.int (0 : Int32)), .val (.ref b_79), .val (.ref b_80), .val (.ref b81), .val (.ref b84), .val (.int (1 : Int32))] [(.int (if (TX p1) = (TX p0) ∧ (TX p3) = (TX p2) then 1 else 0))])) st96 ?_
          refine Goes.step (T' := T96) (g' := (mkF m 146 #[.val (.int p0), .val (.int p1), .val (.int p2), .val (.int p3), .val (.int (0 : Int32)), .val (.int (0 : Int32)), .val (.ref b_79), .val (.ref b_80), .val (.ref b81), .val (.ref b84), .val (.int (1 : Int32))] [(.int (1 : Int32)), (.int (if (TX p1) = (TX p0) ∧ (TX p3) = (TX p2) then 1 else 0))])) (fun _ k => XS.iload X96.here hx rfl (hb hby at_144) rfl  k) ?_
          refine Goes.step (T' := T96) (g' := (mkF m 149 #[.val (.int p0), .val (.int p1), .val (.int p2), .val (.int p3), .val (.int (0 : Int32)), .val (.int (0 : Int32)), .val (.ref b_79), .val (.ref b_80), .val (.ref b81), .val (.ref b84), .val (.int (1 : Int32))] [])) (fun _ k => XS.icmpNo X96.here hx rfl (hb hby at_146) rfl (teq (if_pos ⟨(own_if1 hc97_88).symm, (own_if1 hc115_92).symm⟩)).2 k) ?_
          refine Goes.step (T' := T96) (g' := (mkF m 150 #[.val (.int p0), .val (.int p1), .val (.int p2), .val (.int p3), .val (.int (0 : Int32)), .val (.int (0 : Int32)), .val (.ref b_79), .val (.ref b_80), .val (.ref b81), .val (.ref b84), .val (.int (1 : Int32))] [(.int (1 : Int32))])) (fun _ k => XS.iconst X96.here hx rfl (hb hby at_149) k) ?_
          refine Goes.step (T' := T96) (g' := (mkF m 154 #[.val (.int p0), .val (.int p1), .val (.int p2), .val (.int p3), .val (.int (0 : Int32)), .val (.int (0 : Int32)), .val (.ref b_79), .val (.ref b_80), .val (.ref b81), .val (.ref b84), .val (.int (1 : Int32))] [(.int (1 : Int32))])) (fun _ k => XS.goto X96.here hx rfl (pc0 := 150) (pc' := 154) rfl (hb hby at_150) (by decide) (by decide) k) ?_
          obtain ⟨fs, hr, hrun, hended, hend⟩ := X96.leaveW hS0 (by rw [e96]; exact hk0) (v := some (.int (nar .boolean (1 : Int32)))) (fun h => by rw [Bd.returns] at h; cases h)
          exact ⟨_, _, retN X96 hx (t := .boolean) Bd.returns (by simp) (hb hby at_154) hr, hrun, hended, _, _, rfl, (by show Q_law Z p0 p1 p2 p3 h0 n0 _ T96.heap _; rw [e96]; exact ⟨rfl, N0, K0⟩), (by show CHr Z EL s.vm s.heap T96.vm T96.heap; rw [e96, hh]; exact C0.trans (CHv.at X96 hZ hEL C0.1)), own_mono hend (by decide) (by decide)⟩
    ·
      refine Goes.step (T' := s₁) (g' := (mkF m 25 #[.val (.int p0), .val (.int p1), .val (.int p2), .val (.int p3), .val (.int (0 : Int32)), .unset, .unset, .unset, .unset, .unset, .unset] [])) (fun _ k => XS.ifNo X0.here hx rfl (hb hby at_22) rfl ((if0 _ _).trans (feq hc22_78).1) k) ?_
      refine Goes.step (T' := s₁) (g' := (mkF m 26 #[.val (.int p0), .val (.int p1), .val (.int p2), .val (.int p3), .val (.int (0 : Int32)), .unset, .unset, .unset, .unset, .unset, .unset] [(.int (1 : Int32))])) (fun _ k => XS.iconst X0.here hx rfl (hb hby at_25) k) ?_
      refine Goes.step (T' := s₁) (g' := (mkF m 30 #[.val (.int p0), .val (.int p1), .val (.int p2), .val (.int p3), .val (.int (0 : Int32)), .unset, .unset, .unset, .unset, .unset, .unset] [(.int (1 : Int32))])) (fun _ k => XS.goto X0.here hx rfl (pc0 := 26) (pc' := 30) rfl (hb hby at_26) (by decide) (by decide) k) ?_
      refine Goes.step (T' := s₁) (g' := (mkF m 32 #[.val (.int p0), .val (.int p1), .val (.int p2), .val (.int p3), .val (.int (0 : Int32)), .val (.int (1 : Int32)), .unset, .unset, .unset, .unset, .unset] [])) (fun _ k => XS.istore X0.here hx rfl (hb hby at_30) rfl (l' := #[.val (.int p0), .val (.int p1), .val (.int p2), .val (.int p3), .val (.int (0 : Int32)), .val (.int (1 : Int32)), .unset, .unset, .unset, .unset, .unset]) rfl k) ?_
      refine Goes.step (T' := s₁) (g' := (mkF m 34 #[.val (.int p0), .val (.int p1), .val (.int p2), .val (.int p3), .val (.int (0 : Int32)), .val (.int (1 : Int32)), .unset, .unset, .unset, .unset, .unset] [(.int (0 : Int32))])) (fun _ k => XS.iload X0.here hx rfl (hb hby at_32) rfl  k) ?_
      refine Goes.step (T' := s₁) (g' := (mkF m 41 #[.val (.int p0), .val (.int p1), .val (.int p2), .val (.int p3), .val (.int (0 : Int32)), .val (.int (1 : Int32)), .unset, .unset, .unset, .unset, .unset] [])) (fun _ k => XS.ifYes X0.here hx rfl (pc0 := 34) (pc' := 41) rfl (hb hby at_34) rfl ((if0 _ _).trans (teq (by decide : ((0 : Int32) = (0 : Int32)))).1) (by decide) (by decide) k) ?_
      refine Goes.step (T' := s₁) (g' := (mkF m 42 #[.val (.int p0), .val (.int p1), .val (.int p2), .val (.int p3), .val (.int (0 : Int32)), .val (.int (1 : Int32)), .unset, .unset, .unset, .unset, .unset] [(.int p2)])) (fun _ k => XS.iloadN X0.here hx rfl (hb hby at_41) rfl  k) ?_
      obtain ⟨_, _, ⟨T97, L97, k97, n97⟩, -, X97, hS97, hgr97, ⟨Lc97, hQ97, l97, y97, z97, Ch97⟩, st97⟩ := callSS X0 hx (y := (⟨"com/example/wardkey/wardkey/policy/CodeOverlapsPinLaw", "text", "(I)Ljava/lang/String;"⟩ : MethodName)) hown (mvT hZ (hw _ (List.mem_of_getElem? (i := 0) rfl))) (mvT hZ (hw _ (List.mem_of_getElem? (i := 1) rfl))) (mvT hZ (hw _ (List.mem_of_getElem? (i := 2) rfl))) (mvT hZ (hw _ (List.mem_of_getElem? (i := 3) rfl))) (by decide) (backOfSH (W := 0) (rm_text l Z a0 hw [] hEL p2 h0 n0 O0 zcs Scs hz_Scs ) hZ (hw _ (List.mem_of_getElem? (i := 3) rfl)) (hw _ (List.mem_of_getElem? (i := 2) rfl)) (by decide) (by decide) hEL C0.1) (g := (mkF m 42 #[.val (.int p0), .val (.int p1), .val (.int p2), .val (.int p3), .val (.int (0 : Int32)), .val (.int (1 : Int32)), .unset, .unset, .unset, .unset, .unset] [(.int p2)])) rfl (by rw [hml]; rfl) (argsL := [(.int p2)]) (rest := []) (lenOf pd_8 rfl) rfl (by show 2 * 0 + _ ≤ _; exact Nat.le_of_eq rfl) (hb hby at_42) (fun _ _ => ⟨rfl, e0, (by decide : 0 + 6 ≤ _), (by decide : 0 + 12 ≤ _)⟩)
      dsimp only [Pt.U, Pt.locs, Pt.cells, Pt.slots] at X97 l97 y97 z97 st97 hQ97 hS97 hgr97 Ch97
      subst l97 y97 z97
      obtain ⟨h97, e97⟩ : ∃ z, T97.heap = z := ⟨_, rfl⟩
      rw [e97] at hQ97 Ch97
      obtain ⟨b_97, rfl, Nq97, Kq97, fr97_b_97, E_b_97_q97, G_b_97_q97⟩ := hQ97
      replace N0 := Fr.app N0 Nq97
      have g_b_97 : n0 ≤ b_97 := Nat.le_trans (own_n0 O0) fr97_b_97
      have sz_b_97 : h0.size ≤ b_97 := Nat.le_trans K0.1 fr97_b_97
      replace C0 := C0.trans Ch97
      replace O0 := O0.keep Kq97 all0
      replace K0 := K0.trans Kq97 all0
      have E_b_97 := E_b_97_q97
      have G_b_97 := G_b_97_q97
      obtain ⟨X97, hS97, hZ97, hown97⟩ := rebS hS0 (by rw [e0]; exact hk0) X97 hS97 hgr97 hZ hown
      rw [e97] at hS97
      clear hS0 hk0 hZ hown
      have hS0 := hS97
      have hk0 : h97.size ≤ h97.size := Nat.le_refl _
      have hZ := hZ97
      have hown := hown97
      refine Goes.run (T' := T97) (g' := (mkF m 45 #[.val (.int p0), .val (.int p1), .val (.int p2), .val (.int p3), .val (.int (0 : Int32)), .val (.int (1 : Int32)), .unset, .unset, .unset, .unset, .unset] [(.ref b_97)])) st97 ?_
      refine Goes.step (T' := T97) (g' := (mkF m 47 #[.val (.int p0), .val (.int p1), .val (.int p2), .val (.int p3), .val (.int (0 : Int32)), .val (.int (1 : Int32)), .val (.ref b_97), .unset, .unset, .unset, .unset] [])) (fun _ k => XS.astore X97.here hx rfl (hb hby at_45) rfl rfl (l' := #[.val (.int p0), .val (.int p1), .val (.int p2), .val (.int p3), .val (.int (0 : Int32)), .val (.int (1 : Int32)), .val (.ref b_97), .unset, .unset, .unset, .unset]) rfl k) ?_
      refine Goes.step (T' := T97) (g' := (mkF m 49 #[.val (.int p0), .val (.int p1), .val (.int p2), .val (.int p3), .val (.int (0 : Int32)), .val (.int (1 : Int32)), .val (.ref b_97), .unset, .unset, .unset, .unset] [(.int (1 : Int32))])) (fun _ k => XS.iload X97.here hx rfl (hb hby at_47) rfl  k) ?_
      refine Goes.step (T' := T97) (g' := (mkF m 52 #[.val (.int p0), .val (.int p1), .val (.int p2), .val (.int p3), .val (.int (0 : Int32)), .val (.int (1 : Int32)), .val (.ref b_97), .unset, .unset, .unset, .unset] [])) (fun _ k => XS.ifNo X97.here hx rfl (hb hby at_49) rfl ((if0 _ _).trans (feq (by decide : ¬ ((1 : Int32) = (0 : Int32)))).1) k) ?_
      refine Goes.step (T' := T97) (g' := (mkF m 53 #[.val (.int p0), .val (.int p1), .val (.int p2), .val (.int p3), .val (.int (0 : Int32)), .val (.int (1 : Int32)), .val (.ref b_97), .unset, .unset, .unset, .unset] [.null])) (fun _ k => XS.aconstNull X97.here hx rfl (hb hby at_52) k) ?_
      refine Goes.step (T' := T97) (g' := (mkF m 60 #[.val (.int p0), .val (.int p1), .val (.int p2), .val (.int p3), .val (.int (0 : Int32)), .val (.int (1 : Int32)), .val (.ref b_97), .unset, .unset, .unset, .unset] [.null])) (fun _ k => XS.goto X97.here hx rfl (pc0 := 53) (pc' := 60) rfl (hb hby at_53) (by decide) (by decide) k) ?_
      refine Goes.step (T' := T97) (g' := (mkF m 62 #[.val (.int p0), .val (.int p1), .val (.int p2), .val (.int p3), .val (.int (0 : Int32)), .val (.int (1 : Int32)), .val (.ref b_97), .val .null, .unset, .unset, .unset] [])) (fun _ k => XS.astore X97.here hx rfl (hb hby at_60) rfl rfl (l' := #[.val (.int p0), .val (.int p1), .val (.int p2), .val (.int p3), .val (.int (0 : Int32)), .val (.int (1 : Int32)), .val (.ref b_97), .val .null, .unset, .unset, .unset]) rfl k) ?_
      obtain ⟨T98, h98, X98, e98, Ex98, A98, D98, -, st98⟩ := newO X97 hx hZ hown (hw _ (List.mem_of_getElem? (i := 33) rfl)) (hw _ (List.mem_of_getElem? (i := 34) rfl)) (hw _ (List.mem_of_getElem? (i := 35) rfl)) e97 (g := (mkF m 62 #[.val (.int p0), .val (.int p1), .val (.int p2), .val (.int p3), .val (.int (0 : Int32)), .val (.int (1 : Int32)), .val (.ref b_97), .val .null, .unset, .unset, .unset] [])) rfl (hb hby at_62) (by decide) (by decide)
      obtain ⟨b98, gg98⟩ : ∃ z, z = h97.size := ⟨_, rfl⟩
      rw [← gg98] at A98 D98 st98
      have g_b98 : n0 ≤ b98 := Nat.le_trans (own_n0 O0) (Nat.le_of_eq gg98.symm)
      have sz_b98 : h0.size ≤ b98 := Nat.le_trans K0.1 (Nat.le_of_eq gg98.symm)
      have ne_b_97_b98 : b_97 ≠ b98 := Nat.ne_of_lt (Nat.lt_of_lt_of_le E_b_97.lt (Nat.le_of_eq gg98.symm))
      have S_b98 := (Safe.new (Z := Z) (EL := EL) (vm := T97.vm) (Nat.le_of_eq gg98.symm)).ext Ex98 C0.1
      replace E_b_97 := E_b_97.ext Ex98
      replace G_b_97 := G_b_97.ext Ex98
      replace O0 := O0.ext Ex98
      replace K0 := K0.ext Ex98
      replace C0 := C0.trans (CHr.ext Ex98 C0.1)
      replace hk0 := Nat.le_trans hk0 Ex98.1
      have E_b98 := A98
      have F_b98_system : Fld Z h98 b98 "com/example/wardkey/wardkey/policy/Code" "system" "Ljava/lang/String;" .null := D98 (Or.inr (hw _ (List.mem_of_getElem? (i := 51) rfl))) (ty := (.object "java/lang/String")) (by decide)
      have F_b98_code : Fld Z h98 b98 "com/example/wardkey/wardkey/policy/Code" "code" "Ljava/lang/String;" .null := D98 (Or.inr (hw _ (List.mem_of_getElem? (i := 53) rfl))) (ty := (.object "java/lang/String")) (by decide)
      refine Goes.step (T' := T98) (g' := (mkF m 65 #[.val (.int p0), .val (.int p1), .val (.int p2), .val (.int p3), .val (.int (0 : Int32)), .val (.int (1 : Int32)), .val (.ref b_97), .val .null, .unset, .unset, .unset] [(.ref b98)])) st98 ?_
      clear D98 A98
      refine Goes.step (T' := T98) (g' := (mkF m 66 #[.val (.int p0), .val (.int p1), .val (.int p2), .val (.int p3), .val (.int (0 : Int32)), .val (.int (1 : Int32)), .val (.ref b_97), .val .null, .unset, .unset, .unset] [(.ref b98), (.ref b98)])) (fun _ k => XS.dup X98.here hx rfl (hb hby at_65) rfl rfl k) ?_
      refine Goes.step (T' := T98) (g' := (mkF m 68 #[.val (.int p0), .val (.int p1), .val (.int p2), .val (.int p3), .val (.int (0 : Int32)), .val (.int (1 : Int32)), .val (.ref b_97), .val .null, .unset, .unset, .unset] [(.ref b_97), (.ref b98), (.ref b98)])) (fun _ k => XS.aload X98.here hx rfl (hb hby at_66) rfl rfl k) ?_
      refine Goes.step (T' := T98) (g' := (mkF m 69 #[.val (.int p0), .val (.int p1), .val (.int p2), .val (.int p3), .val (.int (0 : Int32)), .val (.int (1 : Int32)), .val (.ref b_97), .val .null, .unset, .unset, .unset] [(.int p0), (.ref b_97), (.ref b98), (.ref b98)])) (fun _ k => XS.iloadN X98.here hx rfl (hb hby at_68) rfl  k) ?_
      obtain ⟨_, _, ⟨T99, L99, k99, n99⟩, -, X99, hS99, hgr99, ⟨Lc99, hQ99, l99, y99, z99, Ch99⟩, st99⟩ := callSS X98 hx (y := (⟨"com/example/wardkey/wardkey/policy/CodeOverlapsPinLaw", "text", "(I)Ljava/lang/String;"⟩ : MethodName)) hown (mvT hZ (hw _ (List.mem_of_getElem? (i := 0) rfl))) (mvT hZ (hw _ (List.mem_of_getElem? (i := 1) rfl))) (mvT hZ (hw _ (List.mem_of_getElem? (i := 2) rfl))) (mvT hZ (hw _ (List.mem_of_getElem? (i := 3) rfl))) (by decide) (backOfSH (W := 3) (rm_text l Z a0 hw [] hEL p0 h98 n0 O0 zcs Scs hz_Scs ) hZ (hw _ (List.mem_of_getElem? (i := 3) rfl)) (hw _ (List.mem_of_getElem? (i := 2) rfl)) (by decide) (by decide) hEL C0.1) (g := (mkF m 69 #[.val (.int p0), .val (.int p1), .val (.int p2), .val (.int p3), .val (.int (0 : Int32)), .val (.int (1 : Int32)), .val (.ref b_97), .val .null, .unset, .unset, .unset] [(.int p0), (.ref b_97), (.ref b98), (.ref b98)])) rfl (by rw [hml]; rfl) (argsL := [(.int p0)]) (rest := [(.ref b_97), (.ref b98), (.ref b98)]) (lenOf pd_8 rfl) rfl (by show 2 * 0 + _ ≤ _; exact Nat.le_of_eq rfl) (hb hby at_69) (fun _ _ => ⟨rfl, e98, (by decide : 7 + 6 ≤ _), (by decide : 14 + 12 ≤ _)⟩)
      dsimp only [Pt.U, Pt.locs, Pt.cells, Pt.slots] at X99 l99 y99 z99 st99 hQ99 hS99 hgr99 Ch99
      subst l99 y99 z99
      obtain ⟨h99, e99⟩ : ∃ z, T99.heap = z := ⟨_, rfl⟩
      rw [e99] at hQ99 Ch99
      obtain ⟨b_99, rfl, Nq99, Kq99, fr99_b_99, E_b_99_q99, G_b_99_q99⟩ := hQ99
      replace N0 := Fr.app N0 Nq99
      have g_b_99 : n0 ≤ b_99 := Nat.le_trans (own_n0 O0) fr99_b_99
      have sz_b_99 : h0.size ≤ b_99 := Nat.le_trans K0.1 fr99_b_99
      have ne_b_97_b_99 : b_97 ≠ b_99 := Nat.ne_of_lt (Nat.lt_of_lt_of_le E_b_97.lt fr99_b_99)
      have ne_b98_b_99 : b98 ≠ b_99 := Nat.ne_of_lt (Nat.lt_of_lt_of_le E_b98.lt fr99_b_99)
      replace S_b98 := Ch99.safe E_b98.lt S_b98
      replace C0 := C0.trans Ch99
      replace G_b_97 := G_b_97.ext (own_kext Kq99)
      replace E_b_97 := E_b_97.keep Kq99
      replace E_b98 := E_b98.keep Kq99
      replace F_b98_system := F_b98_system.keep Kq99 nin0
      replace F_b98_code := F_b98_code.keep Kq99 nin0
      replace O0 := O0.keep Kq99 all0
      replace K0 := K0.trans Kq99 all0
      have E_b_99 := E_b_99_q99
      have G_b_99 := G_b_99_q99
      obtain ⟨X99, hS99, hZ99, hown99⟩ := rebS hS0 (by rw [e98]; exact hk0) X99 hS99 hgr99 hZ hown
      rw [e99] at hS99
      clear hS0 hk0 hZ hown
      have hS0 := hS99
      have hk0 : h99.size ≤ h99.size := Nat.le_refl _
      have hZ := hZ99
      have hown := hown99
      refine Goes.run (T' := T99) (g' := (mkF m 72 #[.val (.int p0), .val (.int p1), .val (.int p2), .val (.int p3), .val (.int (0 : Int32)), .val (.int (1 : Int32)), .val (.ref b_97), .val .null, .unset, .unset, .unset] [(.ref b_99), (.ref b_97), (.ref b98), (.ref b98)])) st99 ?_
      obtain ⟨_, _, ⟨T100, L100, k100, n100⟩, -, X100, hS100, hgr100, ⟨Lc100, hQ100, l100, y100, z100, Ch100⟩, st100⟩ := X99.specialBackS hx (y := (⟨"com/example/wardkey/wardkey/policy/Code", "<init>", "(Ljava/lang/String;Ljava/lang/String;)V"⟩ : MethodName)) rfl hown (mvT hZ (hw _ (List.mem_of_getElem? (i := 36) rfl))) (mvT hZ (hw _ (List.mem_of_getElem? (i := 37) rfl))) (mvT hZ (hw _ (List.mem_of_getElem? (i := 38) rfl))) (by decide) (backOfSH (W := 1) (rm_codeInit l Z a0 hw [] hEL b98 (.ref b_97) rfl b_99 h99 n0 O0  E_b98 F_b98_system F_b98_code g_b98) hZ (hw _ (List.mem_of_getElem? (i := 38) rfl)) (hw _ (List.mem_of_getElem? (i := 35) rfl)) (by decide) (by decide) hEL C0.1) (g := (mkF m 72 #[.val (.int p0), .val (.int p1), .val (.int p2), .val (.int p3), .val (.int (0 : Int32)), .val (.int (1 : Int32)), .val (.ref b_97), .val .null, .unset, .unset, .unset] [(.ref b_99), (.ref b_97), (.ref b98), (.ref b98)])) rfl (by rw [hml]; rfl) (Steps.refl _) (a := b98) (argsL := [(.ref b_97), (.ref b_99)]) (rest := [(.ref b98)]) (lenOf pd_9 rfl) rfl (by show 2 * 0 + _ ≤ _; exact Nat.le_of_eq rfl) (hb hby at_72) (fun _ _ => ⟨rfl, e99, (by decide : 13 + 2 ≤ _), (by decide : 26 + 20 ≤ _)⟩)
      dsimp only [Pt.U, Pt.locs, Pt.cells, Pt.slots] at X100 l100 y100 z100 st100 hQ100 hS100 hgr100 Ch100
      subst l100 y100 z100
      obtain ⟨h100, e100⟩ : ∃ z, T100.heap = z := ⟨_, rfl⟩
      rw [e100] at hQ100 Ch100
      obtain ⟨rfl, Nq100, Kq100, E_b98_q100, F_b98_system_q100, F_b98_code_q100⟩ := hQ100
      replace N0 := Fr.app N0 Nq100
      replace S_b98 := Ch100.safe E_b98.lt S_b98
      replace C0 := C0.trans Ch100
      replace G_b_97 := G_b_97.keepE Kq100 E_b98 (by decide) (hw _ (List.mem_of_getElem? (i := 34) rfl))
      replace G_b_99 := G_b_99.keepE Kq100 E_b98 (by decide) (hw _ (List.mem_of_getElem? (i := 34) rfl))
      replace E_b_97 := E_b_97.keep Kq100
      clear E_b98
      clear F_b98_system
      clear F_b98_code
      replace E_b_99 := E_b_99.keep Kq100
      replace O0 := O0.keep Kq100 (allS g_b98 all0)
      replace K0 := K0.trans Kq100 (allS (Or.inr sz_b98) all0)
      have E_b98 := E_b98_q100
      have F_b98_system := F_b98_system_q100
      have F_b98_code := F_b98_code_q100
      obtain ⟨X100, hS100, hZ100, hown100⟩ := rebS hS0 (by rw [e99]; exact hk0) X100 hS100 hgr100 hZ hown
      rw [e100] at hS100
      clear hS0 hk0 hZ hown
      have hS0 := hS100
      have hk0 : h100.size ≤ h100.size := Nat.le_refl _
      have hZ := hZ100
      have hown := hown100
      refine Goes.run (T' := T100) (g' := (mkF m 75 #[.val (.int p0), .val (.int p1), .val (.int p2), .val (.int p3), .val (.int (0 : Int32)), .val (.int (1 : Int32)), .val (.ref b_97), .val .null, .unset, .unset, .unset] [(.ref b98)])) st100 ?_
      refine Goes.step (T' := T100) (g' := (mkF m 77 #[.val (.int p0), .val (.int p1), .val (.int p2), .val (.int p3), .val (.int (0 : Int32)), .val (.int (1 : Int32)), .val (.ref b_97), .val .null, .val (.ref b98), .unset, .unset] [])) (fun _ k => XS.astore X100.here hx rfl (hb hby at_75) rfl rfl (l' := #[.val (.int p0), .val (.int p1), .val (.int p2), .val (.int p3), .val (.int (0 : Int32)), .val (.int (1 : Int32)), .val (.ref b_97), .val .null, .val (.ref b98), .unset, .unset]) rfl k) ?_
      obtain ⟨T101, h101, X101, e101, Ex101, A101, D101, -, st101⟩ := newO X100 hx hZ hown (hw _ (List.mem_of_getElem? (i := 33) rfl)) (hw _ (List.mem_of_getElem? (i := 34) rfl)) (hw _ (List.mem_of_getElem? (i := 35) rfl)) e100 (g := (mkF m 77 #[.val (.int p0), .val (.int p1), .val (.int p2), .val (.int p3), .val (.int (0 : Int32)), .val (.int (1 : Int32)), .val (.ref b_97), .val .null, .val (.ref b98), .unset, .unset] [])) rfl (hb hby at_77) (by decide) (by decide)
      obtain ⟨b101, gg101⟩ : ∃ z, z = h100.size := ⟨_, rfl⟩
      rw [← gg101] at A101 D101 st101
      have g_b101 : n0 ≤ b101 := Nat.le_trans (own_n0 O0) (Nat.le_of_eq gg101.symm)
      have sz_b101 : h0.size ≤ b101 := Nat.le_trans K0.1 (Nat.le_of_eq gg101.symm)
      have ne_b_97_b101 : b_97 ≠ b101 := Nat.ne_of_lt (Nat.lt_of_lt_of_le E_b_97.lt (Nat.le_of_eq gg101.symm))
      have ne_b_99_b101 : b_99 ≠ b101 := Nat.ne_of_lt (Nat.lt_of_lt_of_le E_b_99.lt (Nat.le_of_eq gg101.symm))
      have ne_b98_b101 : b98 ≠ b101 := Nat.ne_of_lt (Nat.lt_of_lt_of_le E_b98.lt (Nat.le_of_eq gg101.symm))
      have S_b101 := (Safe.new (Z := Z) (EL := EL) (vm := T100.vm) (Nat.le_of_eq gg101.symm)).ext Ex101 C0.1
      replace S_b98 := S_b98.ext Ex101 C0.1
      replace E_b_97 := E_b_97.ext Ex101
      replace G_b_97 := G_b_97.ext Ex101
      replace E_b_99 := E_b_99.ext Ex101
      replace G_b_99 := G_b_99.ext Ex101
      replace E_b98 := E_b98.ext Ex101
      replace F_b98_system := F_b98_system.ext Ex101
      replace F_b98_code := F_b98_code.ext Ex101
      replace O0 := O0.ext Ex101
      replace K0 := K0.ext Ex101
      replace C0 := C0.trans (CHr.ext Ex101 C0.1)
      replace hk0 := Nat.le_trans hk0 Ex101.1
      have E_b101 := A101
      have F_b101_system : Fld Z h101 b101 "com/example/wardkey/wardkey/policy/Code" "system" "Ljava/lang/String;" .null := D101 (Or.inr (hw _ (List.mem_of_getElem? (i := 51) rfl))) (ty := (.object "java/lang/String")) (by decide)
      have F_b101_code : Fld Z h101 b101 "com/example/wardkey/wardkey/policy/Code" "code" "Ljava/lang/String;" .null := D101 (Or.inr (hw _ (List.mem_of_getElem? (i := 53) rfl))) (ty := (.object "java/lang/String")) (by decide)
      refine Goes.step (T' := T101) (g' := (mkF m 80 #[.val (.int p0), .val (.int p1), .val (.int p2), .val (.int p3), .val (.int (0 : Int32)), .val (.int (1 : Int32)), .val (.ref b_97), .val .null, .val (.ref b98), .unset, .unset] [(.ref b101)])) st101 ?_
      clear D101 A101
      refine Goes.step (T' := T101) (g' := (mkF m 81 #[.val (.int p0), .val (.int p1), .val (.int p2), .val (.int p3), .val (.int (0 : Int32)), .val (.int (1 : Int32)), .val (.ref b_97), .val .null, .val (.ref b98), .unset, .unset] [(.ref b101), (.ref b101)])) (fun _ k => XS.dup X101.here hx rfl (hb hby at_80) rfl rfl k) ?_
      refine Goes.step (T' := T101) (g' := (mkF m 83 #[.val (.int p0), .val (.int p1), .val (.int p2), .val (.int p3), .val (.int (0 : Int32)), .val (.int (1 : Int32)), .val (.ref b_97), .val .null, .val (.ref b98), .unset, .unset] [.null, (.ref b101), (.ref b101)])) (fun _ k => XS.aload X101.here hx rfl (hb hby at_81) rfl rfl k) ?_
      refine Goes.step (T' := T101) (g' := (mkF m 84 #[.val (.int p0), .val (.int p1), .val (.int p2), .val (.int p3), .val (.int (0 : Int32)), .val (.int (1 : Int32)), .val (.ref b_97), .val .null, .val (.ref b98), .unset, .unset] [(.int p1), .null, (.ref b101), (.ref b101)])) (fun _ k => XS.iloadN X101.here hx rfl (hb hby at_83) rfl  k) ?_
      obtain ⟨_, _, ⟨T102, L102, k102, n102⟩, -, X102, hS102, hgr102, ⟨Lc102, hQ102, l102, y102, z102, Ch102⟩, st102⟩ := callSS X101 hx (y := (⟨"com/example/wardkey/wardkey/policy/CodeOverlapsPinLaw", "text", "(I)Ljava/lang/String;"⟩ : MethodName)) hown (mvT hZ (hw _ (List.mem_of_getElem? (i := 0) rfl))) (mvT hZ (hw _ (List.mem_of_getElem? (i := 1) rfl))) (mvT hZ (hw _ (List.mem_of_getElem? (i := 2) rfl))) (mvT hZ (hw _ (List.mem_of_getElem? (i := 3) rfl))) (by decide) (backOfSH (W := 3) (rm_text l Z a0 hw [] hEL p1 h101 n0 O0 zcs Scs hz_Scs ) hZ (hw _ (List.mem_of_getElem? (i := 3) rfl)) (hw _ (List.mem_of_getElem? (i := 2) rfl)) (by decide) (by decide) hEL C0.1) (g := (mkF m 84 #[.val (.int p0), .val (.int p1), .val (.int p2), .val (.int p3), .val (.int (0 : Int32)), .val (.int (1 : Int32)), .val (.ref b_97), .val .null, .val (.ref b98), .unset, .unset] [(.int p1), .null, (.ref b101), (.ref b101)])) rfl (by rw [hml]; rfl) (argsL := [(.int p1)]) (rest := [.null, (.ref b101), (.ref b101)]) (lenOf pd_8 rfl) rfl (by show 2 * 0 + _ ≤ _; exact Nat.le_of_eq rfl) (hb hby at_84) (fun _ _ => ⟨rfl, e101, (by decide : 16 + 6 ≤ _), (by decide : 48 + 12 ≤ _)⟩)
      dsimp only [Pt.U, Pt.locs, Pt.cells, Pt.slots] at X102 l102 y102 z102 st102 hQ102 hS102 hgr102 Ch102
      subst l102 y102 z102
      obtain ⟨h102, e102⟩ : ∃ z, T102.heap = z := ⟨_, rfl⟩
      rw [e102] at hQ102 Ch102
      obtain ⟨b_102, rfl, Nq102, Kq102, fr102_b_102, E_b_102_q102, G_b_102_q102⟩ := hQ102
      replace N0 := Fr.app N0 Nq102
      have g_b_102 : n0 ≤ b_102 := Nat.le_trans (own_n0 O0) fr102_b_102
      have sz_b_102 : h0.size ≤ b_102 := Nat.le_trans K0.1 fr102_b_102
      have ne_b_97_b_102 : b_97 ≠ b_102 := Nat.ne_of_lt (Nat.lt_of_lt_of_le E_b_97.lt fr102_b_102)
      have ne_b_99_b_102 : b_99 ≠ b_102 := Nat.ne_of_lt (Nat.lt_of_lt_of_le E_b_99.lt fr102_b_102)
      have ne_b98_b_102 : b98 ≠ b_102 := Nat.ne_of_lt (Nat.lt_of_lt_of_le E_b98.lt fr102_b_102)
      have ne_b101_b_102 : b101 ≠ b_102 := Nat.ne_of_lt (Nat.lt_of_lt_of_le E_b101.lt fr102_b_102)
      replace S_b98 := Ch102.safe E_b98.lt S_b98
      replace S_b101 := Ch102.safe E_b101.lt S_b101
      replace C0 := C0.trans Ch102
      replace G_b_97 := G_b_97.ext (own_kext Kq102)
      replace G_b_99 := G_b_99.ext (own_kext Kq102)
      replace E_b_97 := E_b_97.keep Kq102
      replace E_b_99 := E_b_99.keep Kq102
      replace E_b98 := E_b98.keep Kq102
      replace F_b98_system := F_b98_system.keep Kq102 nin0
      replace F_b98_code := F_b98_code.keep Kq102 nin0
      replace E_b101 := E_b101.keep Kq102
      replace F_b101_system := F_b101_system.keep Kq102 nin0
      replace F_b101_code := F_b101_code.keep Kq102 nin0
      replace O0 := O0.keep Kq102 all0
      replace K0 := K0.trans Kq102 all0
      have E_b_102 := E_b_102_q102
      have G_b_102 := G_b_102_q102
      obtain ⟨X102, hS102, hZ102, hown102⟩ := rebS hS0 (by rw [e101]; exact hk0) X102 hS102 hgr102 hZ hown
      rw [e102] at hS102
      clear hS0 hk0 hZ hown
      have hS0 := hS102
      have hk0 : h102.size ≤ h102.size := Nat.le_refl _
      have hZ := hZ102
      have hown := hown102
      refine Goes.run (T' := T102) (g' := (mkF m 87 #[.val (.int p0), .val (.int p1), .val (.int p2), .val (.int p3), .val (.int (0 : Int32)), .val (.int (1 : Int32)), .val (.ref b_97), .val .null, .val (.ref b98), .unset, .unset] [(.ref b_102), .null, (.ref b101), (.ref b101)])) st102 ?_
      obtain ⟨_, _, ⟨T103, L103, k103, n103⟩, -, X103, hS103, hgr103, ⟨Lc103, hQ103, l103, y103, z103, Ch103⟩, st103⟩ := X102.specialBackS hx (y := (⟨"com/example/wardkey/wardkey/policy/Code", "<init>", "(Ljava/lang/String;Ljava/lang/String;)V"⟩ : MethodName)) rfl hown (mvT hZ (hw _ (List.mem_of_getElem? (i := 36) rfl))) (mvT hZ (hw _ (List.mem_of_getElem? (i := 37) rfl))) (mvT hZ (hw _ (List.mem_of_getElem? (i := 38) rfl))) (by decide) (backOfSH (W := 1) (rm_codeInit l Z a0 hw [] hEL b101 .null rfl b_102 h102 n0 O0  E_b101 F_b101_system F_b101_code g_b101) hZ (hw _ (List.mem_of_getElem? (i := 38) rfl)) (hw _ (List.mem_of_getElem? (i := 35) rfl)) (by decide) (by decide) hEL C0.1) (g := (mkF m 87 #[.val (.int p0), .val (.int p1), .val (.int p2), .val (.int p3), .val (.int (0 : Int32)), .val (.int (1 : Int32)), .val (.ref b_97), .val .null, .val (.ref b98), .unset, .unset] [(.ref b_102), .null, (.ref b101), (.ref b101)])) rfl (by rw [hml]; rfl) (Steps.refl _) (a := b101) (argsL := [.null, (.ref b_102)]) (rest := [(.ref b101)]) (lenOf pd_9 rfl) rfl (by show 2 * 0 + _ ≤ _; exact Nat.le_of_eq rfl) (hb hby at_87) (fun _ _ => ⟨rfl, e102, (by decide : 22 + 2 ≤ _), (by decide : 60 + 20 ≤ _)⟩)
      dsimp only [Pt.U, Pt.locs, Pt.cells, Pt.slots] at X103 l103 y103 z103 st103 hQ103 hS103 hgr103 Ch103
      subst l103 y103 z103
      obtain ⟨h103, e103⟩ : ∃ z, T103.heap = z := ⟨_, rfl⟩
      rw [e103] at hQ103 Ch103
      obtain ⟨rfl, Nq103, Kq103, E_b101_q103, F_b101_system_q103, F_b101_code_q103⟩ := hQ103
      replace N0 := Fr.app N0 Nq103
      replace S_b98 := Ch103.safe E_b98.lt S_b98
      replace S_b101 := Ch103.safe E_b101.lt S_b101
      replace C0 := C0.trans Ch103
      replace G_b_97 := G_b_97.keepE Kq103 E_b101 (by decide) (hw _ (List.mem_of_getElem? (i := 34) rfl))
      replace G_b_99 := G_b_99.keepE Kq103 E_b101 (by decide) (hw _ (List.mem_of_getElem? (i := 34) rfl))
      replace G_b_102 := G_b_102.keepE Kq103 E_b101 (by decide) (hw _ (List.mem_of_getElem? (i := 34) rfl))
      replace E_b_97 := E_b_97.keep Kq103
      replace E_b_99 := E_b_99.keep Kq103
      replace E_b98 := E_b98.keep Kq103
      replace F_b98_system := F_b98_system.keep Kq103 (ninS ne_b98_b101 nin0)
      replace F_b98_code := F_b98_code.keep Kq103 (ninS ne_b98_b101 nin0)
      clear E_b101
      clear F_b101_system
      clear F_b101_code
      replace E_b_102 := E_b_102.keep Kq103
      replace O0 := O0.keep Kq103 (allS g_b101 all0)
      replace K0 := K0.trans Kq103 (allS (Or.inr sz_b101) all0)
      have E_b101 := E_b101_q103
      have F_b101_system := F_b101_system_q103
      have F_b101_code := F_b101_code_q103
      obtain ⟨X103, hS103, hZ103, hown103⟩ := rebS hS0 (by rw [e102]; exact hk0) X103 hS103 hgr103 hZ hown
      rw [e103] at hS103
      clear hS0 hk0 hZ hown
      have hS0 := hS103
      have hk0 : h103.size ≤ h103.size := Nat.le_refl _
      have hZ := hZ103
      have hown := hown103
      refine Goes.run (T' := T103) (g' := (mkF m 90 #[.val (.int p0), .val (.int p1), .val (.int p2), .val (.int p3), .val (.int (0 : Int32)), .val (.int (1 : Int32)), .val (.ref b_97), .val .null, .val (.ref b98), .unset, .unset] [(.ref b101)])) st103 ?_
      refine Goes.step (T' := T103) (g' := (mkF m 92 #[.val (.int p0), .val (.int p1), .val (.int p2), .val (.int p3), .val (.int (0 : Int32)), .val (.int (1 : Int32)), .val (.ref b_97), .val .null, .val (.ref b98), .val (.ref b101), .unset] [])) (fun _ k => XS.astore X103.here hx rfl (hb hby at_90) rfl rfl (l' := #[.val (.int p0), .val (.int p1), .val (.int p2), .val (.int p3), .val (.int (0 : Int32)), .val (.int (1 : Int32)), .val (.ref b_97), .val .null, .val (.ref b98), .val (.ref b101), .unset]) rfl k) ?_
      refine Goes.step (T' := T103) (g' := (mkF m 93 #[.val (.int p0), .val (.int p1), .val (.int p2), .val (.int p3), .val (.int (0 : Int32)), .val (.int (1 : Int32)), .val (.ref b_97), .val .null, .val (.ref b98), .val (.ref b101), .unset] [(.int p0)])) (fun _ k => XS.iloadN X103.here hx rfl (hb hby at_92) rfl  k) ?_
      refine Goes.step (T' := T103) (g' := (mkF m 94 #[.val (.int p0), .val (.int p1), .val (.int p2), .val (.int p3), .val (.int (0 : Int32)), .val (.int (1 : Int32)), .val (.ref b_97), .val .null, .val (.ref b98), .val (.ref b101), .unset] [(.int p1), (.int p0)])) (fun _ k => XS.iloadN X103.here hx rfl (hb hby at_93) rfl  k) ?_
      obtain ⟨_, _, ⟨T104, L104, k104, n104⟩, -, X104, ⟨Lc104, hQ104, l104, y104, z104⟩, st104⟩ := Jvm.LawKit.callS X103 hx (y := (⟨"com/example/wardkey/wardkey/policy/CodeOverlapsPinLaw", "same", "(II)Z"⟩ : MethodName)) hown (mvT hZ (hw _ (List.mem_of_getElem? (i := 54) rfl))) (mvT hZ (hw _ (List.mem_of_getElem? (i := 55) rfl))) (mvT hZ (hw _ (List.mem_of_getElem? (i := 2) rfl))) (mvT hZ (hw _ (List.mem_of_getElem? (i := 56) rfl))) (by decide) (backOf (W := 0) (rm_same l Z a0 hw [] p0 p1 h103 n0 O0  ) hZ (hw _ (List.mem_of_getElem? (i := 56) rfl)) (hw _ (List.mem_of_getElem? (i := 2) rfl)) (by decide) (by decide)) (g := (mkF m 94 #[.val (.int p0), .val (.int p1), .val (.int p2), .val (.int p3), .val (.int (0 : Int32)), .val (.int (1 : Int32)), .val (.ref b_97), .val .null, .val (.ref b98), .val (.ref b101), .unset] [(.int p1), (.int p0)])) rfl (by rw [hml]; rfl) (argsL := [(.int p0), (.int p1)]) (rest := []) (lenOf pd_10 rfl) rfl (by show 2 * 0 + _ ≤ _; exact Nat.le_of_eq rfl) (hb hby at_94) (fun _ _ => ⟨rfl, e103, (by decide : 24 + 0 ≤ _), (by decide : 80 + 0 ≤ _)⟩)
      dsimp only [Pt.U, Pt.locs, Pt.cells, Pt.slots] at X104 l104 y104 z104 st104 hQ104
      subst l104 y104 z104
      obtain ⟨rfl, rfl, e104⟩ := hQ104
      replace N0 := Fr.app N0 (Fr.nil n0)
      refine Goes.step (T' := T104) (g' := (mkF m 97 #[.val (.int p0), .val (.int p1), .val (.int p2), .val (.int p3), .val (.int (0 : Int32)), .val (.int (1 : Int32)), .val (.ref b_97), .val .null, .val (.ref b98), .val (.ref b101), .unset] [(.int (if TX p0 = TX p1 then 1 else 0))])) st104 ?_
      by_cases hc97_105 : (if TX p0 = TX p1 then 1 else 0) = (0 : Int32)
      ·
        refine Goes.step (T' := T104) (g' := (mkF m 122 #[.val (.int p0), .val (.int p1), .val (.int p2), .val (.int p3), .val (.int (0 : Int32)), .val (.int (1 : Int32)), .val (.ref b_97), .val .null, .val (.ref b98), .val (.ref b101), .unset] [])) (fun _ k => XS.ifYes X104.here hx rfl (pc0 := 97) (pc' := 122) rfl (hb hby at_97) rfl ((if0 _ _).trans (teq hc97_105).1) (by decide) (by decide) k) ?_
        refine Goes.step (T' := T104) (g' := (mkF m 123 #[.val (.int p0), .val (.int p1), .val (.int p2), .val (.int p3), .val (.int (0 : Int32)), .val (.int (1 : Int32)), .val (.ref b_97), .val .null, .val (.ref b98), .val (.ref b101), .unset] [(.int (0 : Int32))])) (fun _ k => XS.iconst X104.here hx rfl (hb hby at_122) k) ?_
        refine Goes.step (T' := T104) (g' := (mkF m 125 #[.val (.int p0), .val (.int p1), .val (.int p2), .val (.int p3), .val (.int (0 : Int32)), .val (.int (1 : Int32)), .val (.ref b_97), .val .null, .val (.ref b98), .val (.ref b101), .val (.int (0 : Int32))] [])) (fun _ k => XS.istore X104.here hx rfl (hb hby at_123) rfl (l' := #[.val (.int p0), .val (.int p1), .val (.int p2), .val (.int p3), .val (.int (0 : Int32)), .val (.int (1 : Int32)), .val (.ref b_97), .val .null, .val (.ref b98), .val (.ref b101), .val (.int (0 : Int32))]) rfl k) ?_
        refine Goes.step (T' := T104) (g' := (mkF m 127 #[.val (.int p0), .val (.int p1), .val (.int p2), .val (.int p3), .val (.int (0 : Int32)), .val (.int (1 : Int32)), .val (.ref b_97), .val .null, .val (.ref b98), .val (.ref b101), .val (.int (0 : Int32))] [(.ref b98)])) (fun _ k => XS.aload X104.here hx rfl (hb hby at_125) rfl rfl k) ?_
        refine Goes.step (T' := T104) (g' := (mkF m 129 #[.val (.int p0), .val (.int p1), .val (.int p2), .val (.int p3), .val (.int (0 : Int32)), .val (.int (1 : Int32)), .val (.ref b_97), .val .null, .val (.ref b98), .val (.ref b101), .val (.int (0 : Int32))] [(.ref b101), (.ref b98)])) (fun _ k => XS.aload X104.here hx rfl (hb hby at_127) rfl rfl k) ?_
        obtain ⟨cq106, kq106, qa106, qb106, qc106⟩ := isOf hZ e104 E_b98
        obtain ⟨_, _, ⟨T106, L106, k106, n106⟩, -, X106, ⟨Lc106, hQ106, l106, y106, z106⟩, st106⟩ := X104.virtualBack hx (y := (⟨"com/example/wardkey/wardkey/policy/Code", "overlaps", "(Lcom/example/wardkey/wardkey/policy/Code;)Z"⟩ : MethodName)) (z := (⟨"com/example/wardkey/wardkey/policy/Code", "overlaps", "(Lcom/example/wardkey/wardkey/policy/Code;)Z"⟩ : MethodName)) hown (mvT hZ (hw _ (List.mem_of_getElem? (i := 57) rfl))) (mvT hZ (hw _ (List.mem_of_getElem? (i := 58) rfl))) (notFace_of_selects (args := #[]) (mvT hZ (hw _ (List.mem_of_getElem? (i := 60) rfl)))) (mvT hZ (hw _ (List.mem_of_getElem? (i := 60) rfl))) (mvT hZ (hw _ (List.mem_of_getElem? (i := 59) rfl))) (by decide) (backOf (W := 0) (rm_ovSN l Z a0 hw [] b98 b101 b_99 ((TX p0)) b_102 ((TX p1)) b_97 ((TX p2)) h103 n0 O0 zcs Scs hz_Scs F_b98_code F_b101_code E_b_99 G_b_99 E_b_102 G_b_102 F_b98_system E_b_97 G_b_97 F_b101_system (own_TXlen _) (own_TXlen _) (own_TXlen _)) hZ (hw _ (List.mem_of_getElem? (i := 61) rfl)) (hw _ (List.mem_of_getElem? (i := 35) rfl)) (by decide) (by decide)) qa106 qc106 (g := (mkF m 129 #[.val (.int p0), .val (.int p1), .val (.int p2), .val (.int p3), .val (.int (0 : Int32)), .val (.int (1 : Int32)), .val (.ref b_97), .val .null, .val (.ref b98), .val (.ref b101), .val (.int (0 : Int32))] [(.ref b101), (.ref b98)])) rfl (by rw [hml]; rfl) (Steps.refl _) (argsL := [(.ref b101)]) (rest := []) (lenOf pd_11 rfl) rfl (by show 2 * 0 + _ ≤ _; exact Nat.le_of_eq rfl) (hb hby at_129) (fun _ _ => ⟨rfl, e104, (by decide : 24 + 0 ≤ _), (by decide : 80 + 0 ≤ _)⟩)
        dsimp only [Pt.U, Pt.locs, Pt.cells, Pt.slots] at X106 l106 y106 z106 st106 hQ106
        subst l106 y106 z106
        obtain ⟨rfl, rfl, e106⟩ := hQ106
        replace N0 := Fr.app N0 (Fr.nil n0)
        refine Goes.run (T' := T106) (g' := (mkF m 132 #[.val (.int p0), .val (.int p1), .val (.int p2), .val (.int p3), .val (.int (0 : Int32)), .val (.int (1 : Int32)), .val (.ref b_97), .val .null, .val (.ref b98), .val (.ref b101), .val (.int (0 : Int32))] [(.int (if (TX p0) = (TX p1) then 1 else 0))])) st106 ?_
        refine Goes.step (T' := T106) (g' := (mkF m 134 #[.val (.int p0), .val (.int p1), .val (.int p2), .val (.int p3), .val (.int (0 : Int32)), .val (.int (1 : Int32)), .val (.ref b_97), .val .null, .val (.ref b98), .val (.ref b101), .val (.int (0 : Int32))] [(.int (0 : Int32)), (.int (if (TX p0) = (TX p1) then 1 else 0))])) (fun _ k => XS.iload X106.here hx rfl (hb hby at_132) rfl  k) ?_
        refine Goes.step (T' := T106) (g' := (mkF m 137 #[.val (.int p0), .val (.int p1), .val (.int p2), .val (.int p3), .val (.int (0 : Int32)), .val (.int (1 : Int32)), .val (.ref b_97), .val .null, .val (.ref b98), .val (.ref b101), .val (.int (0 : Int32))] [])) (fun _ k => XS.icmpNo X106.here hx rfl (hb hby at_134) rfl (teq (if_neg fun q => (own_if0 hc97_105) q)).2 k) ?_
        refine Goes.step (T' := T106) (g' := (mkF m 139 #[.val (.int p0), .val (.int p1), .val (.int p2), .val (.int p3), .val (.int (0 : Int32)), .val (.int (1 : Int32)), .val (.ref b_97), .val .null, .val (.ref b98), .val (.ref b101), .val (.int (0 : Int32))] [(.ref b101)])) (fun _ k => XS.aload X106.here hx rfl (hb hby at_137) rfl rfl k) ?_
        refine Goes.step (T' := T106) (g' := (mkF m 141 #[.val (.int p0), .val (.int p1), .val (.int p2), .val (.int p3), .val (.int (0 : Int32)), .val (.int (1 : Int32)), .val (.ref b_97), .val .null, .val (.ref b98), .val (.ref b101), .val (.int (0 : Int32))] [(.ref b98), (.ref b101)])) (fun _ k => XS.aload X106.here hx rfl (hb hby at_139) rfl rfl k) ?_
        obtain ⟨cq107, kq107, qa107, qb107, qc107⟩ := isOf hZ e106 E_b101
        obtain ⟨_, _, ⟨T107, L107, k107, n107⟩, -, X107, ⟨Lc107, hQ107, l107, y107, z107⟩, st107⟩ := X106.virtualBack hx (y := (⟨"com/example/wardkey/wardkey/policy/Code", "overlaps", "(Lcom/example/wardkey/wardkey/policy/Code;)Z"⟩ : MethodName)) (z := (⟨"com/example/wardkey/wardkey/policy/Code", "overlaps", "(Lcom/example/wardkey/wardkey/policy/Code;)Z"⟩ : MethodName)) hown (mvT hZ (hw _ (List.mem_of_getElem? (i := 57) rfl))) (mvT hZ (hw _ (List.mem_of_getElem? (i := 58) rfl))) (notFace_of_selects (args := #[]) (mvT hZ (hw _ (List.mem_of_getElem? (i := 60) rfl)))) (mvT hZ (hw _ (List.mem_of_getElem? (i := 60) rfl))) (mvT hZ (hw _ (List.mem_of_getElem? (i := 59) rfl))) (by decide) (backOf (W := 0) (rm_ovNS l Z a0 hw [] b101 b98 b_102 ((TX p1)) b_99 ((TX p0)) b_97 ((TX p2)) h103 n0 O0 zcs Scs hz_Scs F_b101_code F_b98_code E_b_102 G_b_102 E_b_99 G_b_99 F_b101_system F_b98_system E_b_97 G_b_97 (own_TXlen _) (own_TXlen _) (own_TXlen _)) hZ (hw _ (List.mem_of_getElem? (i := 61) rfl)) (hw _ (List.mem_of_getElem? (i := 35) rfl)) (by decide) (by decide)) qa107 qc107 (g := (mkF m 141 #[.val (.int p0), .val (.int p1), .val (.int p2), .val (.int p3), .val (.int (0 : Int32)), .val (.int (1 : Int32)), .val (.ref b_97), .val .null, .val (.ref b98), .val (.ref b101), .val (.int (0 : Int32))] [(.ref b98), (.ref b101)])) rfl (by rw [hml]; rfl) (Steps.refl _) (argsL := [(.ref b98)]) (rest := []) (lenOf pd_11 rfl) rfl (by show 2 * 0 + _ ≤ _; exact Nat.le_of_eq rfl) (hb hby at_141) (fun _ _ => ⟨rfl, e106, (by decide : 24 + 0 ≤ _), (by decide : 80 + 0 ≤ _)⟩)
        dsimp only [Pt.U, Pt.locs, Pt.cells, Pt.slots] at X107 l107 y107 z107 st107 hQ107
        subst l107 y107 z107
        obtain ⟨rfl, rfl, e107⟩ := hQ107
        replace N0 := Fr.app N0 (Fr.nil n0)
        refine Goes.run (T' := T107) (g' := (mkF m 144 #[.val (.int p0), .val (.int p1), .val (.int p2), .val (.int p3), .val (.int (0 : Int32)), .val (.int (1 : Int32)), .val (.ref b_97), .val .null, .val (.ref b98), .val (.ref b101), .val (.int (0 : Int32))] [(.int (if (TX p1) = (TX p0) then 1 else 0))])) st107 ?_
        refine Goes.step (T' := T107) (g' := (mkF m 146 #[.val (.int p0), .val (.int p1), .val (.int p2), .val (.int p3), .val (.int (0 : Int32)), .val (.int (1 : Int32)), .val (.ref b_97), .val .null, .val (.ref b98), .val (.ref b101), .val (.int (0 : Int32))] [(.int (0 : Int32)), (.int (if (TX p1) = (TX p0) then 1 else 0))])) (fun _ k => XS.iload X107.here hx rfl (hb hby at_144) rfl  k) ?_
        refine Goes.step (T' := T107) (g' := (mkF m 149 #[.val (.int p0), .val (.int p1), .val (.int p2), .val (.int p3), .val (.int (0 : Int32)), .val (.int (1 : Int32)), .val (.ref b_97), .val .null, .val (.ref b98), .val (.ref b101), .val (.int (0 : Int32))] [])) (fun _ k => XS.icmpNo X107.here hx rfl (hb hby at_146) rfl (teq (if_neg fun q => (own_if0 hc97_105) q.symm)).2 k) ?_
        refine Goes.step (T' := T107) (g' := (mkF m 150 #[.val (.int p0), .val (.int p1), .val (.int p2), .val (.int p3), .val (.int (0 : Int32)), .val (.int (1 : Int32)), .val (.ref b_97), .val .null, .val (.ref b98), .val (.ref b101), .val (.int (0 : Int32))] [(.int (1 : Int32))])) (fun _ k => XS.iconst X107.here hx rfl (hb hby at_149) k) ?_
        refine Goes.step (T' := T107) (g' := (mkF m 154 #[.val (.int p0), .val (.int p1), .val (.int p2), .val (.int p3), .val (.int (0 : Int32)), .val (.int (1 : Int32)), .val (.ref b_97), .val .null, .val (.ref b98), .val (.ref b101), .val (.int (0 : Int32))] [(.int (1 : Int32))])) (fun _ k => XS.goto X107.here hx rfl (pc0 := 150) (pc' := 154) rfl (hb hby at_150) (by decide) (by decide) k) ?_
        obtain ⟨fs, hr, hrun, hended, hend⟩ := X107.leaveW hS0 (by rw [e107]; exact hk0) (v := some (.int (nar .boolean (1 : Int32)))) (fun h => by rw [Bd.returns] at h; cases h)
        exact ⟨_, _, retN X107 hx (t := .boolean) Bd.returns (by simp) (hb hby at_154) hr, hrun, hended, _, _, rfl, (by show Q_law Z p0 p1 p2 p3 h0 n0 _ T107.heap _; rw [e107]; exact ⟨rfl, N0, K0⟩), (by show CHr Z EL s.vm s.heap T107.vm T107.heap; rw [e107, hh]; exact C0.trans (CHv.at X107 hZ hEL C0.1)), own_mono hend (by decide) (by decide)⟩
      ·
        refine Goes.step (T' := T104) (g' := (mkF m 100 #[.val (.int p0), .val (.int p1), .val (.int p2), .val (.int p3), .val (.int (0 : Int32)), .val (.int (1 : Int32)), .val (.ref b_97), .val .null, .val (.ref b98), .val (.ref b101), .unset] [])) (fun _ k => XS.ifNo X104.here hx rfl (hb hby at_97) rfl ((if0 _ _).trans (feq hc97_105).1) k) ?_
        refine Goes.step (T' := T104) (g' := (mkF m 102 #[.val (.int p0), .val (.int p1), .val (.int p2), .val (.int p3), .val (.int (0 : Int32)), .val (.int (1 : Int32)), .val (.ref b_97), .val .null, .val (.ref b98), .val (.ref b101), .unset] [(.int (0 : Int32))])) (fun _ k => XS.iload X104.here hx rfl (hb hby at_100) rfl  k) ?_
        refine Goes.step (T' := T104) (g' := (mkF m 105 #[.val (.int p0), .val (.int p1), .val (.int p2), .val (.int p3), .val (.int (0 : Int32)), .val (.int (1 : Int32)), .val (.ref b_97), .val .null, .val (.ref b98), .val (.ref b101), .unset] [])) (fun _ k => XS.ifNo X104.here hx rfl (hb hby at_102) rfl ((if0 _ _).trans (teq (by decide : ((0 : Int32) = (0 : Int32)))).2) k) ?_
        refine Goes.step (T' := T104) (g' := (mkF m 107 #[.val (.int p0), .val (.int p1), .val (.int p2), .val (.int p3), .val (.int (0 : Int32)), .val (.int (1 : Int32)), .val (.ref b_97), .val .null, .val (.ref b98), .val (.ref b101), .unset] [(.int (1 : Int32))])) (fun _ k => XS.iload X104.here hx rfl (hb hby at_105) rfl  k) ?_
        refine Goes.step (T' := T104) (g' := (mkF m 118 #[.val (.int p0), .val (.int p1), .val (.int p2), .val (.int p3), .val (.int (0 : Int32)), .val (.int (1 : Int32)), .val (.ref b_97), .val .null, .val (.ref b98), .val (.ref b101), .unset] [])) (fun _ k => XS.ifYes X104.here hx rfl (pc0 := 107) (pc' := 118) rfl (hb hby at_107) rfl ((if0 _ _).trans (feq (by decide : ¬ ((1 : Int32) = (0 : Int32)))).2) (by decide) (by decide) k) ?_
        refine Goes.step (T' := T104) (g' := (mkF m 119 #[.val (.int p0), .val (.int p1), .val (.int p2), .val (.int p3), .val (.int (0 : Int32)), .val (.int (1 : Int32)), .val (.ref b_97), .val .null, .val (.ref b98), .val (.ref b101), .unset] [(.int (1 : Int32))])) (fun _ k => XS.iconst X104.here hx rfl (hb hby at_118) k) ?_
        refine Goes.step (T' := T104) (g' := (mkF m 123 #[.val (.int p0), .val (.int p1), .val (.int p2), .val (.int p3), .val (.int (0 : Int32)), .val (.int (1 : Int32)), .val (.ref b_97), .val .null, .val (.ref b98), .val (.ref b101), .unset] [(.int (1 : Int32))])) (fun _ k => XS.goto X104.here hx rfl (pc0 := 119) (pc' := 123) rfl (hb hby at_119) (by decide) (by decide) k) ?_
        refine Goes.step (T' := T104) (g' := (mkF m 125 #[.val (.int p0), .val (.int p1), .val (.int p2), .val (.int p3), .val (.int (0 : Int32)), .val (.int (1 : Int32)), .val (.ref b_97), .val .null, .val (.ref b98), .val (.ref b101), .val (.int (1 : Int32))] [])) (fun _ k => XS.istore X104.here hx rfl (hb hby at_123) rfl (l' := #[.val (.int p0), .val (.int p1), .val (.int p2), .val (.int p3), .val (.int (0 : Int32)), .val (.int (1 : Int32)), .val (.ref b_97), .val .null, .val (.ref b98), .val (.ref b101), .val (.int (1 : Int32))]) rfl k) ?_
        refine Goes.step (T' := T104) (g' := (mkF m 127 #[.val (.int p0), .val (.int p1), .val (.int p2), .val (.int p3), .val (.int (0 : Int32)), .val (.int (1 : Int32)), .val (.ref b_97), .val .null, .val (.ref b98), .val (.ref b101), .val (.int (1 : Int32))] [(.ref b98)])) (fun _ k => XS.aload X104.here hx rfl (hb hby at_125) rfl rfl k) ?_
        refine Goes.step (T' := T104) (g' := (mkF m 129 #[.val (.int p0), .val (.int p1), .val (.int p2), .val (.int p3), .val (.int (0 : Int32)), .val (.int (1 : Int32)), .val (.ref b_97), .val .null, .val (.ref b98), .val (.ref b101), .val (.int (1 : Int32))] [(.ref b101), (.ref b98)])) (fun _ k => XS.aload X104.here hx rfl (hb hby at_127) rfl rfl k) ?_
        obtain ⟨cq108, kq108, qa108, qb108, qc108⟩ := isOf hZ e104 E_b98
        obtain ⟨_, _, ⟨T108, L108, k108, n108⟩, -, X108, ⟨Lc108, hQ108, l108, y108, z108⟩, st108⟩ := X104.virtualBack hx (y := (⟨"com/example/wardkey/wardkey/policy/Code", "overlaps", "(Lcom/example/wardkey/wardkey/policy/Code;)Z"⟩ : MethodName)) (z := (⟨"com/example/wardkey/wardkey/policy/Code", "overlaps", "(Lcom/example/wardkey/wardkey/policy/Code;)Z"⟩ : MethodName)) hown (mvT hZ (hw _ (List.mem_of_getElem? (i := 57) rfl))) (mvT hZ (hw _ (List.mem_of_getElem? (i := 58) rfl))) (notFace_of_selects (args := #[]) (mvT hZ (hw _ (List.mem_of_getElem? (i := 60) rfl)))) (mvT hZ (hw _ (List.mem_of_getElem? (i := 60) rfl))) (mvT hZ (hw _ (List.mem_of_getElem? (i := 59) rfl))) (by decide) (backOf (W := 0) (rm_ovSN l Z a0 hw [] b98 b101 b_99 ((TX p0)) b_102 ((TX p1)) b_97 ((TX p2)) h103 n0 O0 zcs Scs hz_Scs F_b98_code F_b101_code E_b_99 G_b_99 E_b_102 G_b_102 F_b98_system E_b_97 G_b_97 F_b101_system (own_TXlen _) (own_TXlen _) (own_TXlen _)) hZ (hw _ (List.mem_of_getElem? (i := 61) rfl)) (hw _ (List.mem_of_getElem? (i := 35) rfl)) (by decide) (by decide)) qa108 qc108 (g := (mkF m 129 #[.val (.int p0), .val (.int p1), .val (.int p2), .val (.int p3), .val (.int (0 : Int32)), .val (.int (1 : Int32)), .val (.ref b_97), .val .null, .val (.ref b98), .val (.ref b101), .val (.int (1 : Int32))] [(.ref b101), (.ref b98)])) rfl (by rw [hml]; rfl) (Steps.refl _) (argsL := [(.ref b101)]) (rest := []) (lenOf pd_11 rfl) rfl (by show 2 * 0 + _ ≤ _; exact Nat.le_of_eq rfl) (hb hby at_129) (fun _ _ => ⟨rfl, e104, (by decide : 24 + 0 ≤ _), (by decide : 80 + 0 ≤ _)⟩)
        dsimp only [Pt.U, Pt.locs, Pt.cells, Pt.slots] at X108 l108 y108 z108 st108 hQ108
        subst l108 y108 z108
        obtain ⟨rfl, rfl, e108⟩ := hQ108
        replace N0 := Fr.app N0 (Fr.nil n0)
        refine Goes.run (T' := T108) (g' := (mkF m 132 #[.val (.int p0), .val (.int p1), .val (.int p2), .val (.int p3), .val (.int (0 : Int32)), .val (.int (1 : Int32)), .val (.ref b_97), .val .null, .val (.ref b98), .val (.ref b101), .val (.int (1 : Int32))] [(.int (if (TX p0) = (TX p1) then 1 else 0))])) st108 ?_
        refine Goes.step (T' := T108) (g' := (mkF m 134 #[.val (.int p0), .val (.int p1), .val (.int p2), .val (.int p3), .val (.int (0 : Int32)), .val (.int (1 : Int32)), .val (.ref b_97), .val .null, .val (.ref b98), .val (.ref b101), .val (.int (1 : Int32))] [(.int (1 : Int32)), (.int (if (TX p0) = (TX p1) then 1 else 0))])) (fun _ k => XS.iload X108.here hx rfl (hb hby at_132) rfl  k) ?_
        refine Goes.step (T' := T108) (g' := (mkF m 137 #[.val (.int p0), .val (.int p1), .val (.int p2), .val (.int p3), .val (.int (0 : Int32)), .val (.int (1 : Int32)), .val (.ref b_97), .val .null, .val (.ref b98), .val (.ref b101), .val (.int (1 : Int32))] [])) (fun _ k => XS.icmpNo X108.here hx rfl (hb hby at_134) rfl (teq (if_pos (own_if1 hc97_105))).2 k) ?_
        refine Goes.step (T' := T108) (g' := (mkF m 139 #[.val (.int p0), .val (.int p1), .val (.int p2), .val (.int p3), .val (.int (0 : Int32)), .val (.int (1 : Int32)), .val (.ref b_97), .val .null, .val (.ref b98), .val (.ref b101), .val (.int (1 : Int32))] [(.ref b101)])) (fun _ k => XS.aload X108.here hx rfl (hb hby at_137) rfl rfl k) ?_
        refine Goes.step (T' := T108) (g' := (mkF m 141 #[.val (.int p0), .val (.int p1), .val (.int p2), .val (.int p3), .val (.int (0 : Int32)), .val (.int (1 : Int32)), .val (.ref b_97), .val .null, .val (.ref b98), .val (.ref b101), .val (.int (1 : Int32))] [(.ref b98), (.ref b101)])) (fun _ k => XS.aload X108.here hx rfl (hb hby at_139) rfl rfl k) ?_
        obtain ⟨cq109, kq109, qa109, qb109, qc109⟩ := isOf hZ e108 E_b101
        obtain ⟨_, _, ⟨T109, L109, k109, n109⟩, -, X109, ⟨Lc109, hQ109, l109, y109, z109⟩, st109⟩ := X108.virtualBack hx (y := (⟨"com/example/wardkey/wardkey/policy/Code", "overlaps", "(Lcom/example/wardkey/wardkey/policy/Code;)Z"⟩ : MethodName)) (z := (⟨"com/example/wardkey/wardkey/policy/Code", "overlaps", "(Lcom/example/wardkey/wardkey/policy/Code;)Z"⟩ : MethodName)) hown (mvT hZ (hw _ (List.mem_of_getElem? (i := 57) rfl))) (mvT hZ (hw _ (List.mem_of_getElem? (i := 58) rfl))) (notFace_of_selects (args := #[]) (mvT hZ (hw _ (List.mem_of_getElem? (i := 60) rfl)))) (mvT hZ (hw _ (List.mem_of_getElem? (i := 60) rfl))) (mvT hZ (hw _ (List.mem_of_getElem? (i := 59) rfl))) (by decide) (backOf (W := 0) (rm_ovNS l Z a0 hw [] b101 b98 b_102 ((TX p1)) b_99 ((TX p0)) b_97 ((TX p2)) h103 n0 O0 zcs Scs hz_Scs F_b101_code F_b98_code E_b_102 G_b_102 E_b_99 G_b_99 F_b101_system F_b98_system E_b_97 G_b_97 (own_TXlen _) (own_TXlen _) (own_TXlen _)) hZ (hw _ (List.mem_of_getElem? (i := 61) rfl)) (hw _ (List.mem_of_getElem? (i := 35) rfl)) (by decide) (by decide)) qa109 qc109 (g := (mkF m 141 #[.val (.int p0), .val (.int p1), .val (.int p2), .val (.int p3), .val (.int (0 : Int32)), .val (.int (1 : Int32)), .val (.ref b_97), .val .null, .val (.ref b98), .val (.ref b101), .val (.int (1 : Int32))] [(.ref b98), (.ref b101)])) rfl (by rw [hml]; rfl) (Steps.refl _) (argsL := [(.ref b98)]) (rest := []) (lenOf pd_11 rfl) rfl (by show 2 * 0 + _ ≤ _; exact Nat.le_of_eq rfl) (hb hby at_141) (fun _ _ => ⟨rfl, e108, (by decide : 24 + 0 ≤ _), (by decide : 80 + 0 ≤ _)⟩)
        dsimp only [Pt.U, Pt.locs, Pt.cells, Pt.slots] at X109 l109 y109 z109 st109 hQ109
        subst l109 y109 z109
        obtain ⟨rfl, rfl, e109⟩ := hQ109
        replace N0 := Fr.app N0 (Fr.nil n0)
        refine Goes.run (T' := T109) (g' := (mkF m 144 #[.val (.int p0), .val (.int p1), .val (.int p2), .val (.int p3), .val (.int (0 : Int32)), .val (.int (1 : Int32)), .val (.ref b_97), .val .null, .val (.ref b98), .val (.ref b101), .val (.int (1 : Int32))] [(.int (if (TX p1) = (TX p0) then 1 else 0))])) st109 ?_
        refine Goes.step (T' := T109) (g' := (mkF m 146 #[.val (.int p0), .val (.int p1), .val (.int p2), .val (.int p3), .val (.int (0 : Int32)), .val (.int (1 : Int32)), .val (.ref b_97), .val .null, .val (.ref b98), .val (.ref b101), .val (.int (1 : Int32))] [(.int (1 : Int32)), (.int (if (TX p1) = (TX p0) then 1 else 0))])) (fun _ k => XS.iload X109.here hx rfl (hb hby at_144) rfl  k) ?_
        refine Goes.step (T' := T109) (g' := (mkF m 149 #[.val (.int p0), .val (.int p1), .val (.int p2), .val (.int p3), .val (.int (0 : Int32)), .val (.int (1 : Int32)), .val (.ref b_97), .val .null, .val (.ref b98), .val (.ref b101), .val (.int (1 : Int32))] [])) (fun _ k => XS.icmpNo X109.here hx rfl (hb hby at_146) rfl (teq (if_pos (own_if1 hc97_105).symm)).2 k) ?_
        refine Goes.step (T' := T109) (g' := (mkF m 150 #[.val (.int p0), .val (.int p1), .val (.int p2), .val (.int p3), .val (.int (0 : Int32)), .val (.int (1 : Int32)), .val (.ref b_97), .val .null, .val (.ref b98), .val (.ref b101), .val (.int (1 : Int32))] [(.int (1 : Int32))])) (fun _ k => XS.iconst X109.here hx rfl (hb hby at_149) k) ?_
        refine Goes.step (T' := T109) (g' := (mkF m 154 #[.val (.int p0), .val (.int p1), .val (.int p2), .val (.int p3), .val (.int (0 : Int32)), .val (.int (1 : Int32)), .val (.ref b_97), .val .null, .val (.ref b98), .val (.ref b101), .val (.int (1 : Int32))] [(.int (1 : Int32))])) (fun _ k => XS.goto X109.here hx rfl (pc0 := 150) (pc' := 154) rfl (hb hby at_150) (by decide) (by decide) k) ?_
        obtain ⟨fs, hr, hrun, hended, hend⟩ := X109.leaveW hS0 (by rw [e109]; exact hk0) (v := some (.int (nar .boolean (1 : Int32)))) (fun h => by rw [Bd.returns] at h; cases h)
        exact ⟨_, _, retN X109 hx (t := .boolean) Bd.returns (by simp) (hb hby at_154) hr, hrun, hended, _, _, rfl, (by show Q_law Z p0 p1 p2 p3 h0 n0 _ T109.heap _; rw [e109]; exact ⟨rfl, N0, K0⟩), (by show CHr Z EL s.vm s.heap T109.vm T109.heap; rw [e109, hh]; exact C0.trans (CHv.at X109 hZ hEL C0.1)), own_mono hend (by decide) (by decide)⟩
  ·
    refine Goes.step (T' := s₁) (g' := (mkF m 9 #[.val (.int p0), .val (.int p1), .val (.int p2), .val (.int p3), .unset, .unset, .unset, .unset, .unset, .unset, .unset] [])) (fun _ k => XS.ifNo X0.here hx rfl (hb hby at_6) rfl ((if0 _ _).trans (feq hc6_77).1) k) ?_
    refine Goes.step (T' := s₁) (g' := (mkF m 10 #[.val (.int p0), .val (.int p1), .val (.int p2), .val (.int p3), .unset, .unset, .unset, .unset, .unset, .unset, .unset] [(.int (1 : Int32))])) (fun _ k => XS.iconst X0.here hx rfl (hb hby at_9) k) ?_
    refine Goes.step (T' := s₁) (g' := (mkF m 14 #[.val (.int p0), .val (.int p1), .val (.int p2), .val (.int p3), .unset, .unset, .unset, .unset, .unset, .unset, .unset] [(.int (1 : Int32))])) (fun _ k => XS.goto X0.here hx rfl (pc0 := 10) (pc' := 14) rfl (hb hby at_10) (by decide) (by decide) k) ?_
    refine Goes.step (T' := s₁) (g' := (mkF m 16 #[.val (.int p0), .val (.int p1), .val (.int p2), .val (.int p3), .val (.int (1 : Int32)), .unset, .unset, .unset, .unset, .unset, .unset] [])) (fun _ k => XS.istore X0.here hx rfl (hb hby at_14) rfl (l' := #[.val (.int p0), .val (.int p1), .val (.int p2), .val (.int p3), .val (.int (1 : Int32)), .unset, .unset, .unset, .unset, .unset, .unset]) rfl k) ?_
    refine Goes.step (T' := s₁) (g' := (mkF m 17 #[.val (.int p0), .val (.int p1), .val (.int p2), .val (.int p3), .val (.int (1 : Int32)), .unset, .unset, .unset, .unset, .unset, .unset] [(.int p3)])) (fun _ k => XS.iloadN X0.here hx rfl (hb hby at_16) rfl  k) ?_
    refine Goes.step (T' := s₁) (g' := (mkF m 19 #[.val (.int p0), .val (.int p1), .val (.int p2), .val (.int p3), .val (.int (1 : Int32)), .unset, .unset, .unset, .unset, .unset, .unset] [(.int (18 : Int32)), (.int p3)])) (fun _ k => XS.bipush X0.here hx rfl (hb hby at_17) k) ?_
    refine Goes.step (T' := s₁) (g' := (mkF m 20 #[.val (.int p0), .val (.int p1), .val (.int p2), .val (.int p3), .val (.int (1 : Int32)), .unset, .unset, .unset, .unset, .unset, .unset] [(.int ((p3.toUInt32 >>> ((18 : Int32) &&& 31).toUInt32).toInt32))])) (fun _ k => XS.iushr X0.here hx rfl (hb hby at_19) rfl k) ?_
    refine Goes.step (T' := s₁) (g' := (mkF m 21 #[.val (.int p0), .val (.int p1), .val (.int p2), .val (.int p3), .val (.int (1 : Int32)), .unset, .unset, .unset, .unset, .unset, .unset] [(.int (1 : Int32)), (.int ((p3.toUInt32 >>> ((18 : Int32) &&& 31).toUInt32).toInt32))])) (fun _ k => XS.iconst X0.here hx rfl (hb hby at_20) k) ?_
    refine Goes.step (T' := s₁) (g' := (mkF m 22 #[.val (.int p0), .val (.int p1), .val (.int p2), .val (.int p3), .val (.int (1 : Int32)), .unset, .unset, .unset, .unset, .unset, .unset] [(.int (((p3.toUInt32 >>> ((18 : Int32) &&& 31).toUInt32).toInt32) &&& (1 : Int32)))])) (fun _ k => XS.iand X0.here hx rfl (hb hby at_21) rfl k) ?_
    by_cases hc22_110 : (((p3.toUInt32 >>> ((18 : Int32) &&& 31).toUInt32).toInt32) &&& (1 : Int32)) = (0 : Int32)
    ·
      refine Goes.step (T' := s₁) (g' := (mkF m 29 #[.val (.int p0), .val (.int p1), .val (.int p2), .val (.int p3), .val (.int (1 : Int32)), .unset, .unset, .unset, .unset, .unset, .unset] [])) (fun _ k => XS.ifYes X0.here hx rfl (pc0 := 22) (pc' := 29) rfl (hb hby at_22) rfl ((if0 _ _).trans (teq hc22_110).1) (by decide) (by decide) k) ?_
      refine Goes.step (T' := s₁) (g' := (mkF m 30 #[.val (.int p0), .val (.int p1), .val (.int p2), .val (.int p3), .val (.int (1 : Int32)), .unset, .unset, .unset, .unset, .unset, .unset] [(.int (0 : Int32))])) (fun _ k => XS.iconst X0.here hx rfl (hb hby at_29) k) ?_
      refine Goes.step (T' := s₁) (g' := (mkF m 32 #[.val (.int p0), .val (.int p1), .val (.int p2), .val (.int p3), .val (.int (1 : Int32)), .val (.int (0 : Int32)), .unset, .unset, .unset, .unset, .unset] [])) (fun _ k => XS.istore X0.here hx rfl (hb hby at_30) rfl (l' := #[.val (.int p0), .val (.int p1), .val (.int p2), .val (.int p3), .val (.int (1 : Int32)), .val (.int (0 : Int32)), .unset, .unset, .unset, .unset, .unset]) rfl k) ?_
      refine Goes.step (T' := s₁) (g' := (mkF m 34 #[.val (.int p0), .val (.int p1), .val (.int p2), .val (.int p3), .val (.int (1 : Int32)), .val (.int (0 : Int32)), .unset, .unset, .unset, .unset, .unset] [(.int (1 : Int32))])) (fun _ k => XS.iload X0.here hx rfl (hb hby at_32) rfl  k) ?_
      refine Goes.step (T' := s₁) (g' := (mkF m 37 #[.val (.int p0), .val (.int p1), .val (.int p2), .val (.int p3), .val (.int (1 : Int32)), .val (.int (0 : Int32)), .unset, .unset, .unset, .unset, .unset] [])) (fun _ k => XS.ifNo X0.here hx rfl (hb hby at_34) rfl ((if0 _ _).trans (feq (by decide : ¬ ((1 : Int32) = (0 : Int32)))).1) k) ?_
      refine Goes.step (T' := s₁) (g' := (mkF m 38 #[.val (.int p0), .val (.int p1), .val (.int p2), .val (.int p3), .val (.int (1 : Int32)), .val (.int (0 : Int32)), .unset, .unset, .unset, .unset, .unset] [.null])) (fun _ k => XS.aconstNull X0.here hx rfl (hb hby at_37) k) ?_
      refine Goes.step (T' := s₁) (g' := (mkF m 45 #[.val (.int p0), .val (.int p1), .val (.int p2), .val (.int p3), .val (.int (1 : Int32)), .val (.int (0 : Int32)), .unset, .unset, .unset, .unset, .unset] [.null])) (fun _ k => XS.goto X0.here hx rfl (pc0 := 38) (pc' := 45) rfl (hb hby at_38) (by decide) (by decide) k) ?_
      refine Goes.step (T' := s₁) (g' := (mkF m 47 #[.val (.int p0), .val (.int p1), .val (.int p2), .val (.int p3), .val (.int (1 : Int32)), .val (.int (0 : Int32)), .val .null, .unset, .unset, .unset, .unset] [])) (fun _ k => XS.astore X0.here hx rfl (hb hby at_45) rfl rfl (l' := #[.val (.int p0), .val (.int p1), .val (.int p2), .val (.int p3), .val (.int (1 : Int32)), .val (.int (0 : Int32)), .val .null, .unset, .unset, .unset, .unset]) rfl k) ?_
      refine Goes.step (T' := s₁) (g' := (mkF m 49 #[.val (.int p0), .val (.int p1), .val (.int p2), .val (.int p3), .val (.int (1 : Int32)), .val (.int (0 : Int32)), .val .null, .unset, .unset, .unset, .unset] [(.int (0 : Int32))])) (fun _ k => XS.iload X0.here hx rfl (hb hby at_47) rfl  k) ?_
      refine Goes.step (T' := s₁) (g' := (mkF m 56 #[.val (.int p0), .val (.int p1), .val (.int p2), .val (.int p3), .val (.int (1 : Int32)), .val (.int (0 : Int32)), .val .null, .unset, .unset, .unset, .unset] [])) (fun _ k => XS.ifYes X0.here hx rfl (pc0 := 49) (pc' := 56) rfl (hb hby at_49) rfl ((if0 _ _).trans (teq (by decide : ((0 : Int32) = (0 : Int32)))).1) (by decide) (by decide) k) ?_
      refine Goes.step (T' := s₁) (g' := (mkF m 57 #[.val (.int p0), .val (.int p1), .val (.int p2), .val (.int p3), .val (.int (1 : Int32)), .val (.int (0 : Int32)), .val .null, .unset, .unset, .unset, .unset] [(.int p3)])) (fun _ k => XS.iloadN X0.here hx rfl (hb hby at_56) rfl  k) ?_
      obtain ⟨_, _, ⟨T111, L111, k111, n111⟩, -, X111, hS111, hgr111, ⟨Lc111, hQ111, l111, y111, z111, Ch111⟩, st111⟩ := callSS X0 hx (y := (⟨"com/example/wardkey/wardkey/policy/CodeOverlapsPinLaw", "text", "(I)Ljava/lang/String;"⟩ : MethodName)) hown (mvT hZ (hw _ (List.mem_of_getElem? (i := 0) rfl))) (mvT hZ (hw _ (List.mem_of_getElem? (i := 1) rfl))) (mvT hZ (hw _ (List.mem_of_getElem? (i := 2) rfl))) (mvT hZ (hw _ (List.mem_of_getElem? (i := 3) rfl))) (by decide) (backOfSH (W := 0) (rm_text l Z a0 hw [] hEL p3 h0 n0 O0 zcs Scs hz_Scs ) hZ (hw _ (List.mem_of_getElem? (i := 3) rfl)) (hw _ (List.mem_of_getElem? (i := 2) rfl)) (by decide) (by decide) hEL C0.1) (g := (mkF m 57 #[.val (.int p0), .val (.int p1), .val (.int p2), .val (.int p3), .val (.int (1 : Int32)), .val (.int (0 : Int32)), .val .null, .unset, .unset, .unset, .unset] [(.int p3)])) rfl (by rw [hml]; rfl) (argsL := [(.int p3)]) (rest := []) (lenOf pd_8 rfl) rfl (by show 2 * 0 + _ ≤ _; exact Nat.le_of_eq rfl) (hb hby at_57) (fun _ _ => ⟨rfl, e0, (by decide : 0 + 6 ≤ _), (by decide : 0 + 12 ≤ _)⟩)
      dsimp only [Pt.U, Pt.locs, Pt.cells, Pt.slots] at X111 l111 y111 z111 st111 hQ111 hS111 hgr111 Ch111
      subst l111 y111 z111
      obtain ⟨h111, e111⟩ : ∃ z, T111.heap = z := ⟨_, rfl⟩
      rw [e111] at hQ111 Ch111
      obtain ⟨b_111, rfl, Nq111, Kq111, fr111_b_111, E_b_111_q111, G_b_111_q111⟩ := hQ111
      replace N0 := Fr.app N0 Nq111
      have g_b_111 : n0 ≤ b_111 := Nat.le_trans (own_n0 O0) fr111_b_111
      have sz_b_111 : h0.size ≤ b_111 := Nat.le_trans K0.1 fr111_b_111
      replace C0 := C0.trans Ch111
      replace O0 := O0.keep Kq111 all0
      replace K0 := K0.trans Kq111 all0
      have E_b_111 := E_b_111_q111
      have G_b_111 := G_b_111_q111
      obtain ⟨X111, hS111, hZ111, hown111⟩ := rebS hS0 (by rw [e0]; exact hk0) X111 hS111 hgr111 hZ hown
      rw [e111] at hS111
      clear hS0 hk0 hZ hown
      have hS0 := hS111
      have hk0 : h111.size ≤ h111.size := Nat.le_refl _
      have hZ := hZ111
      have hown := hown111
      refine Goes.run (T' := T111) (g' := (mkF m 60 #[.val (.int p0), .val (.int p1), .val (.int p2), .val (.int p3), .val (.int (1 : Int32)), .val (.int (0 : Int32)), .val .null, .unset, .unset, .unset, .unset] [(.ref b_111)])) st111 ?_
      refine Goes.step (T' := T111) (g' := (mkF m 62 #[.val (.int p0), .val (.int p1), .val (.int p2), .val (.int p3), .val (.int (1 : Int32)), .val (.int (0 : Int32)), .val .null, .val (.ref b_111), .unset, .unset, .unset] [])) (fun _ k => XS.astore X111.here hx rfl (hb hby at_60) rfl rfl (l' := #[.val (.int p0), .val (.int p1), .val (.int p2), .val (.int p3), .val (.int (1 : Int32)), .val (.int (0 : Int32)), .val .null, .val (.ref b_111), .unset, .unset, .unset]) rfl k) ?_
      obtain ⟨T112, h112, X112, e112, Ex112, A112, D112, -, st112⟩ := newO X111 hx hZ hown (hw _ (List.mem_of_getElem? (i := 33) rfl)) (hw _ (List.mem_of_getElem? (i := 34) rfl)) (hw _ (List.mem_of_getElem? (i := 35) rfl)) e111 (g := (mkF m 62 #[.val (.int p0), .val (.int p1), .val (.int p2), .val (.int p3), .val (.int (1 : Int32)), .val (.int (0 : Int32)), .val .null, .val (.ref b_111), .unset, .unset, .unset] [])) rfl (hb hby at_62) (by decide) (by decide)
      obtain ⟨b112, gg112⟩ : ∃ z, z = h111.size := ⟨_, rfl⟩
      rw [← gg112] at A112 D112 st112
      have g_b112 : n0 ≤ b112 := Nat.le_trans (own_n0 O0) (Nat.le_of_eq gg112.symm)
      have sz_b112 : h0.size ≤ b112 := Nat.le_trans K0.1 (Nat.le_of_eq gg112.symm)
      have ne_b_111_b112 : b_111 ≠ b112 := Nat.ne_of_lt (Nat.lt_of_lt_of_le E_b_111.lt (Nat.le_of_eq gg112.symm))
      have S_b112 := (Safe.new (Z := Z) (EL := EL) (vm := T111.vm) (Nat.le_of_eq gg112.symm)).ext Ex112 C0.1
      replace E_b_111 := E_b_111.ext Ex112
      replace G_b_111 := G_b_111.ext Ex112
      replace O0 := O0.ext Ex112
      replace K0 := K0.ext Ex112
      replace C0 := C0.trans (CHr.ext Ex112 C0.1)
      replace hk0 := Nat.le_trans hk0 Ex112.1
      have E_b112 := A112
      have F_b112_system : Fld Z h112 b112 "com/example/wardkey/wardkey/policy/Code" "system" "Ljava/lang/String;" .null := D112 (Or.inr (hw _ (List.mem_of_getElem? (i := 51) rfl))) (ty := (.object "java/lang/String")) (by decide)
      have F_b112_code : Fld Z h112 b112 "com/example/wardkey/wardkey/policy/Code" "code" "Ljava/lang/String;" .null := D112 (Or.inr (hw _ (List.mem_of_getElem? (i := 53) rfl))) (ty := (.object "java/lang/String")) (by decide)
      refine Goes.step (T' := T112) (g' := (mkF m 65 #[.val (.int p0), .val (.int p1), .val (.int p2), .val (.int p3), .val (.int (1 : Int32)), .val (.int (0 : Int32)), .val .null, .val (.ref b_111), .unset, .unset, .unset] [(.ref b112)])) st112 ?_
      clear D112 A112
      refine Goes.step (T' := T112) (g' := (mkF m 66 #[.val (.int p0), .val (.int p1), .val (.int p2), .val (.int p3), .val (.int (1 : Int32)), .val (.int (0 : Int32)), .val .null, .val (.ref b_111), .unset, .unset, .unset] [(.ref b112), (.ref b112)])) (fun _ k => XS.dup X112.here hx rfl (hb hby at_65) rfl rfl k) ?_
      refine Goes.step (T' := T112) (g' := (mkF m 68 #[.val (.int p0), .val (.int p1), .val (.int p2), .val (.int p3), .val (.int (1 : Int32)), .val (.int (0 : Int32)), .val .null, .val (.ref b_111), .unset, .unset, .unset] [.null, (.ref b112), (.ref b112)])) (fun _ k => XS.aload X112.here hx rfl (hb hby at_66) rfl rfl k) ?_
      refine Goes.step (T' := T112) (g' := (mkF m 69 #[.val (.int p0), .val (.int p1), .val (.int p2), .val (.int p3), .val (.int (1 : Int32)), .val (.int (0 : Int32)), .val .null, .val (.ref b_111), .unset, .unset, .unset] [(.int p0), .null, (.ref b112), (.ref b112)])) (fun _ k => XS.iloadN X112.here hx rfl (hb hby at_68) rfl  k) ?_
      obtain ⟨_, _, ⟨T113, L113, k113, n113⟩, -, X113, hS113, hgr113, ⟨Lc113, hQ113, l113, y113, z113, Ch113⟩, st113⟩ := callSS X112 hx (y := (⟨"com/example/wardkey/wardkey/policy/CodeOverlapsPinLaw", "text", "(I)Ljava/lang/String;"⟩ : MethodName)) hown (mvT hZ (hw _ (List.mem_of_getElem? (i := 0) rfl))) (mvT hZ (hw _ (List.mem_of_getElem? (i := 1) rfl))) (mvT hZ (hw _ (List.mem_of_getElem? (i := 2) rfl))) (mvT hZ (hw _ (List.mem_of_getElem? (i := 3) rfl))) (by decide) (backOfSH (W := 3) (rm_text l Z a0 hw [] hEL p0 h112 n0 O0 zcs Scs hz_Scs ) hZ (hw _ (List.mem_of_getElem? (i := 3) rfl)) (hw _ (List.mem_of_getElem? (i := 2) rfl)) (by decide) (by decide) hEL C0.1) (g := (mkF m 69 #[.val (.int p0), .val (.int p1), .val (.int p2), .val (.int p3), .val (.int (1 : Int32)), .val (.int (0 : Int32)), .val .null, .val (.ref b_111), .unset, .unset, .unset] [(.int p0), .null, (.ref b112), (.ref b112)])) rfl (by rw [hml]; rfl) (argsL := [(.int p0)]) (rest := [.null, (.ref b112), (.ref b112)]) (lenOf pd_8 rfl) rfl (by show 2 * 0 + _ ≤ _; exact Nat.le_of_eq rfl) (hb hby at_69) (fun _ _ => ⟨rfl, e112, (by decide : 7 + 6 ≤ _), (by decide : 14 + 12 ≤ _)⟩)
      dsimp only [Pt.U, Pt.locs, Pt.cells, Pt.slots] at X113 l113 y113 z113 st113 hQ113 hS113 hgr113 Ch113
      subst l113 y113 z113
      obtain ⟨h113, e113⟩ : ∃ z, T113.heap = z := ⟨_, rfl⟩
      rw [e113] at hQ113 Ch113
      obtain ⟨b_113, rfl, Nq113, Kq113, fr113_b_113, E_b_113_q113, G_b_113_q113⟩ := hQ113
      replace N0 := Fr.app N0 Nq113
      have g_b_113 : n0 ≤ b_113 := Nat.le_trans (own_n0 O0) fr113_b_113
      have sz_b_113 : h0.size ≤ b_113 := Nat.le_trans K0.1 fr113_b_113
      have ne_b_111_b_113 : b_111 ≠ b_113 := Nat.ne_of_lt (Nat.lt_of_lt_of_le E_b_111.lt fr113_b_113)
      have ne_b112_b_113 : b112 ≠ b_113 := Nat.ne_of_lt (Nat.lt_of_lt_of_le E_b112.lt fr113_b_113)
      replace S_b112 := Ch113.safe E_b112.lt S_b112
      replace C0 := C0.trans Ch113
      replace G_b_111 := G_b_111.ext (own_kext Kq113)
      replace E_b_111 := E_b_111.keep Kq113
      replace E_b112 := E_b112.keep Kq113
      replace F_b112_system := F_b112_system.keep Kq113 nin0
      replace F_b112_code := F_b112_code.keep Kq113 nin0
      replace O0 := O0.keep Kq113 all0
      replace K0 := K0.trans Kq113 all0
      have E_b_113 := E_b_113_q113
      have G_b_113 := G_b_113_q113
      obtain ⟨X113, hS113, hZ113, hown113⟩ := rebS hS0 (by rw [e112]; exact hk0) X113 hS113 hgr113 hZ hown
      rw [e113] at hS113
      clear hS0 hk0 hZ hown
      have hS0 := hS113
      have hk0 : h113.size ≤ h113.size := Nat.le_refl _
      have hZ := hZ113
      have hown := hown113
      refine Goes.run (T' := T113) (g' := (mkF m 72 #[.val (.int p0), .val (.int p1), .val (.int p2), .val (.int p3), .val (.int (1 : Int32)), .val (.int (0 : Int32)), .val .null, .val (.ref b_111), .unset, .unset, .unset] [(.ref b_113), .null, (.ref b112), (.ref b112)])) st113 ?_
      obtain ⟨_, _, ⟨T114, L114, k114, n114⟩, -, X114, hS114, hgr114, ⟨Lc114, hQ114, l114, y114, z114, Ch114⟩, st114⟩ := X113.specialBackS hx (y := (⟨"com/example/wardkey/wardkey/policy/Code", "<init>", "(Ljava/lang/String;Ljava/lang/String;)V"⟩ : MethodName)) rfl hown (mvT hZ (hw _ (List.mem_of_getElem? (i := 36) rfl))) (mvT hZ (hw _ (List.mem_of_getElem? (i := 37) rfl))) (mvT hZ (hw _ (List.mem_of_getElem? (i := 38) rfl))) (by decide) (backOfSH (W := 1) (rm_codeInit l Z a0 hw [] hEL b112 .null rfl b_113 h113 n0 O0  E_b112 F_b112_system F_b112_code g_b112) hZ (hw _ (List.mem_of_getElem? (i := 38) rfl)) (hw _ (List.mem_of_getElem? (i := 35) rfl)) (by decide) (by decide) hEL C0.1) (g := (mkF m 72 #[.val (.int p0), .val (.int p1), .val (.int p2), .val (.int p3), .val (.int (1 : Int32)), .val (.int (0 : Int32)), .val .null, .val (.ref b_111), .unset, .unset, .unset] [(.ref b_113), .null, (.ref b112), (.ref b112)])) rfl (by rw [hml]; rfl) (Steps.refl _) (a := b112) (argsL := [.null, (.ref b_113)]) (rest := [(.ref b112)]) (lenOf pd_9 rfl) rfl (by show 2 * 0 + _ ≤ _; exact Nat.le_of_eq rfl) (hb hby at_72) (fun _ _ => ⟨rfl, e113, (by decide : 13 + 2 ≤ _), (by decide : 26 + 20 ≤ _)⟩)
      dsimp only [Pt.U, Pt.locs, Pt.cells, Pt.slots] at X114 l114 y114 z114 st114 hQ114 hS114 hgr114 Ch114
      subst l114 y114 z114
      obtain ⟨h114, e114⟩ : ∃ z, T114.heap = z := ⟨_, rfl⟩
      rw [e114] at hQ114 Ch114
      obtain ⟨rfl, Nq114, Kq114, E_b112_q114, F_b112_system_q114, F_b112_code_q114⟩ := hQ114
      replace N0 := Fr.app N0 Nq114
      replace S_b112 := Ch114.safe E_b112.lt S_b112
      replace C0 := C0.trans Ch114
      replace G_b_111 := G_b_111.keepE Kq114 E_b112 (by decide) (hw _ (List.mem_of_getElem? (i := 34) rfl))
      replace G_b_113 := G_b_113.keepE Kq114 E_b112 (by decide) (hw _ (List.mem_of_getElem? (i := 34) rfl))
      replace E_b_111 := E_b_111.keep Kq114
      clear E_b112
      clear F_b112_system
      clear F_b112_code
      replace E_b_113 := E_b_113.keep Kq114
      replace O0 := O0.keep Kq114 (allS g_b112 all0)
      replace K0 := K0.trans Kq114 (allS (Or.inr sz_b112) all0)
      have E_b112 := E_b112_q114
      have F_b112_system := F_b112_system_q114
      have F_b112_code := F_b112_code_q114
      obtain ⟨X114, hS114, hZ114, hown114⟩ := rebS hS0 (by rw [e113]; exact hk0) X114 hS114 hgr114 hZ hown
      rw [e114] at hS114
      clear hS0 hk0 hZ hown
      have hS0 := hS114
      have hk0 : h114.size ≤ h114.size := Nat.le_refl _
      have hZ := hZ114
      have hown := hown114
      refine Goes.run (T' := T114) (g' := (mkF m 75 #[.val (.int p0), .val (.int p1), .val (.int p2), .val (.int p3), .val (.int (1 : Int32)), .val (.int (0 : Int32)), .val .null, .val (.ref b_111), .unset, .unset, .unset] [(.ref b112)])) st114 ?_
      refine Goes.step (T' := T114) (g' := (mkF m 77 #[.val (.int p0), .val (.int p1), .val (.int p2), .val (.int p3), .val (.int (1 : Int32)), .val (.int (0 : Int32)), .val .null, .val (.ref b_111), .val (.ref b112), .unset, .unset] [])) (fun _ k => XS.astore X114.here hx rfl (hb hby at_75) rfl rfl (l' := #[.val (.int p0), .val (.int p1), .val (.int p2), .val (.int p3), .val (.int (1 : Int32)), .val (.int (0 : Int32)), .val .null, .val (.ref b_111), .val (.ref b112), .unset, .unset]) rfl k) ?_
      obtain ⟨T115, h115, X115, e115, Ex115, A115, D115, -, st115⟩ := newO X114 hx hZ hown (hw _ (List.mem_of_getElem? (i := 33) rfl)) (hw _ (List.mem_of_getElem? (i := 34) rfl)) (hw _ (List.mem_of_getElem? (i := 35) rfl)) e114 (g := (mkF m 77 #[.val (.int p0), .val (.int p1), .val (.int p2), .val (.int p3), .val (.int (1 : Int32)), .val (.int (0 : Int32)), .val .null, .val (.ref b_111), .val (.ref b112), .unset, .unset] [])) rfl (hb hby at_77) (by decide) (by decide)
      obtain ⟨b115, gg115⟩ : ∃ z, z = h114.size := ⟨_, rfl⟩
      rw [← gg115] at A115 D115 st115
      have g_b115 : n0 ≤ b115 := Nat.le_trans (own_n0 O0) (Nat.le_of_eq gg115.symm)
      have sz_b115 : h0.size ≤ b115 := Nat.le_trans K0.1 (Nat.le_of_eq gg115.symm)
      have ne_b_111_b115 : b_111 ≠ b115 := Nat.ne_of_lt (Nat.lt_of_lt_of_le E_b_111.lt (Nat.le_of_eq gg115.symm))
      have ne_b_113_b115 : b_113 ≠ b115 := Nat.ne_of_lt (Nat.lt_of_lt_of_le E_b_113.lt (Nat.le_of_eq gg115.symm))
      have ne_b112_b115 : b112 ≠ b115 := Nat.ne_of_lt (Nat.lt_of_lt_of_le E_b112.lt (Nat.le_of_eq gg115.symm))
      have S_b115 := (Safe.new (Z := Z) (EL := EL) (vm := T114.vm) (Nat.le_of_eq gg115.symm)).ext Ex115 C0.1
      replace S_b112 := S_b112.ext Ex115 C0.1
      replace E_b_111 := E_b_111.ext Ex115
      replace G_b_111 := G_b_111.ext Ex115
      replace E_b_113 := E_b_113.ext Ex115
      replace G_b_113 := G_b_113.ext Ex115
      replace E_b112 := E_b112.ext Ex115
      replace F_b112_system := F_b112_system.ext Ex115
      replace F_b112_code := F_b112_code.ext Ex115
      replace O0 := O0.ext Ex115
      replace K0 := K0.ext Ex115
      replace C0 := C0.trans (CHr.ext Ex115 C0.1)
      replace hk0 := Nat.le_trans hk0 Ex115.1
      have E_b115 := A115
      have F_b115_system : Fld Z h115 b115 "com/example/wardkey/wardkey/policy/Code" "system" "Ljava/lang/String;" .null := D115 (Or.inr (hw _ (List.mem_of_getElem? (i := 51) rfl))) (ty := (.object "java/lang/String")) (by decide)
      have F_b115_code : Fld Z h115 b115 "com/example/wardkey/wardkey/policy/Code" "code" "Ljava/lang/String;" .null := D115 (Or.inr (hw _ (List.mem_of_getElem? (i := 53) rfl))) (ty := (.object "java/lang/String")) (by decide)
      refine Goes.step (T' := T115) (g' := (mkF m 80 #[.val (.int p0), .val (.int p1), .val (.int p2), .val (.int p3), .val (.int (1 : Int32)), .val (.int (0 : Int32)), .val .null, .val (.ref b_111), .val (.ref b112), .unset, .unset] [(.ref b115)])) st115 ?_
      clear D115 A115
      refine Goes.step (T' := T115) (g' := (mkF m 81 #[.val (.int p0), .val (.int p1), .val (.int p2), .val (.int p3), .val (.int (1 : Int32)), .val (.int (0 : Int32)), .val .null, .val (.ref b_111), .val (.ref b112), .unset, .unset] [(.ref b115), (.ref b115)])) (fun _ k => XS.dup X115.here hx rfl (hb hby at_80) rfl rfl k) ?_
      refine Goes.step (T' := T115) (g' := (mkF m 83 #[.val (.int p0), .val (.int p1), .val (.int p2), .val (.int p3), .val (.int (1 : Int32)), .val (.int (0 : Int32)), .val .null, .val (.ref b_111), .val (.ref b112), .unset, .unset] [(.ref b_111), (.ref b115), (.ref b115)])) (fun _ k => XS.aload X115.here hx rfl (hb hby at_81) rfl rfl k) ?_
      refine Goes.step (T' := T115) (g' := (mkF m 84 #[.val (.int p0), .val (.int p1), .val (.int p2), .val (.int p3), .val (.int (1 : Int32)), .val (.int (0 : Int32)), .val .null, .val (.ref b_111), .val (.ref b112), .unset, .unset] [(.int p1), (.ref b_111), (.ref b115), (.ref b115)])) (fun _ k => XS.iloadN X115.here hx rfl (hb hby at_83) rfl  k) ?_
      obtain ⟨_, _, ⟨T116, L116, k116, n116⟩, -, X116, hS116, hgr116, ⟨Lc116, hQ116, l116, y116, z116, Ch116⟩, st116⟩ := callSS X115 hx (y := (⟨"com/example/wardkey/wardkey/policy/CodeOverlapsPinLaw", "text", "(I)Ljava/lang/String;"⟩ : MethodName)) hown (mvT hZ (hw _ (List.mem_of_getElem? (i := 0) rfl))) (mvT hZ (hw _ (List.mem_of_getElem? (i := 1) rfl))) (mvT hZ (hw _ (List.mem_of_getElem? (i := 2) rfl))) (mvT hZ (hw _ (List.mem_of_getElem? (i := 3) rfl))) (by decide) (backOfSH (W := 3) (rm_text l Z a0 hw [] hEL p1 h115 n0 O0 zcs Scs hz_Scs ) hZ (hw _ (List.mem_of_getElem? (i := 3) rfl)) (hw _ (List.mem_of_getElem? (i := 2) rfl)) (by decide) (by decide) hEL C0.1) (g := (mkF m 84 #[.val (.int p0), .val (.int p1), .val (.int p2), .val (.int p3), .val (.int (1 : Int32)), .val (.int (0 : Int32)), .val .null, .val (.ref b_111), .val (.ref b112), .unset, .unset] [(.int p1), (.ref b_111), (.ref b115), (.ref b115)])) rfl (by rw [hml]; rfl) (argsL := [(.int p1)]) (rest := [(.ref b_111), (.ref b115), (.ref b115)]) (lenOf pd_8 rfl) rfl (by show 2 * 0 + _ ≤ _; exact Nat.le_of_eq rfl) (hb hby at_84) (fun _ _ => ⟨rfl, e115, (by decide : 16 + 6 ≤ _), (by decide : 48 + 12 ≤ _)⟩)
      dsimp only [Pt.U, Pt.locs, Pt.cells, Pt.slots] at X116 l116 y116 z116 st116 hQ116 hS116 hgr116 Ch116
      subst l116 y116 z116
      obtain ⟨h116, e116⟩ : ∃ z, T116.heap = z := ⟨_, rfl⟩
      rw [e116] at hQ116 Ch116
      obtain ⟨b_116, rfl, Nq116, Kq116, fr116_b_116, E_b_116_q116, G_b_116_q116⟩ := hQ116
      replace N0 := Fr.app N0 Nq116
      have g_b_116 : n0 ≤ b_116 := Nat.le_trans (own_n0 O0) fr116_b_116
      have sz_b_116 : h0.size ≤ b_116 := Nat.le_trans K0.1 fr116_b_116
      have ne_b_111_b_116 : b_111 ≠ b_116 := Nat.ne_of_lt (Nat.lt_of_lt_of_le E_b_111.lt fr116_b_116)
      have ne_b_113_b_116 : b_113 ≠ b_116 := Nat.ne_of_lt (Nat.lt_of_lt_of_le E_b_113.lt fr116_b_116)
      have ne_b112_b_116 : b112 ≠ b_116 := Nat.ne_of_lt (Nat.lt_of_lt_of_le E_b112.lt fr116_b_116)
      have ne_b115_b_116 : b115 ≠ b_116 := Nat.ne_of_lt (Nat.lt_of_lt_of_le E_b115.lt fr116_b_116)
      replace S_b112 := Ch116.safe E_b112.lt S_b112
      replace S_b115 := Ch116.safe E_b115.lt S_b115
      replace C0 := C0.trans Ch116
      replace G_b_111 := G_b_111.ext (own_kext Kq116)
      replace G_b_113 := G_b_113.ext (own_kext Kq116)
      replace E_b_111 := E_b_111.keep Kq116
      replace E_b_113 := E_b_113.keep Kq116
      replace E_b112 := E_b112.keep Kq116
      replace F_b112_system := F_b112_system.keep Kq116 nin0
      replace F_b112_code := F_b112_code.keep Kq116 nin0
      replace E_b115 := E_b115.keep Kq116
      replace F_b115_system := F_b115_system.keep Kq116 nin0
      replace F_b115_code := F_b115_code.keep Kq116 nin0
      replace O0 := O0.keep Kq116 all0
      replace K0 := K0.trans Kq116 all0
      have E_b_116 := E_b_116_q116
      have G_b_116 := G_b_116_q116
      obtain ⟨X116, hS116, hZ116, hown116⟩ := rebS hS0 (by rw [e115]; exact hk0) X116 hS116 hgr116 hZ hown
      rw [e116] at hS116
      clear hS0 hk0 hZ hown
      have hS0 := hS116
      have hk0 : h116.size ≤ h116.size := Nat.le_refl _
      have hZ := hZ116
      have hown := hown116
      refine Goes.run (T' := T116) (g' := (mkF m 87 #[.val (.int p0), .val (.int p1), .val (.int p2), .val (.int p3), .val (.int (1 : Int32)), .val (.int (0 : Int32)), .val .null, .val (.ref b_111), .val (.ref b112), .unset, .unset] [(.ref b_116), (.ref b_111), (.ref b115), (.ref b115)])) st116 ?_
      obtain ⟨_, _, ⟨T117, L117, k117, n117⟩, -, X117, hS117, hgr117, ⟨Lc117, hQ117, l117, y117, z117, Ch117⟩, st117⟩ := X116.specialBackS hx (y := (⟨"com/example/wardkey/wardkey/policy/Code", "<init>", "(Ljava/lang/String;Ljava/lang/String;)V"⟩ : MethodName)) rfl hown (mvT hZ (hw _ (List.mem_of_getElem? (i := 36) rfl))) (mvT hZ (hw _ (List.mem_of_getElem? (i := 37) rfl))) (mvT hZ (hw _ (List.mem_of_getElem? (i := 38) rfl))) (by decide) (backOfSH (W := 1) (rm_codeInit l Z a0 hw [] hEL b115 (.ref b_111) rfl b_116 h116 n0 O0  E_b115 F_b115_system F_b115_code g_b115) hZ (hw _ (List.mem_of_getElem? (i := 38) rfl)) (hw _ (List.mem_of_getElem? (i := 35) rfl)) (by decide) (by decide) hEL C0.1) (g := (mkF m 87 #[.val (.int p0), .val (.int p1), .val (.int p2), .val (.int p3), .val (.int (1 : Int32)), .val (.int (0 : Int32)), .val .null, .val (.ref b_111), .val (.ref b112), .unset, .unset] [(.ref b_116), (.ref b_111), (.ref b115), (.ref b115)])) rfl (by rw [hml]; rfl) (Steps.refl _) (a := b115) (argsL := [(.ref b_111), (.ref b_116)]) (rest := [(.ref b115)]) (lenOf pd_9 rfl) rfl (by show 2 * 0 + _ ≤ _; exact Nat.le_of_eq rfl) (hb hby at_87) (fun _ _ => ⟨rfl, e116, (by decide : 22 + 2 ≤ _), (by decide : 60 + 20 ≤ _)⟩)
      dsimp only [Pt.U, Pt.locs, Pt.cells, Pt.slots] at X117 l117 y117 z117 st117 hQ117 hS117 hgr117 Ch117
      subst l117 y117 z117
      obtain ⟨h117, e117⟩ : ∃ z, T117.heap = z := ⟨_, rfl⟩
      rw [e117] at hQ117 Ch117
      obtain ⟨rfl, Nq117, Kq117, E_b115_q117, F_b115_system_q117, F_b115_code_q117⟩ := hQ117
      replace N0 := Fr.app N0 Nq117
      replace S_b112 := Ch117.safe E_b112.lt S_b112
      replace S_b115 := Ch117.safe E_b115.lt S_b115
      replace C0 := C0.trans Ch117
      replace G_b_111 := G_b_111.keepE Kq117 E_b115 (by decide) (hw _ (List.mem_of_getElem? (i := 34) rfl))
      replace G_b_113 := G_b_113.keepE Kq117 E_b115 (by decide) (hw _ (List.mem_of_getElem? (i := 34) rfl))
      replace G_b_116 := G_b_116.keepE Kq117 E_b115 (by decide) (hw _ (List.mem_of_getElem? (i := 34) rfl))
      replace E_b_111 := E_b_111.keep Kq117
      replace E_b_113 := E_b_113.keep Kq117
      replace E_b112 := E_b112.keep Kq117
      replace F_b112_system := F_b112_system.keep Kq117 (ninS ne_b112_b115 nin0)
      replace F_b112_code := F_b112_code.keep Kq117 (ninS ne_b112_b115 nin0)
      clear E_b115
      clear F_b115_system
      clear F_b115_code
      replace E_b_116 := E_b_116.keep Kq117
      replace O0 := O0.keep Kq117 (allS g_b115 all0)
      replace K0 := K0.trans Kq117 (allS (Or.inr sz_b115) all0)
      have E_b115 := E_b115_q117
      have F_b115_system := F_b115_system_q117
      have F_b115_code := F_b115_code_q117
      obtain ⟨X117, hS117, hZ117, hown117⟩ := rebS hS0 (by rw [e116]; exact hk0) X117 hS117 hgr117 hZ hown
      rw [e117] at hS117
      clear hS0 hk0 hZ hown
      have hS0 := hS117
      have hk0 : h117.size ≤ h117.size := Nat.le_refl _
      have hZ := hZ117
      have hown := hown117
      refine Goes.run (T' := T117) (g' := (mkF m 90 #[.val (.int p0), .val (.int p1), .val (.int p2), .val (.int p3), .val (.int (1 : Int32)), .val (.int (0 : Int32)), .val .null, .val (.ref b_111), .val (.ref b112), .unset, .unset] [(.ref b115)])) st117 ?_
      refine Goes.step (T' := T117) (g' := (mkF m 92 #[.val (.int p0), .val (.int p1), .val (.int p2), .val (.int p3), .val (.int (1 : Int32)), .val (.int (0 : Int32)), .val .null, .val (.ref b_111), .val (.ref b112), .val (.ref b115), .unset] [])) (fun _ k => XS.astore X117.here hx rfl (hb hby at_90) rfl rfl (l' := #[.val (.int p0), .val (.int p1), .val (.int p2), .val (.int p3), .val (.int (1 : Int32)), .val (.int (0 : Int32)), .val .null, .val (.ref b_111), .val (.ref b112), .val (.ref b115), .unset]) rfl k) ?_
      refine Goes.step (T' := T117) (g' := (mkF m 93 #[.val (.int p0), .val (.int p1), .val (.int p2), .val (.int p3), .val (.int (1 : Int32)), .val (.int (0 : Int32)), .val .null, .val (.ref b_111), .val (.ref b112), .val (.ref b115), .unset] [(.int p0)])) (fun _ k => XS.iloadN X117.here hx rfl (hb hby at_92) rfl  k) ?_
      refine Goes.step (T' := T117) (g' := (mkF m 94 #[.val (.int p0), .val (.int p1), .val (.int p2), .val (.int p3), .val (.int (1 : Int32)), .val (.int (0 : Int32)), .val .null, .val (.ref b_111), .val (.ref b112), .val (.ref b115), .unset] [(.int p1), (.int p0)])) (fun _ k => XS.iloadN X117.here hx rfl (hb hby at_93) rfl  k) ?_
      obtain ⟨_, _, ⟨T118, L118, k118, n118⟩, -, X118, ⟨Lc118, hQ118, l118, y118, z118⟩, st118⟩ := Jvm.LawKit.callS X117 hx (y := (⟨"com/example/wardkey/wardkey/policy/CodeOverlapsPinLaw", "same", "(II)Z"⟩ : MethodName)) hown (mvT hZ (hw _ (List.mem_of_getElem? (i := 54) rfl))) (mvT hZ (hw _ (List.mem_of_getElem? (i := 55) rfl))) (mvT hZ (hw _ (List.mem_of_getElem? (i := 2) rfl))) (mvT hZ (hw _ (List.mem_of_getElem? (i := 56) rfl))) (by decide) (backOf (W := 0) (rm_same l Z a0 hw [] p0 p1 h117 n0 O0  ) hZ (hw _ (List.mem_of_getElem? (i := 56) rfl)) (hw _ (List.mem_of_getElem? (i := 2) rfl)) (by decide) (by decide)) (g := (mkF m 94 #[.val (.int p0), .val (.int p1), .val (.int p2), .val (.int p3), .val (.int (1 : Int32)), .val (.int (0 : Int32)), .val .null, .val (.ref b_111), .val (.ref b112), .val (.ref b115), .unset] [(.int p1), (.int p0)])) rfl (by rw [hml]; rfl) (argsL := [(.int p0), (.int p1)]) (rest := []) (lenOf pd_10 rfl) rfl (by show 2 * 0 + _ ≤ _; exact Nat.le_of_eq rfl) (hb hby at_94) (fun _ _ => ⟨rfl, e117, (by decide : 24 + 0 ≤ _), (by decide : 80 + 0 ≤ _)⟩)
      dsimp only [Pt.U, Pt.locs, Pt.cells, Pt.slots] at X118 l118 y118 z118 st118 hQ118
      subst l118 y118 z118
      obtain ⟨rfl, rfl, e118⟩ := hQ118
      replace N0 := Fr.app N0 (Fr.nil n0)
      refine Goes.step (T' := T118) (g' := (mkF m 97 #[.val (.int p0), .val (.int p1), .val (.int p2), .val (.int p3), .val (.int (1 : Int32)), .val (.int (0 : Int32)), .val .null, .val (.ref b_111), .val (.ref b112), .val (.ref b115), .unset] [(.int (if TX p0 = TX p1 then 1 else 0))])) st118 ?_
      by_cases hc97_119 : (if TX p0 = TX p1 then 1 else 0) = (0 : Int32)
      ·
        refine Goes.step (T' := T118) (g' := (mkF m 122 #[.val (.int p0), .val (.int p1), .val (.int p2), .val (.int p3), .val (.int (1 : Int32)), .val (.int (0 : Int32)), .val .null, .val (.ref b_111), .val (.ref b112), .val (.ref b115), .unset] [])) (fun _ k => XS.ifYes X118.here hx rfl (pc0 := 97) (pc' := 122) rfl (hb hby at_97) rfl ((if0 _ _).trans (teq hc97_119).1) (by decide) (by decide) k) ?_
        refine Goes.step (T' := T118) (g' := (mkF m 123 #[.val (.int p0), .val (.int p1), .val (.int p2), .val (.int p3), .val (.int (1 : Int32)), .val (.int (0 : Int32)), .val .null, .val (.ref b_111), .val (.ref b112), .val (.ref b115), .unset] [(.int (0 : Int32))])) (fun _ k => XS.iconst X118.here hx rfl (hb hby at_122) k) ?_
        refine Goes.step (T' := T118) (g' := (mkF m 125 #[.val (.int p0), .val (.int p1), .val (.int p2), .val (.int p3), .val (.int (1 : Int32)), .val (.int (0 : Int32)), .val .null, .val (.ref b_111), .val (.ref b112), .val (.ref b115), .val (.int (0 : Int32))] [])) (fun _ k => XS.istore X118.here hx rfl (hb hby at_123) rfl (l' := #[.val (.int p0), .val (.int p1), .val (.int p2), .val (.int p3), .val (.int (1 : Int32)), .val (.int (0 : Int32)), .val .null, .val (.ref b_111), .val (.ref b112), .val (.ref b115), .val (.int (0 : Int32))]) rfl k) ?_
        refine Goes.step (T' := T118) (g' := (mkF m 127 #[.val (.int p0), .val (.int p1), .val (.int p2), .val (.int p3), .val (.int (1 : Int32)), .val (.int (0 : Int32)), .val .null, .val (.ref b_111), .val (.ref b112), .val (.ref b115), .val (.int (0 : Int32))] [(.ref b112)])) (fun _ k => XS.aload X118.here hx rfl (hb hby at_125) rfl rfl k) ?_
        refine Goes.step (T' := T118) (g' := (mkF m 129 #[.val (.int p0), .val (.int p1), .val (.int p2), .val (.int p3), .val (.int (1 : Int32)), .val (.int (0 : Int32)), .val .null, .val (.ref b_111), .val (.ref b112), .val (.ref b115), .val (.int (0 : Int32))] [(.ref b115), (.ref b112)])) (fun _ k => XS.aload X118.here hx rfl (hb hby at_127) rfl rfl k) ?_
        obtain ⟨cq120, kq120, qa120, qb120, qc120⟩ := isOf hZ e118 E_b112
        obtain ⟨_, _, ⟨T120, L120, k120, n120⟩, -, X120, ⟨Lc120, hQ120, l120, y120, z120⟩, st120⟩ := X118.virtualBack hx (y := (⟨"com/example/wardkey/wardkey/policy/Code", "overlaps", "(Lcom/example/wardkey/wardkey/policy/Code;)Z"⟩ : MethodName)) (z := (⟨"com/example/wardkey/wardkey/policy/Code", "overlaps", "(Lcom/example/wardkey/wardkey/policy/Code;)Z"⟩ : MethodName)) hown (mvT hZ (hw _ (List.mem_of_getElem? (i := 57) rfl))) (mvT hZ (hw _ (List.mem_of_getElem? (i := 58) rfl))) (notFace_of_selects (args := #[]) (mvT hZ (hw _ (List.mem_of_getElem? (i := 60) rfl)))) (mvT hZ (hw _ (List.mem_of_getElem? (i := 60) rfl))) (mvT hZ (hw _ (List.mem_of_getElem? (i := 59) rfl))) (by decide) (backOf (W := 0) (rm_ovNS l Z a0 hw [] b112 b115 b_113 ((TX p0)) b_116 ((TX p1)) b_111 ((TX p3)) h117 n0 O0 zcs Scs hz_Scs F_b112_code F_b115_code E_b_113 G_b_113 E_b_116 G_b_116 F_b112_system F_b115_system E_b_111 G_b_111 (own_TXlen _) (own_TXlen _) (own_TXlen _)) hZ (hw _ (List.mem_of_getElem? (i := 61) rfl)) (hw _ (List.mem_of_getElem? (i := 35) rfl)) (by decide) (by decide)) qa120 qc120 (g := (mkF m 129 #[.val (.int p0), .val (.int p1), .val (.int p2), .val (.int p3), .val (.int (1 : Int32)), .val (.int (0 : Int32)), .val .null, .val (.ref b_111), .val (.ref b112), .val (.ref b115), .val (.int (0 : Int32))] [(.ref b115), (.ref b112)])) rfl (by rw [hml]; rfl) (Steps.refl _) (argsL := [(.ref b115)]) (rest := []) (lenOf pd_11 rfl) rfl (by show 2 * 0 + _ ≤ _; exact Nat.le_of_eq rfl) (hb hby at_129) (fun _ _ => ⟨rfl, e118, (by decide : 24 + 0 ≤ _), (by decide : 80 + 0 ≤ _)⟩)
        dsimp only [Pt.U, Pt.locs, Pt.cells, Pt.slots] at X120 l120 y120 z120 st120 hQ120
        subst l120 y120 z120
        obtain ⟨rfl, rfl, e120⟩ := hQ120
        replace N0 := Fr.app N0 (Fr.nil n0)
        refine Goes.run (T' := T120) (g' := (mkF m 132 #[.val (.int p0), .val (.int p1), .val (.int p2), .val (.int p3), .val (.int (1 : Int32)), .val (.int (0 : Int32)), .val .null, .val (.ref b_111), .val (.ref b112), .val (.ref b115), .val (.int (0 : Int32))] [(.int (if (TX p0) = (TX p1) then 1 else 0))])) st120 ?_
        refine Goes.step (T' := T120) (g' := (mkF m 134 #[.val (.int p0), .val (.int p1), .val (.int p2), .val (.int p3), .val (.int (1 : Int32)), .val (.int (0 : Int32)), .val .null, .val (.ref b_111), .val (.ref b112), .val (.ref b115), .val (.int (0 : Int32))] [(.int (0 : Int32)), (.int (if (TX p0) = (TX p1) then 1 else 0))])) (fun _ k => XS.iload X120.here hx rfl (hb hby at_132) rfl  k) ?_
        refine Goes.step (T' := T120) (g' := (mkF m 137 #[.val (.int p0), .val (.int p1), .val (.int p2), .val (.int p3), .val (.int (1 : Int32)), .val (.int (0 : Int32)), .val .null, .val (.ref b_111), .val (.ref b112), .val (.ref b115), .val (.int (0 : Int32))] [])) (fun _ k => XS.icmpNo X120.here hx rfl (hb hby at_134) rfl (teq (if_neg fun q => (own_if0 hc97_119) q)).2 k) ?_
        refine Goes.step (T' := T120) (g' := (mkF m 139 #[.val (.int p0), .val (.int p1), .val (.int p2), .val (.int p3), .val (.int (1 : Int32)), .val (.int (0 : Int32)), .val .null, .val (.ref b_111), .val (.ref b112), .val (.ref b115), .val (.int (0 : Int32))] [(.ref b115)])) (fun _ k => XS.aload X120.here hx rfl (hb hby at_137) rfl rfl k) ?_
        refine Goes.step (T' := T120) (g' := (mkF m 141 #[.val (.int p0), .val (.int p1), .val (.int p2), .val (.int p3), .val (.int (1 : Int32)), .val (.int (0 : Int32)), .val .null, .val (.ref b_111), .val (.ref b112), .val (.ref b115), .val (.int (0 : Int32))] [(.ref b112), (.ref b115)])) (fun _ k => XS.aload X120.here hx rfl (hb hby at_139) rfl rfl k) ?_
        obtain ⟨cq121, kq121, qa121, qb121, qc121⟩ := isOf hZ e120 E_b115
        obtain ⟨_, _, ⟨T121, L121, k121, n121⟩, -, X121, ⟨Lc121, hQ121, l121, y121, z121⟩, st121⟩ := X120.virtualBack hx (y := (⟨"com/example/wardkey/wardkey/policy/Code", "overlaps", "(Lcom/example/wardkey/wardkey/policy/Code;)Z"⟩ : MethodName)) (z := (⟨"com/example/wardkey/wardkey/policy/Code", "overlaps", "(Lcom/example/wardkey/wardkey/policy/Code;)Z"⟩ : MethodName)) hown (mvT hZ (hw _ (List.mem_of_getElem? (i := 57) rfl))) (mvT hZ (hw _ (List.mem_of_getElem? (i := 58) rfl))) (notFace_of_selects (args := #[]) (mvT hZ (hw _ (List.mem_of_getElem? (i := 60) rfl)))) (mvT hZ (hw _ (List.mem_of_getElem? (i := 60) rfl))) (mvT hZ (hw _ (List.mem_of_getElem? (i := 59) rfl))) (by decide) (backOf (W := 0) (rm_ovSN l Z a0 hw [] b115 b112 b_116 ((TX p1)) b_113 ((TX p0)) b_111 ((TX p3)) h117 n0 O0 zcs Scs hz_Scs F_b115_code F_b112_code E_b_116 G_b_116 E_b_113 G_b_113 F_b115_system E_b_111 G_b_111 F_b112_system (own_TXlen _) (own_TXlen _) (own_TXlen _)) hZ (hw _ (List.mem_of_getElem? (i := 61) rfl)) (hw _ (List.mem_of_getElem? (i := 35) rfl)) (by decide) (by decide)) qa121 qc121 (g := (mkF m 141 #[.val (.int p0), .val (.int p1), .val (.int p2), .val (.int p3), .val (.int (1 : Int32)), .val (.int (0 : Int32)), .val .null, .val (.ref b_111), .val (.ref b112), .val (.ref b115), .val (.int (0 : Int32))] [(.ref b112), (.ref b115)])) rfl (by rw [hml]; rfl) (Steps.refl _) (argsL := [(.ref b112)]) (rest := []) (lenOf pd_11 rfl) rfl (by show 2 * 0 + _ ≤ _; exact Nat.le_of_eq rfl) (hb hby at_141) (fun _ _ => ⟨rfl, e120, (by decide : 24 + 0 ≤ _), (by decide : 80 + 0 ≤ _)⟩)
        dsimp only [Pt.U, Pt.locs, Pt.cells, Pt.slots] at X121 l121 y121 z121 st121 hQ121
        subst l121 y121 z121
        obtain ⟨rfl, rfl, e121⟩ := hQ121
        replace N0 := Fr.app N0 (Fr.nil n0)
        refine Goes.run (T' := T121) (g' := (mkF m 144 #[.val (.int p0), .val (.int p1), .val (.int p2), .val (.int p3), .val (.int (1 : Int32)), .val (.int (0 : Int32)), .val .null, .val (.ref b_111), .val (.ref b112), .val (.ref b115), .val (.int (0 : Int32))] [(.int (if (TX p1) = (TX p0) then 1 else 0))])) st121 ?_
        refine Goes.step (T' := T121) (g' := (mkF m 146 #[.val (.int p0), .val (.int p1), .val (.int p2), .val (.int p3), .val (.int (1 : Int32)), .val (.int (0 : Int32)), .val .null, .val (.ref b_111), .val (.ref b112), .val (.ref b115), .val (.int (0 : Int32))] [(.int (0 : Int32)), (.int (if (TX p1) = (TX p0) then 1 else 0))])) (fun _ k => XS.iload X121.here hx rfl (hb hby at_144) rfl  k) ?_
        refine Goes.step (T' := T121) (g' := (mkF m 149 #[.val (.int p0), .val (.int p1), .val (.int p2), .val (.int p3), .val (.int (1 : Int32)), .val (.int (0 : Int32)), .val .null, .val (.ref b_111), .val (.ref b112), .val (.ref b115), .val (.int (0 : Int32))] [])) (fun _ k => XS.icmpNo X121.here hx rfl (hb hby at_146) rfl (teq (if_neg fun q => (own_if0 hc97_119) q.symm)).2 k) ?_
        refine Goes.step (T' := T121) (g' := (mkF m 150 #[.val (.int p0), .val (.int p1), .val (.int p2), .val (.int p3), .val (.int (1 : Int32)), .val (.int (0 : Int32)), .val .null, .val (.ref b_111), .val (.ref b112), .val (.ref b115), .val (.int (0 : Int32))] [(.int (1 : Int32))])) (fun _ k => XS.iconst X121.here hx rfl (hb hby at_149) k) ?_
        refine Goes.step (T' := T121) (g' := (mkF m 154 #[.val (.int p0), .val (.int p1), .val (.int p2), .val (.int p3), .val (.int (1 : Int32)), .val (.int (0 : Int32)), .val .null, .val (.ref b_111), .val (.ref b112), .val (.ref b115), .val (.int (0 : Int32))] [(.int (1 : Int32))])) (fun _ k => XS.goto X121.here hx rfl (pc0 := 150) (pc' := 154) rfl (hb hby at_150) (by decide) (by decide) k) ?_
        obtain ⟨fs, hr, hrun, hended, hend⟩ := X121.leaveW hS0 (by rw [e121]; exact hk0) (v := some (.int (nar .boolean (1 : Int32)))) (fun h => by rw [Bd.returns] at h; cases h)
        exact ⟨_, _, retN X121 hx (t := .boolean) Bd.returns (by simp) (hb hby at_154) hr, hrun, hended, _, _, rfl, (by show Q_law Z p0 p1 p2 p3 h0 n0 _ T121.heap _; rw [e121]; exact ⟨rfl, N0, K0⟩), (by show CHr Z EL s.vm s.heap T121.vm T121.heap; rw [e121, hh]; exact C0.trans (CHv.at X121 hZ hEL C0.1)), own_mono hend (by decide) (by decide)⟩
      ·
        refine Goes.step (T' := T118) (g' := (mkF m 100 #[.val (.int p0), .val (.int p1), .val (.int p2), .val (.int p3), .val (.int (1 : Int32)), .val (.int (0 : Int32)), .val .null, .val (.ref b_111), .val (.ref b112), .val (.ref b115), .unset] [])) (fun _ k => XS.ifNo X118.here hx rfl (hb hby at_97) rfl ((if0 _ _).trans (feq hc97_119).1) k) ?_
        refine Goes.step (T' := T118) (g' := (mkF m 102 #[.val (.int p0), .val (.int p1), .val (.int p2), .val (.int p3), .val (.int (1 : Int32)), .val (.int (0 : Int32)), .val .null, .val (.ref b_111), .val (.ref b112), .val (.ref b115), .unset] [(.int (1 : Int32))])) (fun _ k => XS.iload X118.here hx rfl (hb hby at_100) rfl  k) ?_
        refine Goes.step (T' := T118) (g' := (mkF m 118 #[.val (.int p0), .val (.int p1), .val (.int p2), .val (.int p3), .val (.int (1 : Int32)), .val (.int (0 : Int32)), .val .null, .val (.ref b_111), .val (.ref b112), .val (.ref b115), .unset] [])) (fun _ k => XS.ifYes X118.here hx rfl (pc0 := 102) (pc' := 118) rfl (hb hby at_102) rfl ((if0 _ _).trans (feq (by decide : ¬ ((1 : Int32) = (0 : Int32)))).2) (by decide) (by decide) k) ?_
        refine Goes.step (T' := T118) (g' := (mkF m 119 #[.val (.int p0), .val (.int p1), .val (.int p2), .val (.int p3), .val (.int (1 : Int32)), .val (.int (0 : Int32)), .val .null, .val (.ref b_111), .val (.ref b112), .val (.ref b115), .unset] [(.int (1 : Int32))])) (fun _ k => XS.iconst X118.here hx rfl (hb hby at_118) k) ?_
        refine Goes.step (T' := T118) (g' := (mkF m 123 #[.val (.int p0), .val (.int p1), .val (.int p2), .val (.int p3), .val (.int (1 : Int32)), .val (.int (0 : Int32)), .val .null, .val (.ref b_111), .val (.ref b112), .val (.ref b115), .unset] [(.int (1 : Int32))])) (fun _ k => XS.goto X118.here hx rfl (pc0 := 119) (pc' := 123) rfl (hb hby at_119) (by decide) (by decide) k) ?_
        refine Goes.step (T' := T118) (g' := (mkF m 125 #[.val (.int p0), .val (.int p1), .val (.int p2), .val (.int p3), .val (.int (1 : Int32)), .val (.int (0 : Int32)), .val .null, .val (.ref b_111), .val (.ref b112), .val (.ref b115), .val (.int (1 : Int32))] [])) (fun _ k => XS.istore X118.here hx rfl (hb hby at_123) rfl (l' := #[.val (.int p0), .val (.int p1), .val (.int p2), .val (.int p3), .val (.int (1 : Int32)), .val (.int (0 : Int32)), .val .null, .val (.ref b_111), .val (.ref b112), .val (.ref b115), .val (.int (1 : Int32))]) rfl k) ?_
        refine Goes.step (T' := T118) (g' := (mkF m 127 #[.val (.int p0), .val (.int p1), .val (.int p2), .val (.int p3), .val (.int (1 : Int32)), .val (.int (0 : Int32)), .val .null, .val (.ref b_111), .val (.ref b112), .val (.ref b115), .val (.int (1 : Int32))] [(.ref b112)])) (fun _ k => XS.aload X118.here hx rfl (hb hby at_125) rfl rfl k) ?_
        refine Goes.step (T' := T118) (g' := (mkF m 129 #[.val (.int p0), .val (.int p1), .val (.int p2), .val (.int p3), .val (.int (1 : Int32)), .val (.int (0 : Int32)), .val .null, .val (.ref b_111), .val (.ref b112), .val (.ref b115), .val (.int (1 : Int32))] [(.ref b115), (.ref b112)])) (fun _ k => XS.aload X118.here hx rfl (hb hby at_127) rfl rfl k) ?_
        obtain ⟨cq122, kq122, qa122, qb122, qc122⟩ := isOf hZ e118 E_b112
        obtain ⟨_, _, ⟨T122, L122, k122, n122⟩, -, X122, ⟨Lc122, hQ122, l122, y122, z122⟩, st122⟩ := X118.virtualBack hx (y := (⟨"com/example/wardkey/wardkey/policy/Code", "overlaps", "(Lcom/example/wardkey/wardkey/policy/Code;)Z"⟩ : MethodName)) (z := (⟨"com/example/wardkey/wardkey/policy/Code", "overlaps", "(Lcom/example/wardkey/wardkey/policy/Code;)Z"⟩ : MethodName)) hown (mvT hZ (hw _ (List.mem_of_getElem? (i := 57) rfl))) (mvT hZ (hw _ (List.mem_of_getElem? (i := 58) rfl))) (notFace_of_selects (args := #[]) (mvT hZ (hw _ (List.mem_of_getElem? (i := 60) rfl)))) (mvT hZ (hw _ (List.mem_of_getElem? (i := 60) rfl))) (mvT hZ (hw _ (List.mem_of_getElem? (i := 59) rfl))) (by decide) (backOf (W := 0) (rm_ovNS l Z a0 hw [] b112 b115 b_113 ((TX p0)) b_116 ((TX p1)) b_111 ((TX p3)) h117 n0 O0 zcs Scs hz_Scs F_b112_code F_b115_code E_b_113 G_b_113 E_b_116 G_b_116 F_b112_system F_b115_system E_b_111 G_b_111 (own_TXlen _) (own_TXlen _) (own_TXlen _)) hZ (hw _ (List.mem_of_getElem? (i := 61) rfl)) (hw _ (List.mem_of_getElem? (i := 35) rfl)) (by decide) (by decide)) qa122 qc122 (g := (mkF m 129 #[.val (.int p0), .val (.int p1), .val (.int p2), .val (.int p3), .val (.int (1 : Int32)), .val (.int (0 : Int32)), .val .null, .val (.ref b_111), .val (.ref b112), .val (.ref b115), .val (.int (1 : Int32))] [(.ref b115), (.ref b112)])) rfl (by rw [hml]; rfl) (Steps.refl _) (argsL := [(.ref b115)]) (rest := []) (lenOf pd_11 rfl) rfl (by show 2 * 0 + _ ≤ _; exact Nat.le_of_eq rfl) (hb hby at_129) (fun _ _ => ⟨rfl, e118, (by decide : 24 + 0 ≤ _), (by decide : 80 + 0 ≤ _)⟩)
        dsimp only [Pt.U, Pt.locs, Pt.cells, Pt.slots] at X122 l122 y122 z122 st122 hQ122
        subst l122 y122 z122
        obtain ⟨rfl, rfl, e122⟩ := hQ122
        replace N0 := Fr.app N0 (Fr.nil n0)
        refine Goes.run (T' := T122) (g' := (mkF m 132 #[.val (.int p0), .val (.int p1), .val (.int p2), .val (.int p3), .val (.int (1 : Int32)), .val (.int (0 : Int32)), .val .null, .val (.ref b_111), .val (.ref b112), .val (.ref b115), .val (.int (1 : Int32))] [(.int (if (TX p0) = (TX p1) then 1 else 0))])) st122 ?_
        refine Goes.step (T' := T122) (g' := (mkF m 134 #[.val (.int p0), .val (.int p1), .val (.int p2), .val (.int p3), .val (.int (1 : Int32)), .val (.int (0 : Int32)), .val .null, .val (.ref b_111), .val (.ref b112), .val (.ref b115), .val (.int (1 : Int32))] [(.int (1 : Int32)), (.int (if (TX p0) = (TX p1) then 1 else 0))])) (fun _ k => XS.iload X122.here hx rfl (hb hby at_132) rfl  k) ?_
        refine Goes.step (T' := T122) (g' := (mkF m 137 #[.val (.int p0), .val (.int p1), .val (.int p2), .val (.int p3), .val (.int (1 : Int32)), .val (.int (0 : Int32)), .val .null, .val (.ref b_111), .val (.ref b112), .val (.ref b115), .val (.int (1 : Int32))] [])) (fun _ k => XS.icmpNo X122.here hx rfl (hb hby at_134) rfl (teq (if_pos (own_if1 hc97_119))).2 k) ?_
        refine Goes.step (T' := T122) (g' := (mkF m 139 #[.val (.int p0), .val (.int p1), .val (.int p2), .val (.int p3), .val (.int (1 : Int32)), .val (.int (0 : Int32)), .val .null, .val (.ref b_111), .val (.ref b112), .val (.ref b115), .val (.int (1 : Int32))] [(.ref b115)])) (fun _ k => XS.aload X122.here hx rfl (hb hby at_137) rfl rfl k) ?_
        refine Goes.step (T' := T122) (g' := (mkF m 141 #[.val (.int p0), .val (.int p1), .val (.int p2), .val (.int p3), .val (.int (1 : Int32)), .val (.int (0 : Int32)), .val .null, .val (.ref b_111), .val (.ref b112), .val (.ref b115), .val (.int (1 : Int32))] [(.ref b112), (.ref b115)])) (fun _ k => XS.aload X122.here hx rfl (hb hby at_139) rfl rfl k) ?_
        obtain ⟨cq123, kq123, qa123, qb123, qc123⟩ := isOf hZ e122 E_b115
        obtain ⟨_, _, ⟨T123, L123, k123, n123⟩, -, X123, ⟨Lc123, hQ123, l123, y123, z123⟩, st123⟩ := X122.virtualBack hx (y := (⟨"com/example/wardkey/wardkey/policy/Code", "overlaps", "(Lcom/example/wardkey/wardkey/policy/Code;)Z"⟩ : MethodName)) (z := (⟨"com/example/wardkey/wardkey/policy/Code", "overlaps", "(Lcom/example/wardkey/wardkey/policy/Code;)Z"⟩ : MethodName)) hown (mvT hZ (hw _ (List.mem_of_getElem? (i := 57) rfl))) (mvT hZ (hw _ (List.mem_of_getElem? (i := 58) rfl))) (notFace_of_selects (args := #[]) (mvT hZ (hw _ (List.mem_of_getElem? (i := 60) rfl)))) (mvT hZ (hw _ (List.mem_of_getElem? (i := 60) rfl))) (mvT hZ (hw _ (List.mem_of_getElem? (i := 59) rfl))) (by decide) (backOf (W := 0) (rm_ovSN l Z a0 hw [] b115 b112 b_116 ((TX p1)) b_113 ((TX p0)) b_111 ((TX p3)) h117 n0 O0 zcs Scs hz_Scs F_b115_code F_b112_code E_b_116 G_b_116 E_b_113 G_b_113 F_b115_system E_b_111 G_b_111 F_b112_system (own_TXlen _) (own_TXlen _) (own_TXlen _)) hZ (hw _ (List.mem_of_getElem? (i := 61) rfl)) (hw _ (List.mem_of_getElem? (i := 35) rfl)) (by decide) (by decide)) qa123 qc123 (g := (mkF m 141 #[.val (.int p0), .val (.int p1), .val (.int p2), .val (.int p3), .val (.int (1 : Int32)), .val (.int (0 : Int32)), .val .null, .val (.ref b_111), .val (.ref b112), .val (.ref b115), .val (.int (1 : Int32))] [(.ref b112), (.ref b115)])) rfl (by rw [hml]; rfl) (Steps.refl _) (argsL := [(.ref b112)]) (rest := []) (lenOf pd_11 rfl) rfl (by show 2 * 0 + _ ≤ _; exact Nat.le_of_eq rfl) (hb hby at_141) (fun _ _ => ⟨rfl, e122, (by decide : 24 + 0 ≤ _), (by decide : 80 + 0 ≤ _)⟩)
        dsimp only [Pt.U, Pt.locs, Pt.cells, Pt.slots] at X123 l123 y123 z123 st123 hQ123
        subst l123 y123 z123
        obtain ⟨rfl, rfl, e123⟩ := hQ123
        replace N0 := Fr.app N0 (Fr.nil n0)
        refine Goes.run (T' := T123) (g' := (mkF m 144 #[.val (.int p0), .val (.int p1), .val (.int p2), .val (.int p3), .val (.int (1 : Int32)), .val (.int (0 : Int32)), .val .null, .val (.ref b_111), .val (.ref b112), .val (.ref b115), .val (.int (1 : Int32))] [(.int (if (TX p1) = (TX p0) then 1 else 0))])) st123 ?_
        refine Goes.step (T' := T123) (g' := (mkF m 146 #[.val (.int p0), .val (.int p1), .val (.int p2), .val (.int p3), .val (.int (1 : Int32)), .val (.int (0 : Int32)), .val .null, .val (.ref b_111), .val (.ref b112), .val (.ref b115), .val (.int (1 : Int32))] [(.int (1 : Int32)), (.int (if (TX p1) = (TX p0) then 1 else 0))])) (fun _ k => XS.iload X123.here hx rfl (hb hby at_144) rfl  k) ?_
        refine Goes.step (T' := T123) (g' := (mkF m 149 #[.val (.int p0), .val (.int p1), .val (.int p2), .val (.int p3), .val (.int (1 : Int32)), .val (.int (0 : Int32)), .val .null, .val (.ref b_111), .val (.ref b112), .val (.ref b115), .val (.int (1 : Int32))] [])) (fun _ k => XS.icmpNo X123.here hx rfl (hb hby at_146) rfl (teq (if_pos (own_if1 hc97_119).symm)).2 k) ?_
        refine Goes.step (T' := T123) (g' := (mkF m 150 #[.val (.int p0), .val (.int p1), .val (.int p2), .val (.int p3), .val (.int (1 : Int32)), .val (.int (0 : Int32)), .val .null, .val (.ref b_111), .val (.ref b112), .val (.ref b115), .val (.int (1 : Int32))] [(.int (1 : Int32))])) (fun _ k => XS.iconst X123.here hx rfl (hb hby at_149) k) ?_
        refine Goes.step (T' := T123) (g' := (mkF m 154 #[.val (.int p0), .val (.int p1), .val (.int p2), .val (.int p3), .val (.int (1 : Int32)), .val (.int (0 : Int32)), .val .null, .val (.ref b_111), .val (.ref b112), .val (.ref b115), .val (.int (1 : Int32))] [(.int (1 : Int32))])) (fun _ k => XS.goto X123.here hx rfl (pc0 := 150) (pc' := 154) rfl (hb hby at_150) (by decide) (by decide) k) ?_
        obtain ⟨fs, hr, hrun, hended, hend⟩ := X123.leaveW hS0 (by rw [e123]; exact hk0) (v := some (.int (nar .boolean (1 : Int32)))) (fun h => by rw [Bd.returns] at h; cases h)
        exact ⟨_, _, retN X123 hx (t := .boolean) Bd.returns (by simp) (hb hby at_154) hr, hrun, hended, _, _, rfl, (by show Q_law Z p0 p1 p2 p3 h0 n0 _ T123.heap _; rw [e123]; exact ⟨rfl, N0, K0⟩), (by show CHr Z EL s.vm s.heap T123.vm T123.heap; rw [e123, hh]; exact C0.trans (CHv.at X123 hZ hEL C0.1)), own_mono hend (by decide) (by decide)⟩
    ·
      refine Goes.step (T' := s₁) (g' := (mkF m 25 #[.val (.int p0), .val (.int p1), .val (.int p2), .val (.int p3), .val (.int (1 : Int32)), .unset, .unset, .unset, .unset, .unset, .unset] [])) (fun _ k => XS.ifNo X0.here hx rfl (hb hby at_22) rfl ((if0 _ _).trans (feq hc22_110).1) k) ?_
      refine Goes.step (T' := s₁) (g' := (mkF m 26 #[.val (.int p0), .val (.int p1), .val (.int p2), .val (.int p3), .val (.int (1 : Int32)), .unset, .unset, .unset, .unset, .unset, .unset] [(.int (1 : Int32))])) (fun _ k => XS.iconst X0.here hx rfl (hb hby at_25) k) ?_
      refine Goes.step (T' := s₁) (g' := (mkF m 30 #[.val (.int p0), .val (.int p1), .val (.int p2), .val (.int p3), .val (.int (1 : Int32)), .unset, .unset, .unset, .unset, .unset, .unset] [(.int (1 : Int32))])) (fun _ k => XS.goto X0.here hx rfl (pc0 := 26) (pc' := 30) rfl (hb hby at_26) (by decide) (by decide) k) ?_
      refine Goes.step (T' := s₁) (g' := (mkF m 32 #[.val (.int p0), .val (.int p1), .val (.int p2), .val (.int p3), .val (.int (1 : Int32)), .val (.int (1 : Int32)), .unset, .unset, .unset, .unset, .unset] [])) (fun _ k => XS.istore X0.here hx rfl (hb hby at_30) rfl (l' := #[.val (.int p0), .val (.int p1), .val (.int p2), .val (.int p3), .val (.int (1 : Int32)), .val (.int (1 : Int32)), .unset, .unset, .unset, .unset, .unset]) rfl k) ?_
      refine Goes.step (T' := s₁) (g' := (mkF m 34 #[.val (.int p0), .val (.int p1), .val (.int p2), .val (.int p3), .val (.int (1 : Int32)), .val (.int (1 : Int32)), .unset, .unset, .unset, .unset, .unset] [(.int (1 : Int32))])) (fun _ k => XS.iload X0.here hx rfl (hb hby at_32) rfl  k) ?_
      refine Goes.step (T' := s₁) (g' := (mkF m 37 #[.val (.int p0), .val (.int p1), .val (.int p2), .val (.int p3), .val (.int (1 : Int32)), .val (.int (1 : Int32)), .unset, .unset, .unset, .unset, .unset] [])) (fun _ k => XS.ifNo X0.here hx rfl (hb hby at_34) rfl ((if0 _ _).trans (feq (by decide : ¬ ((1 : Int32) = (0 : Int32)))).1) k) ?_
      refine Goes.step (T' := s₁) (g' := (mkF m 38 #[.val (.int p0), .val (.int p1), .val (.int p2), .val (.int p3), .val (.int (1 : Int32)), .val (.int (1 : Int32)), .unset, .unset, .unset, .unset, .unset] [.null])) (fun _ k => XS.aconstNull X0.here hx rfl (hb hby at_37) k) ?_
      refine Goes.step (T' := s₁) (g' := (mkF m 45 #[.val (.int p0), .val (.int p1), .val (.int p2), .val (.int p3), .val (.int (1 : Int32)), .val (.int (1 : Int32)), .unset, .unset, .unset, .unset, .unset] [.null])) (fun _ k => XS.goto X0.here hx rfl (pc0 := 38) (pc' := 45) rfl (hb hby at_38) (by decide) (by decide) k) ?_
      refine Goes.step (T' := s₁) (g' := (mkF m 47 #[.val (.int p0), .val (.int p1), .val (.int p2), .val (.int p3), .val (.int (1 : Int32)), .val (.int (1 : Int32)), .val .null, .unset, .unset, .unset, .unset] [])) (fun _ k => XS.astore X0.here hx rfl (hb hby at_45) rfl rfl (l' := #[.val (.int p0), .val (.int p1), .val (.int p2), .val (.int p3), .val (.int (1 : Int32)), .val (.int (1 : Int32)), .val .null, .unset, .unset, .unset, .unset]) rfl k) ?_
      refine Goes.step (T' := s₁) (g' := (mkF m 49 #[.val (.int p0), .val (.int p1), .val (.int p2), .val (.int p3), .val (.int (1 : Int32)), .val (.int (1 : Int32)), .val .null, .unset, .unset, .unset, .unset] [(.int (1 : Int32))])) (fun _ k => XS.iload X0.here hx rfl (hb hby at_47) rfl  k) ?_
      refine Goes.step (T' := s₁) (g' := (mkF m 52 #[.val (.int p0), .val (.int p1), .val (.int p2), .val (.int p3), .val (.int (1 : Int32)), .val (.int (1 : Int32)), .val .null, .unset, .unset, .unset, .unset] [])) (fun _ k => XS.ifNo X0.here hx rfl (hb hby at_49) rfl ((if0 _ _).trans (feq (by decide : ¬ ((1 : Int32) = (0 : Int32)))).1) k) ?_
      refine Goes.step (T' := s₁) (g' := (mkF m 53 #[.val (.int p0), .val (.int p1), .val (.int p2), .val (.int p3), .val (.int (1 : Int32)), .val (.int (1 : Int32)), .val .null, .unset, .unset, .unset, .unset] [.null])) (fun _ k => XS.aconstNull X0.here hx rfl (hb hby at_52) k) ?_
      refine Goes.step (T' := s₁) (g' := (mkF m 60 #[.val (.int p0), .val (.int p1), .val (.int p2), .val (.int p3), .val (.int (1 : Int32)), .val (.int (1 : Int32)), .val .null, .unset, .unset, .unset, .unset] [.null])) (fun _ k => XS.goto X0.here hx rfl (pc0 := 53) (pc' := 60) rfl (hb hby at_53) (by decide) (by decide) k) ?_
      refine Goes.step (T' := s₁) (g' := (mkF m 62 #[.val (.int p0), .val (.int p1), .val (.int p2), .val (.int p3), .val (.int (1 : Int32)), .val (.int (1 : Int32)), .val .null, .val .null, .unset, .unset, .unset] [])) (fun _ k => XS.astore X0.here hx rfl (hb hby at_60) rfl rfl (l' := #[.val (.int p0), .val (.int p1), .val (.int p2), .val (.int p3), .val (.int (1 : Int32)), .val (.int (1 : Int32)), .val .null, .val .null, .unset, .unset, .unset]) rfl k) ?_
      obtain ⟨T124, h124, X124, e124, Ex124, A124, D124, -, st124⟩ := newO X0 hx hZ hown (hw _ (List.mem_of_getElem? (i := 33) rfl)) (hw _ (List.mem_of_getElem? (i := 34) rfl)) (hw _ (List.mem_of_getElem? (i := 35) rfl)) e0 (g := (mkF m 62 #[.val (.int p0), .val (.int p1), .val (.int p2), .val (.int p3), .val (.int (1 : Int32)), .val (.int (1 : Int32)), .val .null, .val .null, .unset, .unset, .unset] [])) rfl (hb hby at_62) (by decide) (by decide)
      obtain ⟨b124, gg124⟩ : ∃ z, z = h0.size := ⟨_, rfl⟩
      rw [← gg124] at A124 D124 st124
      have g_b124 : n0 ≤ b124 := Nat.le_trans (own_n0 O0) (Nat.le_of_eq gg124.symm)
      have sz_b124 : h0.size ≤ b124 := Nat.le_trans K0.1 (Nat.le_of_eq gg124.symm)
      have S_b124 := (Safe.new (Z := Z) (EL := EL) (vm := s.vm) (Nat.le_of_eq gg124.symm)).ext Ex124 C0.1
      replace O0 := O0.ext Ex124
      replace K0 := K0.ext Ex124
      replace C0 := C0.trans (CHr.ext Ex124 C0.1)
      replace hk0 := Nat.le_trans hk0 Ex124.1
      have E_b124 := A124
      have F_b124_system : Fld Z h124 b124 "com/example/wardkey/wardkey/policy/Code" "system" "Ljava/lang/String;" .null := D124 (Or.inr (hw _ (List.mem_of_getElem? (i := 51) rfl))) (ty := (.object "java/lang/String")) (by decide)
      have F_b124_code : Fld Z h124 b124 "com/example/wardkey/wardkey/policy/Code" "code" "Ljava/lang/String;" .null := D124 (Or.inr (hw _ (List.mem_of_getElem? (i := 53) rfl))) (ty := (.object "java/lang/String")) (by decide)
      refine Goes.step (T' := T124) (g' := (mkF m 65 #[.val (.int p0), .val (.int p1), .val (.int p2), .val (.int p3), .val (.int (1 : Int32)), .val (.int (1 : Int32)), .val .null, .val .null, .unset, .unset, .unset] [(.ref b124)])) st124 ?_
      clear D124 A124
      refine Goes.step (T' := T124) (g' := (mkF m 66 #[.val (.int p0), .val (.int p1), .val (.int p2), .val (.int p3), .val (.int (1 : Int32)), .val (.int (1 : Int32)), .val .null, .val .null, .unset, .unset, .unset] [(.ref b124), (.ref b124)])) (fun _ k => XS.dup X124.here hx rfl (hb hby at_65) rfl rfl k) ?_
      refine Goes.step (T' := T124) (g' := (mkF m 68 #[.val (.int p0), .val (.int p1), .val (.int p2), .val (.int p3), .val (.int (1 : Int32)), .val (.int (1 : Int32)), .val .null, .val .null, .unset, .unset, .unset] [.null, (.ref b124), (.ref b124)])) (fun _ k => XS.aload X124.here hx rfl (hb hby at_66) rfl rfl k) ?_
      refine Goes.step (T' := T124) (g' := (mkF m 69 #[.val (.int p0), .val (.int p1), .val (.int p2), .val (.int p3), .val (.int (1 : Int32)), .val (.int (1 : Int32)), .val .null, .val .null, .unset, .unset, .unset] [(.int p0), .null, (.ref b124), (.ref b124)])) (fun _ k => XS.iloadN X124.here hx rfl (hb hby at_68) rfl  k) ?_
      obtain ⟨_, _, ⟨T125, L125, k125, n125⟩, -, X125, hS125, hgr125, ⟨Lc125, hQ125, l125, y125, z125, Ch125⟩, st125⟩ := callSS X124 hx (y := (⟨"com/example/wardkey/wardkey/policy/CodeOverlapsPinLaw", "text", "(I)Ljava/lang/String;"⟩ : MethodName)) hown (mvT hZ (hw _ (List.mem_of_getElem? (i := 0) rfl))) (mvT hZ (hw _ (List.mem_of_getElem? (i := 1) rfl))) (mvT hZ (hw _ (List.mem_of_getElem? (i := 2) rfl))) (mvT hZ (hw _ (List.mem_of_getElem? (i := 3) rfl))) (by decide) (backOfSH (W := 3) (rm_text l Z a0 hw [] hEL p0 h124 n0 O0 zcs Scs hz_Scs ) hZ (hw _ (List.mem_of_getElem? (i := 3) rfl)) (hw _ (List.mem_of_getElem? (i := 2) rfl)) (by decide) (by decide) hEL C0.1) (g := (mkF m 69 #[.val (.int p0), .val (.int p1), .val (.int p2), .val (.int p3), .val (.int (1 : Int32)), .val (.int (1 : Int32)), .val .null, .val .null, .unset, .unset, .unset] [(.int p0), .null, (.ref b124), (.ref b124)])) rfl (by rw [hml]; rfl) (argsL := [(.int p0)]) (rest := [.null, (.ref b124), (.ref b124)]) (lenOf pd_8 rfl) rfl (by show 2 * 0 + _ ≤ _; exact Nat.le_of_eq rfl) (hb hby at_69) (fun _ _ => ⟨rfl, e124, (by decide : 1 + 6 ≤ _), (by decide : 2 + 12 ≤ _)⟩)
      dsimp only [Pt.U, Pt.locs, Pt.cells, Pt.slots] at X125 l125 y125 z125 st125 hQ125 hS125 hgr125 Ch125
      subst l125 y125 z125
      obtain ⟨h125, e125⟩ : ∃ z, T125.heap = z := ⟨_, rfl⟩
      rw [e125] at hQ125 Ch125
      obtain ⟨b_125, rfl, Nq125, Kq125, fr125_b_125, E_b_125_q125, G_b_125_q125⟩ := hQ125
      replace N0 := Fr.app N0 Nq125
      have g_b_125 : n0 ≤ b_125 := Nat.le_trans (own_n0 O0) fr125_b_125
      have sz_b_125 : h0.size ≤ b_125 := Nat.le_trans K0.1 fr125_b_125
      have ne_b124_b_125 : b124 ≠ b_125 := Nat.ne_of_lt (Nat.lt_of_lt_of_le E_b124.lt fr125_b_125)
      replace S_b124 := Ch125.safe E_b124.lt S_b124
      replace C0 := C0.trans Ch125
      replace E_b124 := E_b124.keep Kq125
      replace F_b124_system := F_b124_system.keep Kq125 nin0
      replace F_b124_code := F_b124_code.keep Kq125 nin0
      replace O0 := O0.keep Kq125 all0
      replace K0 := K0.trans Kq125 all0
      have E_b_125 := E_b_125_q125
      have G_b_125 := G_b_125_q125
      obtain ⟨X125, hS125, hZ125, hown125⟩ := rebS hS0 (by rw [e124]; exact hk0) X125 hS125 hgr125 hZ hown
      rw [e125] at hS125
      clear hS0 hk0 hZ hown
      have hS0 := hS125
      have hk0 : h125.size ≤ h125.size := Nat.le_refl _
      have hZ := hZ125
      have hown := hown125
      refine Goes.run (T' := T125) (g' := (mkF m 72 #[.val (.int p0), .val (.int p1), .val (.int p2), .val (.int p3), .val (.int (1 : Int32)), .val (.int (1 : Int32)), .val .null, .val .null, .unset, .unset, .unset] [(.ref b_125), .null, (.ref b124), (.ref b124)])) st125 ?_
      obtain ⟨_, _, ⟨T126, L126, k126, n126⟩, -, X126, hS126, hgr126, ⟨Lc126, hQ126, l126, y126, z126, Ch126⟩, st126⟩ := X125.specialBackS hx (y := (⟨"com/example/wardkey/wardkey/policy/Code", "<init>", "(Ljava/lang/String;Ljava/lang/String;)V"⟩ : MethodName)) rfl hown (mvT hZ (hw _ (List.mem_of_getElem? (i := 36) rfl))) (mvT hZ (hw _ (List.mem_of_getElem? (i := 37) rfl))) (mvT hZ (hw _ (List.mem_of_getElem? (i := 38) rfl))) (by decide) (backOfSH (W := 1) (rm_codeInit l Z a0 hw [] hEL b124 .null rfl b_125 h125 n0 O0  E_b124 F_b124_system F_b124_code g_b124) hZ (hw _ (List.mem_of_getElem? (i := 38) rfl)) (hw _ (List.mem_of_getElem? (i := 35) rfl)) (by decide) (by decide) hEL C0.1) (g := (mkF m 72 #[.val (.int p0), .val (.int p1), .val (.int p2), .val (.int p3), .val (.int (1 : Int32)), .val (.int (1 : Int32)), .val .null, .val .null, .unset, .unset, .unset] [(.ref b_125), .null, (.ref b124), (.ref b124)])) rfl (by rw [hml]; rfl) (Steps.refl _) (a := b124) (argsL := [.null, (.ref b_125)]) (rest := [(.ref b124)]) (lenOf pd_9 rfl) rfl (by show 2 * 0 + _ ≤ _; exact Nat.le_of_eq rfl) (hb hby at_72) (fun _ _ => ⟨rfl, e125, (by decide : 7 + 2 ≤ _), (by decide : 14 + 20 ≤ _)⟩)
      dsimp only [Pt.U, Pt.locs, Pt.cells, Pt.slots] at X126 l126 y126 z126 st126 hQ126 hS126 hgr126 Ch126
      subst l126 y126 z126
      obtain ⟨h126, e126⟩ : ∃ z, T126.heap = z := ⟨_, rfl⟩
      rw [e126] at hQ126 Ch126
      obtain ⟨rfl, Nq126, Kq126, E_b124_q126, F_b124_system_q126, F_b124_code_q126⟩ := hQ126
      replace N0 := Fr.app N0 Nq126
      replace S_b124 := Ch126.safe E_b124.lt S_b124
      replace C0 := C0.trans Ch126
      replace G_b_125 := G_b_125.keepE Kq126 E_b124 (by decide) (hw _ (List.mem_of_getElem? (i := 34) rfl))
      clear E_b124
      clear F_b124_system
      clear F_b124_code
      replace E_b_125 := E_b_125.keep Kq126
      replace O0 := O0.keep Kq126 (allS g_b124 all0)
      replace K0 := K0.trans Kq126 (allS (Or.inr sz_b124) all0)
      have E_b124 := E_b124_q126
      have F_b124_system := F_b124_system_q126
      have F_b124_code := F_b124_code_q126
      obtain ⟨X126, hS126, hZ126, hown126⟩ := rebS hS0 (by rw [e125]; exact hk0) X126 hS126 hgr126 hZ hown
      rw [e126] at hS126
      clear hS0 hk0 hZ hown
      have hS0 := hS126
      have hk0 : h126.size ≤ h126.size := Nat.le_refl _
      have hZ := hZ126
      have hown := hown126
      refine Goes.run (T' := T126) (g' := (mkF m 75 #[.val (.int p0), .val (.int p1), .val (.int p2), .val (.int p3), .val (.int (1 : Int32)), .val (.int (1 : Int32)), .val .null, .val .null, .unset, .unset, .unset] [(.ref b124)])) st126 ?_
      refine Goes.step (T' := T126) (g' := (mkF m 77 #[.val (.int p0), .val (.int p1), .val (.int p2), .val (.int p3), .val (.int (1 : Int32)), .val (.int (1 : Int32)), .val .null, .val .null, .val (.ref b124), .unset, .unset] [])) (fun _ k => XS.astore X126.here hx rfl (hb hby at_75) rfl rfl (l' := #[.val (.int p0), .val (.int p1), .val (.int p2), .val (.int p3), .val (.int (1 : Int32)), .val (.int (1 : Int32)), .val .null, .val .null, .val (.ref b124), .unset, .unset]) rfl k) ?_
      obtain ⟨T127, h127, X127, e127, Ex127, A127, D127, -, st127⟩ := newO X126 hx hZ hown (hw _ (List.mem_of_getElem? (i := 33) rfl)) (hw _ (List.mem_of_getElem? (i := 34) rfl)) (hw _ (List.mem_of_getElem? (i := 35) rfl)) e126 (g := (mkF m 77 #[.val (.int p0), .val (.int p1), .val (.int p2), .val (.int p3), .val (.int (1 : Int32)), .val (.int (1 : Int32)), .val .null, .val .null, .val (.ref b124), .unset, .unset] [])) rfl (hb hby at_77) (by decide) (by decide)
      obtain ⟨b127, gg127⟩ : ∃ z, z = h126.size := ⟨_, rfl⟩
      rw [← gg127] at A127 D127 st127
      have g_b127 : n0 ≤ b127 := Nat.le_trans (own_n0 O0) (Nat.le_of_eq gg127.symm)
      have sz_b127 : h0.size ≤ b127 := Nat.le_trans K0.1 (Nat.le_of_eq gg127.symm)
      have ne_b_125_b127 : b_125 ≠ b127 := Nat.ne_of_lt (Nat.lt_of_lt_of_le E_b_125.lt (Nat.le_of_eq gg127.symm))
      have ne_b124_b127 : b124 ≠ b127 := Nat.ne_of_lt (Nat.lt_of_lt_of_le E_b124.lt (Nat.le_of_eq gg127.symm))
      have S_b127 := (Safe.new (Z := Z) (EL := EL) (vm := T126.vm) (Nat.le_of_eq gg127.symm)).ext Ex127 C0.1
      replace S_b124 := S_b124.ext Ex127 C0.1
      replace E_b_125 := E_b_125.ext Ex127
      replace G_b_125 := G_b_125.ext Ex127
      replace E_b124 := E_b124.ext Ex127
      replace F_b124_system := F_b124_system.ext Ex127
      replace F_b124_code := F_b124_code.ext Ex127
      replace O0 := O0.ext Ex127
      replace K0 := K0.ext Ex127
      replace C0 := C0.trans (CHr.ext Ex127 C0.1)
      replace hk0 := Nat.le_trans hk0 Ex127.1
      have E_b127 := A127
      have F_b127_system : Fld Z h127 b127 "com/example/wardkey/wardkey/policy/Code" "system" "Ljava/lang/String;" .null := D127 (Or.inr (hw _ (List.mem_of_getElem? (i := 51) rfl))) (ty := (.object "java/lang/String")) (by decide)
      have F_b127_code : Fld Z h127 b127 "com/example/wardkey/wardkey/policy/Code" "code" "Ljava/lang/String;" .null := D127 (Or.inr (hw _ (List.mem_of_getElem? (i := 53) rfl))) (ty := (.object "java/lang/String")) (by decide)
      refine Goes.step (T' := T127) (g' := (mkF m 80 #[.val (.int p0), .val (.int p1), .val (.int p2), .val (.int p3), .val (.int (1 : Int32)), .val (.int (1 : Int32)), .val .null, .val .null, .val (.ref b124), .unset, .unset] [(.ref b127)])) st127 ?_
      clear D127 A127
      refine Goes.step (T' := T127) (g' := (mkF m 81 #[.val (.int p0), .val (.int p1), .val (.int p2), .val (.int p3), .val (.int (1 : Int32)), .val (.int (1 : Int32)), .val .null, .val .null, .val (.ref b124), .unset, .unset] [(.ref b127), (.ref b127)])) (fun _ k => XS.dup X127.here hx rfl (hb hby at_80) rfl rfl k) ?_
      refine Goes.step (T' := T127) (g' := (mkF m 83 #[.val (.int p0), .val (.int p1), .val (.int p2), .val (.int p3), .val (.int (1 : Int32)), .val (.int (1 : Int32)), .val .null, .val .null, .val (.ref b124), .unset, .unset] [.null, (.ref b127), (.ref b127)])) (fun _ k => XS.aload X127.here hx rfl (hb hby at_81) rfl rfl k) ?_
      refine Goes.step (T' := T127) (g' := (mkF m 84 #[.val (.int p0), .val (.int p1), .val (.int p2), .val (.int p3), .val (.int (1 : Int32)), .val (.int (1 : Int32)), .val .null, .val .null, .val (.ref b124), .unset, .unset] [(.int p1), .null, (.ref b127), (.ref b127)])) (fun _ k => XS.iloadN X127.here hx rfl (hb hby at_83) rfl  k) ?_
      obtain ⟨_, _, ⟨T128, L128, k128, n128⟩, -, X128, hS128, hgr128, ⟨Lc128, hQ128, l128, y128, z128, Ch128⟩, st128⟩ := callSS X127 hx (y := (⟨"com/example/wardkey/wardkey/policy/CodeOverlapsPinLaw", "text", "(I)Ljava/lang/String;"⟩ : MethodName)) hown (mvT hZ (hw _ (List.mem_of_getElem? (i := 0) rfl))) (mvT hZ (hw _ (List.mem_of_getElem? (i := 1) rfl))) (mvT hZ (hw _ (List.mem_of_getElem? (i := 2) rfl))) (mvT hZ (hw _ (List.mem_of_getElem? (i := 3) rfl))) (by decide) (backOfSH (W := 3) (rm_text l Z a0 hw [] hEL p1 h127 n0 O0 zcs Scs hz_Scs ) hZ (hw _ (List.mem_of_getElem? (i := 3) rfl)) (hw _ (List.mem_of_getElem? (i := 2) rfl)) (by decide) (by decide) hEL C0.1) (g := (mkF m 84 #[.val (.int p0), .val (.int p1), .val (.int p2), .val (.int p3), .val (.int (1 : Int32)), .val (.int (1 : Int32)), .val .null, .val .null, .val (.ref b124), .unset, .unset] [(.int p1), .null, (.ref b127), (.ref b127)])) rfl (by rw [hml]; rfl) (argsL := [(.int p1)]) (rest := [.null, (.ref b127), (.ref b127)]) (lenOf pd_8 rfl) rfl (by show 2 * 0 + _ ≤ _; exact Nat.le_of_eq rfl) (hb hby at_84) (fun _ _ => ⟨rfl, e127, (by decide : 10 + 6 ≤ _), (by decide : 36 + 12 ≤ _)⟩)
      dsimp only [Pt.U, Pt.locs, Pt.cells, Pt.slots] at X128 l128 y128 z128 st128 hQ128 hS128 hgr128 Ch128
      subst l128 y128 z128
      obtain ⟨h128, e128⟩ : ∃ z, T128.heap = z := ⟨_, rfl⟩
      rw [e128] at hQ128 Ch128
      obtain ⟨b_128, rfl, Nq128, Kq128, fr128_b_128, E_b_128_q128, G_b_128_q128⟩ := hQ128
      replace N0 := Fr.app N0 Nq128
      have g_b_128 : n0 ≤ b_128 := Nat.le_trans (own_n0 O0) fr128_b_128
      have sz_b_128 : h0.size ≤ b_128 := Nat.le_trans K0.1 fr128_b_128
      have ne_b_125_b_128 : b_125 ≠ b_128 := Nat.ne_of_lt (Nat.lt_of_lt_of_le E_b_125.lt fr128_b_128)
      have ne_b124_b_128 : b124 ≠ b_128 := Nat.ne_of_lt (Nat.lt_of_lt_of_le E_b124.lt fr128_b_128)
      have ne_b127_b_128 : b127 ≠ b_128 := Nat.ne_of_lt (Nat.lt_of_lt_of_le E_b127.lt fr128_b_128)
      replace S_b124 := Ch128.safe E_b124.lt S_b124
      replace S_b127 := Ch128.safe E_b127.lt S_b127
      replace C0 := C0.trans Ch128
      replace G_b_125 := G_b_125.ext (own_kext Kq128)
      replace E_b_125 := E_b_125.keep Kq128
      replace E_b124 := E_b124.keep Kq128
      replace F_b124_system := F_b124_system.keep Kq128 nin0
      replace F_b124_code := F_b124_code.keep Kq128 nin0
      replace E_b127 := E_b127.keep Kq128
      replace F_b127_system := F_b127_system.keep Kq128 nin0
      replace F_b127_code := F_b127_code.keep Kq128 nin0
      replace O0 := O0.keep Kq128 all0
      replace K0 := K0.trans Kq128 all0
      have E_b_128 := E_b_128_q128
      have G_b_128 := G_b_128_q128
      obtain ⟨X128, hS128, hZ128, hown128⟩ := rebS hS0 (by rw [e127]; exact hk0) X128 hS128 hgr128 hZ hown
      rw [e128] at hS128
      clear hS0 hk0 hZ hown
      have hS0 := hS128
      have hk0 : h128.size ≤ h128.size := Nat.le_refl _
      have hZ := hZ128
      have hown := hown128
      refine Goes.run (T' := T128) (g' := (mkF m 87 #[.val (.int p0), .val (.int p1), .val (.int p2), .val (.int p3), .val (.int (1 : Int32)), .val (.int (1 : Int32)), .val .null, .val .null, .val (.ref b124), .unset, .unset] [(.ref b_128), .null, (.ref b127), (.ref b127)])) st128 ?_
      obtain ⟨_, _, ⟨T129, L129, k129, n129⟩, -, X129, hS129, hgr129, ⟨Lc129, hQ129, l129, y129, z129, Ch129⟩, st129⟩ := X128.specialBackS hx (y := (⟨"com/example/wardkey/wardkey/policy/Code", "<init>", "(Ljava/lang/String;Ljava/lang/String;)V"⟩ : MethodName)) rfl hown (mvT hZ (hw _ (List.mem_of_getElem? (i := 36) rfl))) (mvT hZ (hw _ (List.mem_of_getElem? (i := 37) rfl))) (mvT hZ (hw _ (List.mem_of_getElem? (i := 38) rfl))) (by decide) (backOfSH (W := 1) (rm_codeInit l Z a0 hw [] hEL b127 .null rfl b_128 h128 n0 O0  E_b127 F_b127_system F_b127_code g_b127) hZ (hw _ (List.mem_of_getElem? (i := 38) rfl)) (hw _ (List.mem_of_getElem? (i := 35) rfl)) (by decide) (by decide) hEL C0.1) (g := (mkF m 87 #[.val (.int p0), .val (.int p1), .val (.int p2), .val (.int p3), .val (.int (1 : Int32)), .val (.int (1 : Int32)), .val .null, .val .null, .val (.ref b124), .unset, .unset] [(.ref b_128), .null, (.ref b127), (.ref b127)])) rfl (by rw [hml]; rfl) (Steps.refl _) (a := b127) (argsL := [.null, (.ref b_128)]) (rest := [(.ref b127)]) (lenOf pd_9 rfl) rfl (by show 2 * 0 + _ ≤ _; exact Nat.le_of_eq rfl) (hb hby at_87) (fun _ _ => ⟨rfl, e128, (by decide : 16 + 2 ≤ _), (by decide : 48 + 20 ≤ _)⟩)
      dsimp only [Pt.U, Pt.locs, Pt.cells, Pt.slots] at X129 l129 y129 z129 st129 hQ129 hS129 hgr129 Ch129
      subst l129 y129 z129
      obtain ⟨h129, e129⟩ : ∃ z, T129.heap = z := ⟨_, rfl⟩
      rw [e129] at hQ129 Ch129
      obtain ⟨rfl, Nq129, Kq129, E_b127_q129, F_b127_system_q129, F_b127_code_q129⟩ := hQ129
      replace N0 := Fr.app N0 Nq129
      replace S_b124 := Ch129.safe E_b124.lt S_b124
      replace S_b127 := Ch129.safe E_b127.lt S_b127
      replace C0 := C0.trans Ch129
      replace G_b_125 := G_b_125.keepE Kq129 E_b127 (by decide) (hw _ (List.mem_of_getElem? (i := 34) rfl))
      replace G_b_128 := G_b_128.keepE Kq129 E_b127 (by decide) (hw _ (List.mem_of_getElem? (i := 34) rfl))
      replace E_b_125 := E_b_125.keep Kq129
      replace E_b124 := E_b124.keep Kq129
      replace F_b124_system := F_b124_system.keep Kq129 (ninS ne_b124_b127 nin0)
      replace F_b124_code := F_b124_code.keep Kq129 (ninS ne_b124_b127 nin0)
      clear E_b127
      clear F_b127_system
      clear F_b127_code
      replace E_b_128 := E_b_128.keep Kq129
      replace O0 := O0.keep Kq129 (allS g_b127 all0)
      replace K0 := K0.trans Kq129 (allS (Or.inr sz_b127) all0)
      have E_b127 := E_b127_q129
      have F_b127_system := F_b127_system_q129
      have F_b127_code := F_b127_code_q129
      obtain ⟨X129, hS129, hZ129, hown129⟩ := rebS hS0 (by rw [e128]; exact hk0) X129 hS129 hgr129 hZ hown
      rw [e129] at hS129
      clear hS0 hk0 hZ hown
      have hS0 := hS129
      have hk0 : h129.size ≤ h129.size := Nat.le_refl _
      have hZ := hZ129
      have hown := hown129
      refine Goes.run (T' := T129) (g' := (mkF m 90 #[.val (.int p0), .val (.int p1), .val (.int p2), .val (.int p3), .val (.int (1 : Int32)), .val (.int (1 : Int32)), .val .null, .val .null, .val (.ref b124), .unset, .unset] [(.ref b127)])) st129 ?_
      refine Goes.step (T' := T129) (g' := (mkF m 92 #[.val (.int p0), .val (.int p1), .val (.int p2), .val (.int p3), .val (.int (1 : Int32)), .val (.int (1 : Int32)), .val .null, .val .null, .val (.ref b124), .val (.ref b127), .unset] [])) (fun _ k => XS.astore X129.here hx rfl (hb hby at_90) rfl rfl (l' := #[.val (.int p0), .val (.int p1), .val (.int p2), .val (.int p3), .val (.int (1 : Int32)), .val (.int (1 : Int32)), .val .null, .val .null, .val (.ref b124), .val (.ref b127), .unset]) rfl k) ?_
      refine Goes.step (T' := T129) (g' := (mkF m 93 #[.val (.int p0), .val (.int p1), .val (.int p2), .val (.int p3), .val (.int (1 : Int32)), .val (.int (1 : Int32)), .val .null, .val .null, .val (.ref b124), .val (.ref b127), .unset] [(.int p0)])) (fun _ k => XS.iloadN X129.here hx rfl (hb hby at_92) rfl  k) ?_
      refine Goes.step (T' := T129) (g' := (mkF m 94 #[.val (.int p0), .val (.int p1), .val (.int p2), .val (.int p3), .val (.int (1 : Int32)), .val (.int (1 : Int32)), .val .null, .val .null, .val (.ref b124), .val (.ref b127), .unset] [(.int p1), (.int p0)])) (fun _ k => XS.iloadN X129.here hx rfl (hb hby at_93) rfl  k) ?_
      obtain ⟨_, _, ⟨T130, L130, k130, n130⟩, -, X130, ⟨Lc130, hQ130, l130, y130, z130⟩, st130⟩ := Jvm.LawKit.callS X129 hx (y := (⟨"com/example/wardkey/wardkey/policy/CodeOverlapsPinLaw", "same", "(II)Z"⟩ : MethodName)) hown (mvT hZ (hw _ (List.mem_of_getElem? (i := 54) rfl))) (mvT hZ (hw _ (List.mem_of_getElem? (i := 55) rfl))) (mvT hZ (hw _ (List.mem_of_getElem? (i := 2) rfl))) (mvT hZ (hw _ (List.mem_of_getElem? (i := 56) rfl))) (by decide) (backOf (W := 0) (rm_same l Z a0 hw [] p0 p1 h129 n0 O0  ) hZ (hw _ (List.mem_of_getElem? (i := 56) rfl)) (hw _ (List.mem_of_getElem? (i := 2) rfl)) (by decide) (by decide)) (g := (mkF m 94 #[.val (.int p0), .val (.int p1), .val (.int p2), .val (.int p3), .val (.int (1 : Int32)), .val (.int (1 : Int32)), .val .null, .val .null, .val (.ref b124), .val (.ref b127), .unset] [(.int p1), (.int p0)])) rfl (by rw [hml]; rfl) (argsL := [(.int p0), (.int p1)]) (rest := []) (lenOf pd_10 rfl) rfl (by show 2 * 0 + _ ≤ _; exact Nat.le_of_eq rfl) (hb hby at_94) (fun _ _ => ⟨rfl, e129, (by decide : 18 + 0 ≤ _), (by decide : 68 + 0 ≤ _)⟩)
      dsimp only [Pt.U, Pt.locs, Pt.cells, Pt.slots] at X130 l130 y130 z130 st130 hQ130
      subst l130 y130 z130
      obtain ⟨rfl, rfl, e130⟩ := hQ130
      replace N0 := Fr.app N0 (Fr.nil n0)
      refine Goes.step (T' := T130) (g' := (mkF m 97 #[.val (.int p0), .val (.int p1), .val (.int p2), .val (.int p3), .val (.int (1 : Int32)), .val (.int (1 : Int32)), .val .null, .val .null, .val (.ref b124), .val (.ref b127), .unset] [(.int (if TX p0 = TX p1 then 1 else 0))])) st130 ?_
      by_cases hc97_131 : (if TX p0 = TX p1 then 1 else 0) = (0 : Int32)
      ·
        refine Goes.step (T' := T130) (g' := (mkF m 122 #[.val (.int p0), .val (.int p1), .val (.int p2), .val (.int p3), .val (.int (1 : Int32)), .val (.int (1 : Int32)), .val .null, .val .null, .val (.ref b124), .val (.ref b127), .unset] [])) (fun _ k => XS.ifYes X130.here hx rfl (pc0 := 97) (pc' := 122) rfl (hb hby at_97) rfl ((if0 _ _).trans (teq hc97_131).1) (by decide) (by decide) k) ?_
        refine Goes.step (T' := T130) (g' := (mkF m 123 #[.val (.int p0), .val (.int p1), .val (.int p2), .val (.int p3), .val (.int (1 : Int32)), .val (.int (1 : Int32)), .val .null, .val .null, .val (.ref b124), .val (.ref b127), .unset] [(.int (0 : Int32))])) (fun _ k => XS.iconst X130.here hx rfl (hb hby at_122) k) ?_
        refine Goes.step (T' := T130) (g' := (mkF m 125 #[.val (.int p0), .val (.int p1), .val (.int p2), .val (.int p3), .val (.int (1 : Int32)), .val (.int (1 : Int32)), .val .null, .val .null, .val (.ref b124), .val (.ref b127), .val (.int (0 : Int32))] [])) (fun _ k => XS.istore X130.here hx rfl (hb hby at_123) rfl (l' := #[.val (.int p0), .val (.int p1), .val (.int p2), .val (.int p3), .val (.int (1 : Int32)), .val (.int (1 : Int32)), .val .null, .val .null, .val (.ref b124), .val (.ref b127), .val (.int (0 : Int32))]) rfl k) ?_
        refine Goes.step (T' := T130) (g' := (mkF m 127 #[.val (.int p0), .val (.int p1), .val (.int p2), .val (.int p3), .val (.int (1 : Int32)), .val (.int (1 : Int32)), .val .null, .val .null, .val (.ref b124), .val (.ref b127), .val (.int (0 : Int32))] [(.ref b124)])) (fun _ k => XS.aload X130.here hx rfl (hb hby at_125) rfl rfl k) ?_
        refine Goes.step (T' := T130) (g' := (mkF m 129 #[.val (.int p0), .val (.int p1), .val (.int p2), .val (.int p3), .val (.int (1 : Int32)), .val (.int (1 : Int32)), .val .null, .val .null, .val (.ref b124), .val (.ref b127), .val (.int (0 : Int32))] [(.ref b127), (.ref b124)])) (fun _ k => XS.aload X130.here hx rfl (hb hby at_127) rfl rfl k) ?_
        obtain ⟨cq132, kq132, qa132, qb132, qc132⟩ := isOf hZ e130 E_b124
        obtain ⟨_, _, ⟨T132, L132, k132, n132⟩, -, X132, ⟨Lc132, hQ132, l132, y132, z132⟩, st132⟩ := X130.virtualBack hx (y := (⟨"com/example/wardkey/wardkey/policy/Code", "overlaps", "(Lcom/example/wardkey/wardkey/policy/Code;)Z"⟩ : MethodName)) (z := (⟨"com/example/wardkey/wardkey/policy/Code", "overlaps", "(Lcom/example/wardkey/wardkey/policy/Code;)Z"⟩ : MethodName)) hown (mvT hZ (hw _ (List.mem_of_getElem? (i := 57) rfl))) (mvT hZ (hw _ (List.mem_of_getElem? (i := 58) rfl))) (notFace_of_selects (args := #[]) (mvT hZ (hw _ (List.mem_of_getElem? (i := 60) rfl)))) (mvT hZ (hw _ (List.mem_of_getElem? (i := 60) rfl))) (mvT hZ (hw _ (List.mem_of_getElem? (i := 59) rfl))) (by decide) (backOf (W := 0) (rm_ovNN l Z a0 hw [] b124 b127 b_125 ((TX p0)) b_128 ((TX p1)) h129 n0 O0 zcs Scs hz_Scs F_b124_code F_b127_code E_b_125 G_b_125 E_b_128 G_b_128 F_b124_system F_b127_system (own_TXlen _) (own_TXlen _)) hZ (hw _ (List.mem_of_getElem? (i := 61) rfl)) (hw _ (List.mem_of_getElem? (i := 35) rfl)) (by decide) (by decide)) qa132 qc132 (g := (mkF m 129 #[.val (.int p0), .val (.int p1), .val (.int p2), .val (.int p3), .val (.int (1 : Int32)), .val (.int (1 : Int32)), .val .null, .val .null, .val (.ref b124), .val (.ref b127), .val (.int (0 : Int32))] [(.ref b127), (.ref b124)])) rfl (by rw [hml]; rfl) (Steps.refl _) (argsL := [(.ref b127)]) (rest := []) (lenOf pd_11 rfl) rfl (by show 2 * 0 + _ ≤ _; exact Nat.le_of_eq rfl) (hb hby at_129) (fun _ _ => ⟨rfl, e130, (by decide : 18 + 0 ≤ _), (by decide : 68 + 0 ≤ _)⟩)
        dsimp only [Pt.U, Pt.locs, Pt.cells, Pt.slots] at X132 l132 y132 z132 st132 hQ132
        subst l132 y132 z132
        obtain ⟨rfl, rfl, e132⟩ := hQ132
        replace N0 := Fr.app N0 (Fr.nil n0)
        refine Goes.run (T' := T132) (g' := (mkF m 132 #[.val (.int p0), .val (.int p1), .val (.int p2), .val (.int p3), .val (.int (1 : Int32)), .val (.int (1 : Int32)), .val .null, .val .null, .val (.ref b124), .val (.ref b127), .val (.int (0 : Int32))] [(.int (if (TX p0) = (TX p1) then 1 else 0))])) st132 ?_
        refine Goes.step (T' := T132) (g' := (mkF m 134 #[.val (.int p0), .val (.int p1), .val (.int p2), .val (.int p3), .val (.int (1 : Int32)), .val (.int (1 : Int32)), .val .null, .val .null, .val (.ref b124), .val (.ref b127), .val (.int (0 : Int32))] [(.int (0 : Int32)), (.int (if (TX p0) = (TX p1) then 1 else 0))])) (fun _ k => XS.iload X132.here hx rfl (hb hby at_132) rfl  k) ?_
        refine Goes.step (T' := T132) (g' := (mkF m 137 #[.val (.int p0), .val (.int p1), .val (.int p2), .val (.int p3), .val (.int (1 : Int32)), .val (.int (1 : Int32)), .val .null, .val .null, .val (.ref b124), .val (.ref b127), .val (.int (0 : Int32))] [])) (fun _ k => XS.icmpNo X132.here hx rfl (hb hby at_134) rfl (teq (if_neg fun q => (own_if0 hc97_131) q)).2 k) ?_
        refine Goes.step (T' := T132) (g' := (mkF m 139 #[.val (.int p0), .val (.int p1), .val (.int p2), .val (.int p3), .val (.int (1 : Int32)), .val (.int (1 : Int32)), .val .null, .val .null, .val (.ref b124), .val (.ref b127), .val (.int (0 : Int32))] [(.ref b127)])) (fun _ k => XS.aload X132.here hx rfl (hb hby at_137) rfl rfl k) ?_
        refine Goes.step (T' := T132) (g' := (mkF m 141 #[.val (.int p0), .val (.int p1), .val (.int p2), .val (.int p3), .val (.int (1 : Int32)), .val (.int (1 : Int32)), .val .null, .val .null, .val (.ref b124), .val (.ref b127), .val (.int (0 : Int32))] [(.ref b124), (.ref b127)])) (fun _ k => XS.aload X132.here hx rfl (hb hby at_139) rfl rfl k) ?_
        obtain ⟨cq133, kq133, qa133, qb133, qc133⟩ := isOf hZ e132 E_b127
        obtain ⟨_, _, ⟨T133, L133, k133, n133⟩, -, X133, ⟨Lc133, hQ133, l133, y133, z133⟩, st133⟩ := X132.virtualBack hx (y := (⟨"com/example/wardkey/wardkey/policy/Code", "overlaps", "(Lcom/example/wardkey/wardkey/policy/Code;)Z"⟩ : MethodName)) (z := (⟨"com/example/wardkey/wardkey/policy/Code", "overlaps", "(Lcom/example/wardkey/wardkey/policy/Code;)Z"⟩ : MethodName)) hown (mvT hZ (hw _ (List.mem_of_getElem? (i := 57) rfl))) (mvT hZ (hw _ (List.mem_of_getElem? (i := 58) rfl))) (notFace_of_selects (args := #[]) (mvT hZ (hw _ (List.mem_of_getElem? (i := 60) rfl)))) (mvT hZ (hw _ (List.mem_of_getElem? (i := 60) rfl))) (mvT hZ (hw _ (List.mem_of_getElem? (i := 59) rfl))) (by decide) (backOf (W := 0) (rm_ovNN l Z a0 hw [] b127 b124 b_128 ((TX p1)) b_125 ((TX p0)) h129 n0 O0 zcs Scs hz_Scs F_b127_code F_b124_code E_b_128 G_b_128 E_b_125 G_b_125 F_b127_system F_b124_system (own_TXlen _) (own_TXlen _)) hZ (hw _ (List.mem_of_getElem? (i := 61) rfl)) (hw _ (List.mem_of_getElem? (i := 35) rfl)) (by decide) (by decide)) qa133 qc133 (g := (mkF m 141 #[.val (.int p0), .val (.int p1), .val (.int p2), .val (.int p3), .val (.int (1 : Int32)), .val (.int (1 : Int32)), .val .null, .val .null, .val (.ref b124), .val (.ref b127), .val (.int (0 : Int32))] [(.ref b124), (.ref b127)])) rfl (by rw [hml]; rfl) (Steps.refl _) (argsL := [(.ref b124)]) (rest := []) (lenOf pd_11 rfl) rfl (by show 2 * 0 + _ ≤ _; exact Nat.le_of_eq rfl) (hb hby at_141) (fun _ _ => ⟨rfl, e132, (by decide : 18 + 0 ≤ _), (by decide : 68 + 0 ≤ _)⟩)
        dsimp only [Pt.U, Pt.locs, Pt.cells, Pt.slots] at X133 l133 y133 z133 st133 hQ133
        subst l133 y133 z133
        obtain ⟨rfl, rfl, e133⟩ := hQ133
        replace N0 := Fr.app N0 (Fr.nil n0)
        refine Goes.run (T' := T133) (g' := (mkF m 144 #[.val (.int p0), .val (.int p1), .val (.int p2), .val (.int p3), .val (.int (1 : Int32)), .val (.int (1 : Int32)), .val .null, .val .null, .val (.ref b124), .val (.ref b127), .val (.int (0 : Int32))] [(.int (if (TX p1) = (TX p0) then 1 else 0))])) st133 ?_
        refine Goes.step (T' := T133) (g' := (mkF m 146 #[.val (.int p0), .val (.int p1), .val (.int p2), .val (.int p3), .val (.int (1 : Int32)), .val (.int (1 : Int32)), .val .null, .val .null, .val (.ref b124), .val (.ref b127), .val (.int (0 : Int32))] [(.int (0 : Int32)), (.int (if (TX p1) = (TX p0) then 1 else 0))])) (fun _ k => XS.iload X133.here hx rfl (hb hby at_144) rfl  k) ?_
        refine Goes.step (T' := T133) (g' := (mkF m 149 #[.val (.int p0), .val (.int p1), .val (.int p2), .val (.int p3), .val (.int (1 : Int32)), .val (.int (1 : Int32)), .val .null, .val .null, .val (.ref b124), .val (.ref b127), .val (.int (0 : Int32))] [])) (fun _ k => XS.icmpNo X133.here hx rfl (hb hby at_146) rfl (teq (if_neg fun q => (own_if0 hc97_131) q.symm)).2 k) ?_
        refine Goes.step (T' := T133) (g' := (mkF m 150 #[.val (.int p0), .val (.int p1), .val (.int p2), .val (.int p3), .val (.int (1 : Int32)), .val (.int (1 : Int32)), .val .null, .val .null, .val (.ref b124), .val (.ref b127), .val (.int (0 : Int32))] [(.int (1 : Int32))])) (fun _ k => XS.iconst X133.here hx rfl (hb hby at_149) k) ?_
        refine Goes.step (T' := T133) (g' := (mkF m 154 #[.val (.int p0), .val (.int p1), .val (.int p2), .val (.int p3), .val (.int (1 : Int32)), .val (.int (1 : Int32)), .val .null, .val .null, .val (.ref b124), .val (.ref b127), .val (.int (0 : Int32))] [(.int (1 : Int32))])) (fun _ k => XS.goto X133.here hx rfl (pc0 := 150) (pc' := 154) rfl (hb hby at_150) (by decide) (by decide) k) ?_
        obtain ⟨fs, hr, hrun, hended, hend⟩ := X133.leaveW hS0 (by rw [e133]; exact hk0) (v := some (.int (nar .boolean (1 : Int32)))) (fun h => by rw [Bd.returns] at h; cases h)
        exact ⟨_, _, retN X133 hx (t := .boolean) Bd.returns (by simp) (hb hby at_154) hr, hrun, hended, _, _, rfl, (by show Q_law Z p0 p1 p2 p3 h0 n0 _ T133.heap _; rw [e133]; exact ⟨rfl, N0, K0⟩), (by show CHr Z EL s.vm s.heap T133.vm T133.heap; rw [e133, hh]; exact C0.trans (CHv.at X133 hZ hEL C0.1)), own_mono hend (by decide) (by decide)⟩
      ·
        refine Goes.step (T' := T130) (g' := (mkF m 100 #[.val (.int p0), .val (.int p1), .val (.int p2), .val (.int p3), .val (.int (1 : Int32)), .val (.int (1 : Int32)), .val .null, .val .null, .val (.ref b124), .val (.ref b127), .unset] [])) (fun _ k => XS.ifNo X130.here hx rfl (hb hby at_97) rfl ((if0 _ _).trans (feq hc97_131).1) k) ?_
        refine Goes.step (T' := T130) (g' := (mkF m 102 #[.val (.int p0), .val (.int p1), .val (.int p2), .val (.int p3), .val (.int (1 : Int32)), .val (.int (1 : Int32)), .val .null, .val .null, .val (.ref b124), .val (.ref b127), .unset] [(.int (1 : Int32))])) (fun _ k => XS.iload X130.here hx rfl (hb hby at_100) rfl  k) ?_
        refine Goes.step (T' := T130) (g' := (mkF m 118 #[.val (.int p0), .val (.int p1), .val (.int p2), .val (.int p3), .val (.int (1 : Int32)), .val (.int (1 : Int32)), .val .null, .val .null, .val (.ref b124), .val (.ref b127), .unset] [])) (fun _ k => XS.ifYes X130.here hx rfl (pc0 := 102) (pc' := 118) rfl (hb hby at_102) rfl ((if0 _ _).trans (feq (by decide : ¬ ((1 : Int32) = (0 : Int32)))).2) (by decide) (by decide) k) ?_
        refine Goes.step (T' := T130) (g' := (mkF m 119 #[.val (.int p0), .val (.int p1), .val (.int p2), .val (.int p3), .val (.int (1 : Int32)), .val (.int (1 : Int32)), .val .null, .val .null, .val (.ref b124), .val (.ref b127), .unset] [(.int (1 : Int32))])) (fun _ k => XS.iconst X130.here hx rfl (hb hby at_118) k) ?_
        refine Goes.step (T' := T130) (g' := (mkF m 123 #[.val (.int p0), .val (.int p1), .val (.int p2), .val (.int p3), .val (.int (1 : Int32)), .val (.int (1 : Int32)), .val .null, .val .null, .val (.ref b124), .val (.ref b127), .unset] [(.int (1 : Int32))])) (fun _ k => XS.goto X130.here hx rfl (pc0 := 119) (pc' := 123) rfl (hb hby at_119) (by decide) (by decide) k) ?_
        refine Goes.step (T' := T130) (g' := (mkF m 125 #[.val (.int p0), .val (.int p1), .val (.int p2), .val (.int p3), .val (.int (1 : Int32)), .val (.int (1 : Int32)), .val .null, .val .null, .val (.ref b124), .val (.ref b127), .val (.int (1 : Int32))] [])) (fun _ k => XS.istore X130.here hx rfl (hb hby at_123) rfl (l' := #[.val (.int p0), .val (.int p1), .val (.int p2), .val (.int p3), .val (.int (1 : Int32)), .val (.int (1 : Int32)), .val .null, .val .null, .val (.ref b124), .val (.ref b127), .val (.int (1 : Int32))]) rfl k) ?_
        refine Goes.step (T' := T130) (g' := (mkF m 127 #[.val (.int p0), .val (.int p1), .val (.int p2), .val (.int p3), .val (.int (1 : Int32)), .val (.int (1 : Int32)), .val .null, .val .null, .val (.ref b124), .val (.ref b127), .val (.int (1 : Int32))] [(.ref b124)])) (fun _ k => XS.aload X130.here hx rfl (hb hby at_125) rfl rfl k) ?_
        refine Goes.step (T' := T130) (g' := (mkF m 129 #[.val (.int p0), .val (.int p1), .val (.int p2), .val (.int p3), .val (.int (1 : Int32)), .val (.int (1 : Int32)), .val .null, .val .null, .val (.ref b124), .val (.ref b127), .val (.int (1 : Int32))] [(.ref b127), (.ref b124)])) (fun _ k => XS.aload X130.here hx rfl (hb hby at_127) rfl rfl k) ?_
        obtain ⟨cq134, kq134, qa134, qb134, qc134⟩ := isOf hZ e130 E_b124
        obtain ⟨_, _, ⟨T134, L134, k134, n134⟩, -, X134, ⟨Lc134, hQ134, l134, y134, z134⟩, st134⟩ := X130.virtualBack hx (y := (⟨"com/example/wardkey/wardkey/policy/Code", "overlaps", "(Lcom/example/wardkey/wardkey/policy/Code;)Z"⟩ : MethodName)) (z := (⟨"com/example/wardkey/wardkey/policy/Code", "overlaps", "(Lcom/example/wardkey/wardkey/policy/Code;)Z"⟩ : MethodName)) hown (mvT hZ (hw _ (List.mem_of_getElem? (i := 57) rfl))) (mvT hZ (hw _ (List.mem_of_getElem? (i := 58) rfl))) (notFace_of_selects (args := #[]) (mvT hZ (hw _ (List.mem_of_getElem? (i := 60) rfl)))) (mvT hZ (hw _ (List.mem_of_getElem? (i := 60) rfl))) (mvT hZ (hw _ (List.mem_of_getElem? (i := 59) rfl))) (by decide) (backOf (W := 0) (rm_ovNN l Z a0 hw [] b124 b127 b_125 ((TX p0)) b_128 ((TX p1)) h129 n0 O0 zcs Scs hz_Scs F_b124_code F_b127_code E_b_125 G_b_125 E_b_128 G_b_128 F_b124_system F_b127_system (own_TXlen _) (own_TXlen _)) hZ (hw _ (List.mem_of_getElem? (i := 61) rfl)) (hw _ (List.mem_of_getElem? (i := 35) rfl)) (by decide) (by decide)) qa134 qc134 (g := (mkF m 129 #[.val (.int p0), .val (.int p1), .val (.int p2), .val (.int p3), .val (.int (1 : Int32)), .val (.int (1 : Int32)), .val .null, .val .null, .val (.ref b124), .val (.ref b127), .val (.int (1 : Int32))] [(.ref b127), (.ref b124)])) rfl (by rw [hml]; rfl) (Steps.refl _) (argsL := [(.ref b127)]) (rest := []) (lenOf pd_11 rfl) rfl (by show 2 * 0 + _ ≤ _; exact Nat.le_of_eq rfl) (hb hby at_129) (fun _ _ => ⟨rfl, e130, (by decide : 18 + 0 ≤ _), (by decide : 68 + 0 ≤ _)⟩)
        dsimp only [Pt.U, Pt.locs, Pt.cells, Pt.slots] at X134 l134 y134 z134 st134 hQ134
        subst l134 y134 z134
        obtain ⟨rfl, rfl, e134⟩ := hQ134
        replace N0 := Fr.app N0 (Fr.nil n0)
        refine Goes.run (T' := T134) (g' := (mkF m 132 #[.val (.int p0), .val (.int p1), .val (.int p2), .val (.int p3), .val (.int (1 : Int32)), .val (.int (1 : Int32)), .val .null, .val .null, .val (.ref b124), .val (.ref b127), .val (.int (1 : Int32))] [(.int (if (TX p0) = (TX p1) then 1 else 0))])) st134 ?_
        refine Goes.step (T' := T134) (g' := (mkF m 134 #[.val (.int p0), .val (.int p1), .val (.int p2), .val (.int p3), .val (.int (1 : Int32)), .val (.int (1 : Int32)), .val .null, .val .null, .val (.ref b124), .val (.ref b127), .val (.int (1 : Int32))] [(.int (1 : Int32)), (.int (if (TX p0) = (TX p1) then 1 else 0))])) (fun _ k => XS.iload X134.here hx rfl (hb hby at_132) rfl  k) ?_
        refine Goes.step (T' := T134) (g' := (mkF m 137 #[.val (.int p0), .val (.int p1), .val (.int p2), .val (.int p3), .val (.int (1 : Int32)), .val (.int (1 : Int32)), .val .null, .val .null, .val (.ref b124), .val (.ref b127), .val (.int (1 : Int32))] [])) (fun _ k => XS.icmpNo X134.here hx rfl (hb hby at_134) rfl (teq (if_pos (own_if1 hc97_131))).2 k) ?_
        refine Goes.step (T' := T134) (g' := (mkF m 139 #[.val (.int p0), .val (.int p1), .val (.int p2), .val (.int p3), .val (.int (1 : Int32)), .val (.int (1 : Int32)), .val .null, .val .null, .val (.ref b124), .val (.ref b127), .val (.int (1 : Int32))] [(.ref b127)])) (fun _ k => XS.aload X134.here hx rfl (hb hby at_137) rfl rfl k) ?_
        refine Goes.step (T' := T134) (g' := (mkF m 141 #[.val (.int p0), .val (.int p1), .val (.int p2), .val (.int p3), .val (.int (1 : Int32)), .val (.int (1 : Int32)), .val .null, .val .null, .val (.ref b124), .val (.ref b127), .val (.int (1 : Int32))] [(.ref b124), (.ref b127)])) (fun _ k => XS.aload X134.here hx rfl (hb hby at_139) rfl rfl k) ?_
        obtain ⟨cq135, kq135, qa135, qb135, qc135⟩ := isOf hZ e134 E_b127
        obtain ⟨_, _, ⟨T135, L135, k135, n135⟩, -, X135, ⟨Lc135, hQ135, l135, y135, z135⟩, st135⟩ := X134.virtualBack hx (y := (⟨"com/example/wardkey/wardkey/policy/Code", "overlaps", "(Lcom/example/wardkey/wardkey/policy/Code;)Z"⟩ : MethodName)) (z := (⟨"com/example/wardkey/wardkey/policy/Code", "overlaps", "(Lcom/example/wardkey/wardkey/policy/Code;)Z"⟩ : MethodName)) hown (mvT hZ (hw _ (List.mem_of_getElem? (i := 57) rfl))) (mvT hZ (hw _ (List.mem_of_getElem? (i := 58) rfl))) (notFace_of_selects (args := #[]) (mvT hZ (hw _ (List.mem_of_getElem? (i := 60) rfl)))) (mvT hZ (hw _ (List.mem_of_getElem? (i := 60) rfl))) (mvT hZ (hw _ (List.mem_of_getElem? (i := 59) rfl))) (by decide) (backOf (W := 0) (rm_ovNN l Z a0 hw [] b127 b124 b_128 ((TX p1)) b_125 ((TX p0)) h129 n0 O0 zcs Scs hz_Scs F_b127_code F_b124_code E_b_128 G_b_128 E_b_125 G_b_125 F_b127_system F_b124_system (own_TXlen _) (own_TXlen _)) hZ (hw _ (List.mem_of_getElem? (i := 61) rfl)) (hw _ (List.mem_of_getElem? (i := 35) rfl)) (by decide) (by decide)) qa135 qc135 (g := (mkF m 141 #[.val (.int p0), .val (.int p1), .val (.int p2), .val (.int p3), .val (.int (1 : Int32)), .val (.int (1 : Int32)), .val .null, .val .null, .val (.ref b124), .val (.ref b127), .val (.int (1 : Int32))] [(.ref b124), (.ref b127)])) rfl (by rw [hml]; rfl) (Steps.refl _) (argsL := [(.ref b124)]) (rest := []) (lenOf pd_11 rfl) rfl (by show 2 * 0 + _ ≤ _; exact Nat.le_of_eq rfl) (hb hby at_141) (fun _ _ => ⟨rfl, e134, (by decide : 18 + 0 ≤ _), (by decide : 68 + 0 ≤ _)⟩)
        dsimp only [Pt.U, Pt.locs, Pt.cells, Pt.slots] at X135 l135 y135 z135 st135 hQ135
        subst l135 y135 z135
        obtain ⟨rfl, rfl, e135⟩ := hQ135
        replace N0 := Fr.app N0 (Fr.nil n0)
        refine Goes.run (T' := T135) (g' := (mkF m 144 #[.val (.int p0), .val (.int p1), .val (.int p2), .val (.int p3), .val (.int (1 : Int32)), .val (.int (1 : Int32)), .val .null, .val .null, .val (.ref b124), .val (.ref b127), .val (.int (1 : Int32))] [(.int (if (TX p1) = (TX p0) then 1 else 0))])) st135 ?_
        refine Goes.step (T' := T135) (g' := (mkF m 146 #[.val (.int p0), .val (.int p1), .val (.int p2), .val (.int p3), .val (.int (1 : Int32)), .val (.int (1 : Int32)), .val .null, .val .null, .val (.ref b124), .val (.ref b127), .val (.int (1 : Int32))] [(.int (1 : Int32)), (.int (if (TX p1) = (TX p0) then 1 else 0))])) (fun _ k => XS.iload X135.here hx rfl (hb hby at_144) rfl  k) ?_
        refine Goes.step (T' := T135) (g' := (mkF m 149 #[.val (.int p0), .val (.int p1), .val (.int p2), .val (.int p3), .val (.int (1 : Int32)), .val (.int (1 : Int32)), .val .null, .val .null, .val (.ref b124), .val (.ref b127), .val (.int (1 : Int32))] [])) (fun _ k => XS.icmpNo X135.here hx rfl (hb hby at_146) rfl (teq (if_pos (own_if1 hc97_131).symm)).2 k) ?_
        refine Goes.step (T' := T135) (g' := (mkF m 150 #[.val (.int p0), .val (.int p1), .val (.int p2), .val (.int p3), .val (.int (1 : Int32)), .val (.int (1 : Int32)), .val .null, .val .null, .val (.ref b124), .val (.ref b127), .val (.int (1 : Int32))] [(.int (1 : Int32))])) (fun _ k => XS.iconst X135.here hx rfl (hb hby at_149) k) ?_
        refine Goes.step (T' := T135) (g' := (mkF m 154 #[.val (.int p0), .val (.int p1), .val (.int p2), .val (.int p3), .val (.int (1 : Int32)), .val (.int (1 : Int32)), .val .null, .val .null, .val (.ref b124), .val (.ref b127), .val (.int (1 : Int32))] [(.int (1 : Int32))])) (fun _ k => XS.goto X135.here hx rfl (pc0 := 150) (pc' := 154) rfl (hb hby at_150) (by decide) (by decide) k) ?_
        obtain ⟨fs, hr, hrun, hended, hend⟩ := X135.leaveW hS0 (by rw [e135]; exact hk0) (v := some (.int (nar .boolean (1 : Int32)))) (fun h => by rw [Bd.returns] at h; cases h)
        exact ⟨_, _, retN X135 hx (t := .boolean) Bd.returns (by simp) (hb hby at_154) hr, hrun, hended, _, _, rfl, (by show Q_law Z p0 p1 p2 p3 h0 n0 _ T135.heap _; rw [e135]; exact ⟨rfl, N0, K0⟩), (by show CHr Z EL s.vm s.heap T135.vm T135.heap; rw [e135, hh]; exact C0.trans (CHv.at X135 hZ hEL C0.1)), own_mono hend (by decide) (by decide)⟩
set_option maxRecDepth 65536 in
set_option maxHeartbeats 40000000 in
theorem comes_1 {Post : Tables → Env → Array Value → State → Outcome → State → Prop} (hpost : ∀ tb e args s v u, (limb_1_1.after args s (.returned v) u = true ∧ limb_1_2.after args s (.returned v) u = true ∧ True) → FramedW s (.returned v) u (Jvm.fieldLocs frame_1_writes args s ++ Jvm.arrayLocs frame_1_arrays args s ++ Jvm.staticLocs frame_1_statics s) 40 2240 → Post tb e args s (.returned v) u) :
    ArmFor flags0 classFile x code maxLocals ret World_1 tables_1 room_1 Calls_1 rest_1 Pre_1 Post := by
  intro l hfl _ _ p e ha hc hk s m args below hf hA hF happ hP
  obtain ⟨hcalls, hrest, hpre⟩ := hP
  obtain ⟨-, -, -, hnamed, -, -, -, hat⟩ := (Spec.applies_iff hf).mp happ
  obtain ⟨hg, hn⟩ := and_e (Cond.before_iff.mp (show (Jvm.Cond.and given_1 narrow_1).before args s = true from hpre))
  obtain ⟨hg0, hr0⟩ := and_e hg
  obtain ⟨ha0, hr1⟩ := and_e hr0
  obtain ⟨ha1, hr2⟩ := and_e hr1
  obtain ⟨ha2, hr3⟩ := and_e hr2
  have ha3 := hr3
  obtain ⟨w0, w1, w2, w3, rfl⟩ : ∃ w0 w1 w2 w3 : Value, args = #[w0, w1, w2, w3] := by
    have hs : args.size = 4 := by simpa [Cond.value, given_1] using hg0
    obtain ⟨L⟩ := args
    match L, hs with
    | [w0, w1, w2, w3], _ => exact ⟨w0, w1, w2, w3, rfl⟩
  have hw := fun d (hd : d ∈ tables_1) => atoms_spec (ws := Jvm.Cond.code x code maxLocals ret :: tables_1) hat d (List.mem_cons_of_mem _ hd)
  obtain ⟨hsets, hown0⟩ := atoms_of _ (rest_1_c_eq ▸ (show rest_1_c.before _ s = true from hrest))
  obtain ⟨i0, ei0⟩ := is_v ha0
  obtain rfl : w0 = (.int i0) := Option.some.inj ei0
  obtain ⟨i1, ei1⟩ := is_v ha1
  obtain rfl : w1 = (.int i1) := Option.some.inj ei1
  obtain ⟨i2, ei2⟩ := is_v ha2
  obtain rfl : w2 = (.int i2) := Option.some.inj ei2
  obtain ⟨i3, ei3⟩ := is_v ha3
  obtain rfl : w3 = (.int i3) := Option.some.inj ei3
  have nn_Scs := not_v (Cond.before_iff.mp (hsets _ (List.mem_of_getElem? (i := 2) rfl)))
  obtain ⟨zcs, es_Scs⟩ := is_v (Cond.before_iff.mp (hsets _ (List.mem_of_getElem? (i := 1) rfl)))
  have Scs : Sta s s.heap "java/lang/String" "COMPACT_STRINGS" "Z" (.int zcs) := Sta.start es_Scs (Or.inl (hsets _ (List.mem_of_getElem? (i := 0) rfl)))
  have hz_Scs : ¬ (zcs = (0 : Int32)) := gotF (Cond.eq_ints es_Scs (Term.int_eval (0))) nn_Scs
  have hCH : CHv s EL s.vm s.heap := CHv.start (own_EW hw) (fun p hp => hcalls.1 p hp) (hsets _ (List.mem_of_getElem? (i := 2) rfl)) (hw _ (List.mem_of_getElem? (i := 26) rfl)) (hw _ (List.mem_of_getElem? (i := 12) rfl))
  obtain ⟨n, o, h1, h2, h3, _, L, rfl, ⟨rfl, N, -⟩, hq⟩ := rm_law l s _ hw tables_1 (own_EW hw) i0 i1 i2 i3 s.heap s.heap.size (Old.start s) zcs Scs hz_Scs p e ha hc hk s m _ below hf ((Spec.applies_iff_loose hf).mp happ).1 ⟨rfl, State.Warmed39.refl s, rfl, hCH⟩ trivial
  refine ⟨n, _, h1, h2, h3, hpost _ _ _ _ _ _ ⟨Cond.after_iff.mpr rfl, Cond.after_iff.mpr (eq_i res_at (Term.int_eval (1)) rfl), trivial⟩ ⟨hq.2.1, hq.2.2.1, hq.2.2.2.1, (hq.2.2.2.2.sift fun y hy => Or.inr (N y hy)).mono (by decide) (by decide)⟩⟩
theorem main_1_1 : Claimed_1_1 := comes_1 fun _ _ _ _ _ _ h hF => ⟨h.1, hF⟩
theorem main_1_2 : Claimed_1_2 := comes_1 fun _ _ _ _ _ _ h hF => ⟨h.2.1, hF⟩
end Jvm.Pilot.@@N@@
namespace Jvm.Pilot.@@N@@
open Jvm Jvm.ClassFile Sem Op Lib Jvm.Free Jvm.Stand Jvm.Pilot.@@N@@.Jvm.D
/-! MADE BY PROGRAM (witnessworld.py) out of the Statement's table words and the real class files: 23 classes; the members and pool entries that the words name. The judged class is class 1, her method 6. -/
namespace start1
open Jvm.ClassFile
def u (s : String) : CpInfo := .utf8 (stringToUtf16 s)
/-- a pool by its gaps: so many unusable entries, then the entry; so many at the end -/
def gap : Nat → List CpInfo → List CpInfo
  | 0, r => r
  | n + 1, r => .unusable :: gap n r
def poolList (es : List (Nat × CpInfo)) (last : Nat) : List CpInfo := es.foldr (fun e r => gap e.1 (e.2 :: r)) (gap last [])
def pool (es : List (Nat × CpInfo)) (last : Nat) : Array CpInfo := ⟨poolList es last⟩
def fileOf (pool : Array CpInfo) (this : Nat) (attrs : Array Attribute := #[]) (ms : Array MethodInfo := #[]) (fl : Nat := 33) (sup : Nat := 0) (ifs : Array Nat := #[]) (fds : Array FieldInfo := #[]) : ClassFile where
  minorVersion := 0
  majorVersion := 65
  constantPool := pool
  accessFlags := fl
  thisClass := this
  superClass := sup
  interfaces := ifs
  fields := fds
  methods := ms
  attributes := attrs
def plain (name : String) (sup : Option ClassId) : Class where
  name := name
  kind := .ordinary
  loader := none
  accessFlags := 33
  super := sup
  interfaces := #[]
  cf := none
  fields := #[]
  methods := #[]
  instanceTypes := #[]
  staticTypes := #[]
  resolved := #[]
  callSites := []
  init := .initialized
  statics := none
  mirror := none

def pool0 : Array CpInfo := pool [(5, u "<init>"), (0, u "()V"), (1, .class_ 10), (1, u "java/lang/Object")] 113

def k0c0 : Code := { maxStack := 0, maxLocals := 1, code := object_method_1_code, exceptionTable := #[], attributes := #[] }
def k0m0 : Method := { name := "<init>", desc := "()V", sig := { parameters := [], returnType := none }, accessFlags := 1, code := some k0c0 }
/-- java/lang/Object -/
def k0 : Class := { plain "java/lang/Object" none with
  accessFlags := 33
  interfaces := #[]
  cf := some (fileOf pool0 8 #[] #[{ accessFlags := 1, nameIndex := 5, descriptorIndex := 6, attributes := #[] }] 33 0 #[] #[])
  fields := #[]
  methods := #[k0m0]
  instanceTypes := #[]
  staticTypes := #[]
  resolved := Array.replicate 124 none
  statics := none }

def pool1 : Array CpInfo := pool [(2, .class_ 4), (1, u "java/lang/Object"), (0, u "<init>"), (0, u "()V"), (0, .methodref 8 9), (0, .class_ 10), (0, .nameAndType 11 12), (0, u "java/lang/Math"), (0, u "min"), (0, u "(II)I"), (0, .methodref 14 15), (0, .class_ 16), (0, .nameAndType 17 18), (0, u "com/example/wardkey/wardkey/policy/CodeOverlapsPinLaw"), (0, u "len"), (0, u "(I)I"), (0, .class_ 20), (0, u "java/lang/String"), (0, .methodref 19 22), (0, .nameAndType 5 23), (0, u "([C)V"), (0, .methodref 14 25), (0, .nameAndType 26 27), (0, u "c0"), (0, u "(I)C"), (0, .methodref 14 29), (0, .nameAndType 30 27), (0, u "c1"), (0, .methodref 14 32), (0, .nameAndType 33 34), (0, u "text"), (0, u "(I)Ljava/lang/String;"), (0, .class_ 36), (0, u "com/example/wardkey/wardkey/policy/Code"), (0, .methodref 35 38), (0, .nameAndType 5 39), (0, u "(Ljava/lang/String;Ljava/lang/String;)V"), (0, .methodref 14 41), (0, .nameAndType 42 43), (0, u "same"), (0, u "(II)Z"), (0, .methodref 35 45), (0, .nameAndType 46 47), (0, u "overlaps"), (0, u "(Lcom/example/wardkey/wardkey/policy/Code;)Z"), (3, u "law"), (0, u "(IIII)Z")] 2

def k1m0 : Method := { name := "<init>", desc := "()V", sig := { parameters := [], returnType := none }, accessFlags := 1, code := none }
def k1c1 : Code := { maxStack := 2, maxLocals := 1, code := method_2_code, exceptionTable := #[], attributes := #[] }
def k1m1 : Method := { name := "len", desc := "(I)I", sig := { parameters := [.int], returnType := some .int }, accessFlags := 10, code := some k1c1 }
def k1c2 : Code := { maxStack := 2, maxLocals := 1, code := method_3_code, exceptionTable := #[], attributes := #[] }
def k1m2 : Method := { name := "c0", desc := "(I)C", sig := { parameters := [.int], returnType := some .char }, accessFlags := 10, code := some k1c2 }
def k1c3 : Code := { maxStack := 2, maxLocals := 1, code := method_4_code, exceptionTable := #[], attributes := #[] }
def k1m3 : Method := { name := "c1", desc := "(I)C", sig := { parameters := [.int], returnType := some .char }, accessFlags := 10, code := some k1c3 }
def k1c4 : Code := { maxStack := 3, maxLocals := 3, code := method_5_code, exceptionTable := #[], attributes := #[] }
def k1m4 : Method := { name := "text", desc := "(I)Ljava/lang/String;", sig := { parameters := [.int], returnType := some (.object "java/lang/String") }, accessFlags := 10, code := some k1c4 }
def k1c5 : Code := { maxStack := 2, maxLocals := 3, code := method_6_code, exceptionTable := #[], attributes := #[] }
def k1m5 : Method := { name := "same", desc := "(II)Z", sig := { parameters := [.int, .int], returnType := some .boolean }, accessFlags := 10, code := some k1c5 }
def k1c6 : Code := { maxStack := 4, maxLocals := 11, code := code, exceptionTable := #[], attributes := #[] }
def k1m6 : Method := { name := "law", desc := "(IIII)Z", sig := { parameters := [.int, .int, .int, .int], returnType := some .boolean }, accessFlags := 9, code := some k1c6 }
/-- com/example/wardkey/wardkey/policy/CodeOverlapsPinLaw -/
def k1 : Class := { plain "com/example/wardkey/wardkey/policy/CodeOverlapsPinLaw" (some 0) with
  accessFlags := 49
  interfaces := #[]
  cf := some (fileOf pool1 14 #[] #[{ accessFlags := 1, nameIndex := 5, descriptorIndex := 6, attributes := #[] }, { accessFlags := 10, nameIndex := 17, descriptorIndex := 18, attributes := #[] }, { accessFlags := 10, nameIndex := 26, descriptorIndex := 27, attributes := #[] }, { accessFlags := 10, nameIndex := 30, descriptorIndex := 27, attributes := #[] }, { accessFlags := 10, nameIndex := 33, descriptorIndex := 34, attributes := #[] }, { accessFlags := 10, nameIndex := 42, descriptorIndex := 43, attributes := #[] }, { accessFlags := 9, nameIndex := 51, descriptorIndex := 52, attributes := #[] }] 49 2 #[] #[])
  fields := #[]
  methods := #[k1m0, k1m1, k1m2, k1m3, k1m4, k1m5, k1m6]
  instanceTypes := #[]
  staticTypes := #[]
  resolved := Array.replicate 55 none
  statics := none }

def pool2 : Array CpInfo := pool [(1, .class_ 2), (0, u "java/lang/Math"), (1, .class_ 6), (1, u "java/lang/Object"), (0, u "<init>"), (0, u "()V"), (89, .class_ 100), (1, u "java/lang/Math$RandomNumberGeneratorHolder"), (71, u "negativeZeroFloatBits"), (0, u "J"), (2, u "negativeZeroDoubleBits"), (24, u "min"), (43, u "$assertionsDisabled"), (0, u "Z"), (88, u "(II)I"), (2, u "twoToTheDoubleScaleDown"), (0, u "D"), (4, u "twoToTheDoubleScaleUp"), (9, u "E"), (3, u "PI"), (2, u "TAU"), (2, u "DEGREES_TO_RADIANS"), (0, u "RADIANS_TO_DEGREES")] 94

def k2m0 : Method := { name := "<init>", desc := "()V", sig := { parameters := [], returnType := none }, accessFlags := 2, code := none }
def k2c1 : Code := { maxStack := 2, maxLocals := 2, code := jdk_29_method_69_code, exceptionTable := #[], attributes := #[] }
def k2m1 : Method := { name := "min", desc := "(II)I", sig := { parameters := [.int, .int], returnType := some .int }, accessFlags := 9, code := some k2c1 }
/-- java/lang/Math -/
def k2 : Class := { plain "java/lang/Math" (some 0) with
  accessFlags := 49
  interfaces := #[]
  cf := some (fileOf pool2 1 #[.nestMembers #[98]] #[{ accessFlags := 2, nameIndex := 7, descriptorIndex := 8, attributes := #[] }, { accessFlags := 9, nameIndex := 201, descriptorIndex := 335, attributes := #[] }] 49 4 #[] #[{ accessFlags := 25, nameIndex := 354, descriptorIndex := 339, attributes := #[] }, { accessFlags := 25, nameIndex := 358, descriptorIndex := 339, attributes := #[] }, { accessFlags := 25, nameIndex := 361, descriptorIndex := 339, attributes := #[] }, { accessFlags := 26, nameIndex := 364, descriptorIndex := 339, attributes := #[] }, { accessFlags := 26, nameIndex := 365, descriptorIndex := 339, attributes := #[] }, { accessFlags := 26, nameIndex := 172, descriptorIndex := 173, attributes := #[] }, { accessFlags := 26, nameIndex := 176, descriptorIndex := 173, attributes := #[] }, { accessFlags := 8, nameIndex := 344, descriptorIndex := 339, attributes := #[] }, { accessFlags := 8, nameIndex := 338, descriptorIndex := 339, attributes := #[] }, { accessFlags := 4120, nameIndex := 245, descriptorIndex := 246, attributes := #[] }])
  fields := #[{ name := "E", type := .double, accessFlags := 25, slot := 0, constantValue := 0 }, { name := "PI", type := .double, accessFlags := 25, slot := 1, constantValue := 0 }, { name := "TAU", type := .double, accessFlags := 25, slot := 2, constantValue := 0 }, { name := "DEGREES_TO_RADIANS", type := .double, accessFlags := 26, slot := 3, constantValue := 0 }, { name := "RADIANS_TO_DEGREES", type := .double, accessFlags := 26, slot := 4, constantValue := 0 }, { name := "negativeZeroFloatBits", type := .long, accessFlags := 26, slot := 5, constantValue := 0 }, { name := "negativeZeroDoubleBits", type := .long, accessFlags := 26, slot := 6, constantValue := 0 }, { name := "twoToTheDoubleScaleUp", type := .double, accessFlags := 8, slot := 7, constantValue := 0 }, { name := "twoToTheDoubleScaleDown", type := .double, accessFlags := 8, slot := 8, constantValue := 0 }, { name := "$assertionsDisabled", type := .boolean, accessFlags := 4120, slot := 9, constantValue := 0 }]
  methods := #[k2m0, k2m1]
  instanceTypes := #[]
  staticTypes := #[.double, .double, .double, .double, .double, .long, .long, .double, .double, .boolean]
  resolved := Array.replicate 460 none
  statics := none }

def pool3 : Array CpInfo := pool [(1, .class_ 2), (0, u "java/io/Serializable"), (0, .class_ 4), (0, u "java/lang/Object")] 2

/-- java/io/Serializable -/
def k3 : Class := { plain "java/io/Serializable" (some 0) with
  accessFlags := 1537
  interfaces := #[]
  cf := some (fileOf pool3 1 #[] #[] 1537 3 #[] #[])
  fields := #[]
  methods := #[]
  instanceTypes := #[]
  staticTypes := #[]
  resolved := Array.replicate 7 none
  statics := none }

def pool4 : Array CpInfo := pool [(1, .class_ 2), (0, u "java/lang/Comparable"), (0, .class_ 4), (0, u "java/lang/Object")] 7

/-- java/lang/Comparable -/
def k4 : Class := { plain "java/lang/Comparable" (some 0) with
  accessFlags := 1537
  interfaces := #[]
  cf := some (fileOf pool4 1 #[] #[] 1537 3 #[] #[])
  fields := #[]
  methods := #[]
  instanceTypes := #[]
  staticTypes := #[]
  resolved := Array.replicate 12 none
  statics := none }

def pool5 : Array CpInfo := pool [(2, .class_ 4), (1, u "java/lang/CharSequence"), (42, .class_ 48), (0, u "java/lang/CharSequence$1CodePointIterator"), (10, .class_ 60), (0, u "java/lang/CharSequence$1CharIterator"), (5, .class_ 67), (0, u "java/lang/Object")] 63

/-- java/lang/CharSequence -/
def k5 : Class := { plain "java/lang/CharSequence" (some 0) with
  accessFlags := 1537
  interfaces := #[]
  cf := some (fileOf pool5 2 #[.nestMembers #[47, 59]] #[] 1537 66 #[] #[])
  fields := #[]
  methods := #[]
  instanceTypes := #[]
  staticTypes := #[]
  resolved := Array.replicate 131 none
  statics := none }

def pool6 : Array CpInfo := pool [(1, .class_ 2), (0, u "java/lang/constant/Constable"), (0, .class_ 4), (0, u "java/lang/Object")] 6

/-- java/lang/constant/Constable -/
def k6 : Class := { plain "java/lang/constant/Constable" (some 0) with
  accessFlags := 1537
  interfaces := #[]
  cf := some (fileOf pool6 1 #[] #[] 1537 3 #[] #[])
  fields := #[]
  methods := #[]
  instanceTypes := #[]
  staticTypes := #[]
  resolved := Array.replicate 11 none
  statics := none }

def pool7 : Array CpInfo := pool [(1, .class_ 2), (0, u "java/lang/constant/ConstantDesc"), (0, .class_ 4), (0, u "java/lang/Object")] 32

/-- java/lang/constant/ConstantDesc -/
def k7 : Class := { plain "java/lang/constant/ConstantDesc" (some 0) with
  accessFlags := 1537
  interfaces := #[]
  cf := some (fileOf pool7 1 #[] #[] 1537 3 #[] #[])
  fields := #[]
  methods := #[]
  instanceTypes := #[]
  staticTypes := #[]
  resolved := Array.replicate 37 none
  statics := none }

def pool8 : Array CpInfo := pool [(1, .methodref 2 3), (0, .class_ 4), (0, .nameAndType 5 6), (0, u "java/lang/Object"), (0, u "<init>"), (0, u "()V"), (0, .string 8), (0, u ""), (0, .fieldref 10 11), (0, .class_ 12), (0, .nameAndType 13 14), (0, u "java/lang/String"), (0, u "value"), (0, u "[B"), (0, .fieldref 10 16), (0, .nameAndType 17 18), (0, u "coder"), (0, u "B"), (2, u "hash"), (0, u "I"), (2, u "hashIsZero"), (0, u "Z"), (0, .methodref 10 28), (0, .nameAndType 5 29), (0, u "([CIILjava/lang/Void;)V"), (8, .fieldref 10 39), (0, .nameAndType 40 26), (0, u "COMPACT_STRINGS"), (1, .class_ 44), (1, u "java/lang/StringUTF16"), (0, u "compress"), (1, .methodref 42 48), (0, .nameAndType 49 50), (0, u "coderFromArrayLen"), (0, u "([BI)B"), (56, .class_ 109), (1, u "java/lang/StringLatin1"), (67, .methodref 42 178), (0, .nameAndType 45 179), (0, u "([CII)[B"), (361, .methodref 107 542), (0, .nameAndType 543 544), (0, u "equals"), (0, u "([B[B)Z"), (28, u "(Ljava/lang/Object;)Z"), (1, .class_ 576), (0, u "java/lang/CharSequence"), (22, u "CASE_INSENSITIVE_ORDER"), (0, u "Ljava/util/Comparator;"), (409, u "([C)V"), (90, u "serialPersistentFields"), (0, u "[Ljava/io/ObjectStreamField;"), (0, .class_ 1104), (0, u "java/lang/String$CaseInsensitiveComparator"), (1, .class_ 1107), (0, u "java/io/Serializable"), (0, .class_ 1109), (0, u "java/lang/Comparable"), (0, .class_ 1111), (0, u "java/lang/constant/Constable"), (0, .class_ 1113), (0, u "java/lang/constant/ConstantDesc"), (2, u "serialVersionUID"), (0, u "J"), (3, u "REPL"), (0, u "C"), (2, u "LATIN1"), (1, u "UTF16")] 323

def k8m0 : Method := { name := "<init>", desc := "()V", sig := { parameters := [], returnType := none }, accessFlags := 1, code := none }
def k8c1 : Code := { maxStack := 5, maxLocals := 2, code := jdk_42_method_3_code, exceptionTable := #[], attributes := #[] }
def k8m1 : Method := { name := "<init>", desc := "([C)V", sig := { parameters := [(.array .char)], returnType := none }, accessFlags := 1, code := some k8c1 }
def k8c2 : Code := { maxStack := 2, maxLocals := 3, code := jdk_42_method_66_code, exceptionTable := #[], attributes := #[] }
def k8m2 : Method := { name := "equals", desc := "(Ljava/lang/Object;)Z", sig := { parameters := [(.object "java/lang/Object")], returnType := some .boolean }, accessFlags := 1, code := some k8c2 }
def k8c3 : Code := { maxStack := 4, maxLocals := 6, code := jdk_42_method_149_code, exceptionTable := #[], attributes := #[] }
def k8m3 : Method := { name := "<init>", desc := "([CIILjava/lang/Void;)V", sig := { parameters := [(.array .char), .int, .int, (.object "java/lang/Void")], returnType := none }, accessFlags := 2, code := some k8c3 }
/-- java/lang/String -/
def k8 : Class := { plain "java/lang/String" (some 0) with
  accessFlags := 49
  interfaces := #[3, 4, 5, 6, 7]
  cf := some (fileOf pool8 10 #[.nestMembers #[1103]] #[{ accessFlags := 1, nameIndex := 5, descriptorIndex := 6, attributes := #[] }, { accessFlags := 1, nameIndex := 5, descriptorIndex := 1010, attributes := #[] }, { accessFlags := 1, nameIndex := 543, descriptorIndex := 573, attributes := #[] }, { accessFlags := 2, nameIndex := 5, descriptorIndex := 29, attributes := #[] }] 49 2 #[1106, 1108, 575, 1110, 1112] #[{ accessFlags := 18, nameIndex := 13, descriptorIndex := 14, attributes := #[] }, { accessFlags := 18, nameIndex := 17, descriptorIndex := 18, attributes := #[] }, { accessFlags := 2, nameIndex := 21, descriptorIndex := 22, attributes := #[] }, { accessFlags := 2, nameIndex := 25, descriptorIndex := 26, attributes := #[] }, { accessFlags := 26, nameIndex := 1116, descriptorIndex := 1117, attributes := #[] }, { accessFlags := 24, nameIndex := 40, descriptorIndex := 26, attributes := #[] }, { accessFlags := 26, nameIndex := 1101, descriptorIndex := 1102, attributes := #[] }, { accessFlags := 26, nameIndex := 1121, descriptorIndex := 1122, attributes := #[] }, { accessFlags := 25, nameIndex := 599, descriptorIndex := 600, attributes := #[] }, { accessFlags := 24, nameIndex := 1125, descriptorIndex := 18, attributes := #[] }, { accessFlags := 24, nameIndex := 1127, descriptorIndex := 18, attributes := #[] }])
  fields := #[{ name := "value", type := (.array .byte), accessFlags := 18, slot := 0, constantValue := 0 }, { name := "coder", type := .byte, accessFlags := 18, slot := 1, constantValue := 0 }, { name := "hash", type := .int, accessFlags := 2, slot := 2, constantValue := 0 }, { name := "hashIsZero", type := .boolean, accessFlags := 2, slot := 3, constantValue := 0 }, { name := "serialVersionUID", type := .long, accessFlags := 26, slot := 0, constantValue := 0 }, { name := "COMPACT_STRINGS", type := .boolean, accessFlags := 24, slot := 1, constantValue := 0 }, { name := "serialPersistentFields", type := (.array (.object "java/io/ObjectStreamField")), accessFlags := 26, slot := 2, constantValue := 0 }, { name := "REPL", type := .char, accessFlags := 26, slot := 3, constantValue := 0 }, { name := "CASE_INSENSITIVE_ORDER", type := (.object "java/util/Comparator"), accessFlags := 25, slot := 4, constantValue := 0 }, { name := "LATIN1", type := .byte, accessFlags := 24, slot := 5, constantValue := 0 }, { name := "UTF16", type := .byte, accessFlags := 24, slot := 6, constantValue := 0 }]
  methods := #[k8m0, k8m1, k8m2, k8m3]
  instanceTypes := #[(.array .byte), .byte, .int, .boolean]
  staticTypes := #[.long, .boolean, (.array (.object "java/io/ObjectStreamField")), .char, (.object "java/util/Comparator"), .byte, .byte]
  resolved := Array.replicate 1451 none
  statics := some 0 }

def pool9 : Array CpInfo := pool [(1, .methodref 2 3), (0, .class_ 4), (0, .nameAndType 5 6), (0, u "java/lang/Object"), (0, u "<init>"), (0, u "()V"), (0, .class_ 8), (0, u "java/lang/Record")] 13

def k9c0 : Code := { maxStack := 1, maxLocals := 1, code := jdk_30_method_1_code, exceptionTable := #[], attributes := #[] }
def k9m0 : Method := { name := "<init>", desc := "()V", sig := { parameters := [], returnType := none }, accessFlags := 4, code := some k9c0 }
/-- java/lang/Record -/
def k9 : Class := { plain "java/lang/Record" (some 0) with
  accessFlags := 1057
  interfaces := #[]
  cf := some (fileOf pool9 7 #[] #[{ accessFlags := 4, nameIndex := 5, descriptorIndex := 6, attributes := #[] }] 1057 2 #[] #[])
  fields := #[]
  methods := #[k9m0]
  instanceTypes := #[]
  staticTypes := #[]
  resolved := Array.replicate 22 none
  statics := none }

def pool10 : Array CpInfo := pool [(1, .methodref 2 3), (0, .class_ 4), (0, .nameAndType 5 6), (0, u "java/lang/Record"), (0, u "<init>"), (0, u "()V"), (0, .string 8), (0, u "code"), (0, .methodref 10 11), (0, .class_ 12), (0, .nameAndType 13 14), (0, u "java/util/Objects"), (0, u "requireNonNull"), (0, u "(Ljava/lang/Object;Ljava/lang/String;)Ljava/lang/Object;"), (0, .fieldref 16 17), (0, .class_ 18), (0, .nameAndType 19 20), (0, u "com/example/wardkey/wardkey/policy/Code"), (0, u "system"), (0, u "Ljava/lang/String;"), (0, .fieldref 16 22), (0, .nameAndType 8 20), (1, .class_ 26), (1, u "java/lang/String"), (11, u "SYSTEM"), (0, u "Ljava/util/regex/Pattern;"), (18, u "CODE"), (11, u "(Ljava/lang/String;Ljava/lang/String;)V"), (9, .methodref 24 81), (0, .nameAndType 82 83), (0, u "equals"), (0, u "(Ljava/lang/Object;)Z"), (27, u "overlaps"), (0, u "(Lcom/example/wardkey/wardkey/policy/Code;)Z")] 39

def k10c0 : Code := { maxStack := 2, maxLocals := 3, code := prog_21_method_1_code, exceptionTable := #[], attributes := #[] }
def k10m0 : Method := { name := "<init>", desc := "(Ljava/lang/String;Ljava/lang/String;)V", sig := { parameters := [(.object "java/lang/String"), (.object "java/lang/String")], returnType := none }, accessFlags := 1, code := some k10c0 }
def k10c1 : Code := { maxStack := 2, maxLocals := 2, code := prog_21_method_4_code, exceptionTable := #[], attributes := #[] }
def k10m1 : Method := { name := "overlaps", desc := "(Lcom/example/wardkey/wardkey/policy/Code;)Z", sig := { parameters := [(.object "com/example/wardkey/wardkey/policy/Code")], returnType := some .boolean }, accessFlags := 1, code := some k10c1 }
/-- com/example/wardkey/wardkey/policy/Code -/
def k10 : Class := { plain "com/example/wardkey/wardkey/policy/Code" (some 9) with
  accessFlags := 49
  interfaces := #[]
  cf := some (fileOf pool10 16 #[] #[{ accessFlags := 1, nameIndex := 5, descriptorIndex := 70, attributes := #[] }, { accessFlags := 1, nameIndex := 111, descriptorIndex := 112, attributes := #[] }] 49 2 #[] #[{ accessFlags := 18, nameIndex := 19, descriptorIndex := 20, attributes := #[] }, { accessFlags := 18, nameIndex := 8, descriptorIndex := 20, attributes := #[] }, { accessFlags := 26, nameIndex := 58, descriptorIndex := 39, attributes := #[] }, { accessFlags := 26, nameIndex := 38, descriptorIndex := 39, attributes := #[] }])
  fields := #[{ name := "system", type := (.object "java/lang/String"), accessFlags := 18, slot := 0, constantValue := 0 }, { name := "code", type := (.object "java/lang/String"), accessFlags := 18, slot := 1, constantValue := 0 }, { name := "CODE", type := (.object "java/util/regex/Pattern"), accessFlags := 26, slot := 0, constantValue := 0 }, { name := "SYSTEM", type := (.object "java/util/regex/Pattern"), accessFlags := 26, slot := 1, constantValue := 0 }]
  methods := #[k10m0, k10m1]
  instanceTypes := #[(.object "java/lang/String"), (.object "java/lang/String")]
  staticTypes := #[(.object "java/util/regex/Pattern"), (.object "java/util/regex/Pattern")]
  resolved := Array.replicate 152 none
  statics := none }

def pool11 : Array CpInfo := pool [(2, .class_ 4), (1, u "java/lang/Object"), (0, u "<init>"), (0, u "()V"), (35, .class_ 44), (1, u "java/util/Objects"), (0, u "requireNonNull"), (48, u "(Ljava/lang/Object;Ljava/lang/String;)Ljava/lang/Object;")] 89

def k11m0 : Method := { name := "<init>", desc := "()V", sig := { parameters := [], returnType := none }, accessFlags := 2, code := none }
def k11c1 : Code := { maxStack := 3, maxLocals := 2, code := jdk_31_method_11_code, exceptionTable := #[], attributes := #[] }
def k11m1 : Method := { name := "requireNonNull", desc := "(Ljava/lang/Object;Ljava/lang/String;)Ljava/lang/Object;", sig := { parameters := [(.object "java/lang/Object"), (.object "java/lang/String")], returnType := some (.object "java/lang/Object") }, accessFlags := 9, code := some k11c1 }
/-- java/util/Objects -/
def k11 : Class := { plain "java/util/Objects" (some 0) with
  accessFlags := 49
  interfaces := #[]
  cf := some (fileOf pool11 42 #[] #[{ accessFlags := 2, nameIndex := 5, descriptorIndex := 6, attributes := #[] }, { accessFlags := 9, nameIndex := 45, descriptorIndex := 94, attributes := #[] }] 49 2 #[] #[])
  fields := #[]
  methods := #[k11m0, k11m1]
  instanceTypes := #[]
  staticTypes := #[]
  resolved := Array.replicate 184 none
  statics := none }

def pool12 : Array CpInfo := pool [(4, .class_ 6), (1, u "java/lang/Object"), (0, u "<init>"), (0, u "()V"), (5, .class_ 16), (1, u "java/lang/StringLatin1"), (104, u "$assertionsDisabled"), (0, u "Z"), (98, .class_ 223), (1, u "java/lang/StringLatin1$LinesSpliterator"), (57, u "equals"), (0, u "([B[B)Z"), (107, .class_ 391), (0, u "java/lang/StringLatin1$CharsSpliterator")] 3

def k12m0 : Method := { name := "<init>", desc := "()V", sig := { parameters := [], returnType := none }, accessFlags := 0, code := none }
def k12c1 : Code := { maxStack := 3, maxLocals := 3, code := jdk_43_method_13_code, exceptionTable := #[], attributes := #[] }
def k12m1 : Method := { name := "equals", desc := "([B[B)Z", sig := { parameters := [(.array .byte), (.array .byte)], returnType := some .boolean }, accessFlags := 9, code := some k12c1 }
/-- java/lang/StringLatin1 -/
def k12 : Class := { plain "java/lang/StringLatin1" (some 0) with
  accessFlags := 48
  interfaces := #[]
  cf := some (fileOf pool12 14 #[.nestMembers #[390, 221]] #[{ accessFlags := 0, nameIndex := 7, descriptorIndex := 8, attributes := #[] }, { accessFlags := 9, nameIndex := 281, descriptorIndex := 282, attributes := #[] }] 48 4 #[] #[{ accessFlags := 4120, nameIndex := 121, descriptorIndex := 122, attributes := #[] }])
  fields := #[{ name := "$assertionsDisabled", type := .boolean, accessFlags := 4120, slot := 0, constantValue := 0 }]
  methods := #[k12m0, k12m1]
  instanceTypes := #[]
  staticTypes := #[.boolean]
  resolved := Array.replicate 395 none
  statics := none }

def pool13 : Array CpInfo := pool [(6, .class_ 8), (1, u "java/lang/Object"), (0, u "<init>"), (0, u "()V"), (1, .class_ 14), (1, u "java/lang/StringUTF16"), (31, u "$assertionsDisabled"), (0, u "Z"), (13, u "HI_BYTE_SHIFT"), (0, u "I"), (2, u "LO_BYTE_SHIFT"), (49, .methodref 12 116), (0, .nameAndType 117 118), (0, u "compress"), (0, u "([CI[BII)I"), (3, u "([CII)[B"), (138, u "coderFromArrayLen"), (0, u "([BI)B"), (106, .class_ 371), (1, u "java/lang/StringUTF16$LinesSpliterator"), (58, u "MAX_LENGTH"), (196, .class_ 628), (0, u "java/lang/StringUTF16$CodePointsSpliterator"), (0, .class_ 630), (0, u "java/lang/StringUTF16$CharsSpliterator")] 4

def k13m0 : Method := { name := "<init>", desc := "()V", sig := { parameters := [], returnType := none }, accessFlags := 0, code := none }
def k13c1 : Code := { maxStack := 2, maxLocals := 2, code := jdk_52_method_15_code, exceptionTable := #[], attributes := #[] }
def k13m1 : Method := { name := "coderFromArrayLen", desc := "([BI)B", sig := { parameters := [(.array .byte), .int], returnType := some .byte }, accessFlags := 8, code := some k13c1 }
def k13c2 : Code := { maxStack := 5, maxLocals := 6, code := jdk_52_method_16_code, exceptionTable := #[], attributes := #[] }
def k13m2 : Method := { name := "compress", desc := "([CII)[B", sig := { parameters := [(.array .char), .int, .int], returnType := some (.array .byte) }, accessFlags := 9, code := some k13c2 }
def k13c3 : Code := { maxStack := 3, maxLocals := 7, code := jdk_52_method_21_code, exceptionTable := #[], attributes := #[] }
def k13m3 : Method := { name := "compress", desc := "([CI[BII)I", sig := { parameters := [(.array .char), .int, (.array .byte), .int, .int], returnType := some .int }, accessFlags := 9, code := some k13c3 }
/-- java/lang/StringUTF16 -/
def k13 : Class := { plain "java/lang/StringUTF16" (some 0) with
  accessFlags := 48
  interfaces := #[]
  cf := some (fileOf pool13 12 #[.nestMembers #[627, 629, 369]] #[{ accessFlags := 0, nameIndex := 9, descriptorIndex := 10, attributes := #[] }, { accessFlags := 8, nameIndex := 261, descriptorIndex := 262, attributes := #[] }, { accessFlags := 9, nameIndex := 117, descriptorIndex := 122, attributes := #[] }, { accessFlags := 9, nameIndex := 117, descriptorIndex := 118, attributes := #[] }] 48 6 #[] #[{ accessFlags := 26, nameIndex := 61, descriptorIndex := 62, attributes := #[] }, { accessFlags := 26, nameIndex := 65, descriptorIndex := 62, attributes := #[] }, { accessFlags := 24, nameIndex := 430, descriptorIndex := 62, attributes := #[] }, { accessFlags := 4120, nameIndex := 46, descriptorIndex := 47, attributes := #[] }])
  fields := #[{ name := "HI_BYTE_SHIFT", type := .int, accessFlags := 26, slot := 0, constantValue := 0 }, { name := "LO_BYTE_SHIFT", type := .int, accessFlags := 26, slot := 1, constantValue := 0 }, { name := "MAX_LENGTH", type := .int, accessFlags := 24, slot := 2, constantValue := 0 }, { name := "$assertionsDisabled", type := .boolean, accessFlags := 4120, slot := 3, constantValue := 0 }]
  methods := #[k13m0, k13m1, k13m2, k13m3]
  instanceTypes := #[]
  staticTypes := #[.int, .int, .int, .boolean]
  resolved := Array.replicate 635 none
  statics := none }

def pool14 : Array CpInfo := pool [(2, .class_ 4), (1, u "java/lang/Object"), (0, u "<init>"), (0, u "()V"), (17, .class_ 26), (1, u "jdk/internal/util/Preconditions"), (28, .class_ 56), (0, u "jdk/internal/util/Preconditions$4"), (57, .class_ 115), (0, u "jdk/internal/util/Preconditions$1"), (7, u "SIOOBE_FORMATTER"), (0, u "Ljava/util/function/BiFunction;"), (0, .class_ 126), (0, u "jdk/internal/util/Preconditions$2"), (3, u "AIOOBE_FORMATTER"), (0, .class_ 132), (0, u "jdk/internal/util/Preconditions$3"), (3, u "IOOBE_FORMATTER")] 57

def k14m0 : Method := { name := "<init>", desc := "()V", sig := { parameters := [], returnType := none }, accessFlags := 1, code := none }
/-- jdk/internal/util/Preconditions -/
def k14 : Class := { plain "jdk/internal/util/Preconditions" (some 0) with
  accessFlags := 33
  interfaces := #[]
  cf := some (fileOf pool14 24 #[.nestMembers #[55, 131, 125, 114]] #[{ accessFlags := 1, nameIndex := 5, descriptorIndex := 6, attributes := #[] }] 33 2 #[] #[{ accessFlags := 25, nameIndex := 123, descriptorIndex := 124, attributes := #[] }, { accessFlags := 25, nameIndex := 130, descriptorIndex := 124, attributes := #[] }, { accessFlags := 25, nameIndex := 136, descriptorIndex := 124, attributes := #[] }])
  fields := #[{ name := "SIOOBE_FORMATTER", type := (.object "java/util/function/BiFunction"), accessFlags := 25, slot := 0, constantValue := 0 }, { name := "AIOOBE_FORMATTER", type := (.object "java/util/function/BiFunction"), accessFlags := 25, slot := 1, constantValue := 0 }, { name := "IOOBE_FORMATTER", type := (.object "java/util/function/BiFunction"), accessFlags := 25, slot := 2, constantValue := 0 }]
  methods := #[k14m0]
  instanceTypes := #[]
  staticTypes := #[(.object "java/util/function/BiFunction"), (.object "java/util/function/BiFunction"), (.object "java/util/function/BiFunction")]
  resolved := Array.replicate 194 none
  statics := some 1 }

def pool15 : Array CpInfo := pool [(9, u "<init>"), (6, .class_ 18), (1, u "java/lang/Object"), (0, u "()V"), (1, .class_ 23), (1, u "jdk/internal/util/ArraysSupport"), (0, u "LOG2_ARRAY_LONG_INDEX_SCALE"), (0, u "I"), (2, u "U"), (0, u "Ljdk/internal/misc/Unsafe;"), (8, u "BIG_ENDIAN"), (0, u "Z"), (8, u "LOG2_BYTE_BIT_SIZE"), (4, u "LOG2_ARRAY_INT_INDEX_SCALE"), (54, u "JLA"), (0, u "Ljdk/internal/access/JavaLangAccess;"), (11, u "LOG2_ARRAY_BOOLEAN_INDEX_SCALE"), (9, u "LOG2_ARRAY_BYTE_INDEX_SCALE"), (5, u "LOG2_ARRAY_CHAR_INDEX_SCALE"), (5, u "LOG2_ARRAY_SHORT_INDEX_SCALE"), (18, u "LOG2_ARRAY_FLOAT_INDEX_SCALE"), (24, u "LOG2_ARRAY_DOUBLE_INDEX_SCALE"), (89, u "T_BOOLEAN"), (2, u "T_CHAR"), (1, u "T_FLOAT"), (1, u "T_DOUBLE"), (1, u "T_BYTE"), (1, u "T_SHORT"), (1, u "T_INT"), (1, u "T_LONG"), (1, u "SOFT_MAX_ARRAY_LENGTH")] 83

def k15m0 : Method := { name := "<init>", desc := "()V", sig := { parameters := [], returnType := none }, accessFlags := 2, code := none }
/-- jdk/internal/util/ArraysSupport -/
def k15 : Class := { plain "jdk/internal/util/ArraysSupport" (some 0) with
  accessFlags := 33
  interfaces := #[]
  cf := some (fileOf pool15 21 #[] #[{ accessFlags := 2, nameIndex := 9, descriptorIndex := 19, attributes := #[] }] 33 16 #[] #[{ accessFlags := 24, nameIndex := 28, descriptorIndex := 29, attributes := #[] }, { accessFlags := 26, nameIndex := 38, descriptorIndex := 39, attributes := #[] }, { accessFlags := 25, nameIndex := 121, descriptorIndex := 25, attributes := #[] }, { accessFlags := 25, nameIndex := 131, descriptorIndex := 25, attributes := #[] }, { accessFlags := 25, nameIndex := 137, descriptorIndex := 25, attributes := #[] }, { accessFlags := 25, nameIndex := 143, descriptorIndex := 25, attributes := #[] }, { accessFlags := 25, nameIndex := 53, descriptorIndex := 25, attributes := #[] }, { accessFlags := 25, nameIndex := 24, descriptorIndex := 25, attributes := #[] }, { accessFlags := 25, nameIndex := 162, descriptorIndex := 25, attributes := #[] }, { accessFlags := 25, nameIndex := 187, descriptorIndex := 25, attributes := #[] }, { accessFlags := 26, nameIndex := 48, descriptorIndex := 25, attributes := #[] }, { accessFlags := 25, nameIndex := 277, descriptorIndex := 25, attributes := #[] }, { accessFlags := 25, nameIndex := 280, descriptorIndex := 25, attributes := #[] }, { accessFlags := 25, nameIndex := 282, descriptorIndex := 25, attributes := #[] }, { accessFlags := 25, nameIndex := 284, descriptorIndex := 25, attributes := #[] }, { accessFlags := 25, nameIndex := 286, descriptorIndex := 25, attributes := #[] }, { accessFlags := 25, nameIndex := 288, descriptorIndex := 25, attributes := #[] }, { accessFlags := 25, nameIndex := 290, descriptorIndex := 25, attributes := #[] }, { accessFlags := 25, nameIndex := 292, descriptorIndex := 25, attributes := #[] }, { accessFlags := 26, nameIndex := 108, descriptorIndex := 109, attributes := #[] }, { accessFlags := 25, nameIndex := 294, descriptorIndex := 25, attributes := #[] }])
  fields := #[{ name := "U", type := (.object "jdk/internal/misc/Unsafe"), accessFlags := 24, slot := 0, constantValue := 0 }, { name := "BIG_ENDIAN", type := .boolean, accessFlags := 26, slot := 1, constantValue := 0 }, { name := "LOG2_ARRAY_BOOLEAN_INDEX_SCALE", type := .int, accessFlags := 25, slot := 2, constantValue := 0 }, { name := "LOG2_ARRAY_BYTE_INDEX_SCALE", type := .int, accessFlags := 25, slot := 3, constantValue := 0 }, { name := "LOG2_ARRAY_CHAR_INDEX_SCALE", type := .int, accessFlags := 25, slot := 4, constantValue := 0 }, { name := "LOG2_ARRAY_SHORT_INDEX_SCALE", type := .int, accessFlags := 25, slot := 5, constantValue := 0 }, { name := "LOG2_ARRAY_INT_INDEX_SCALE", type := .int, accessFlags := 25, slot := 6, constantValue := 0 }, { name := "LOG2_ARRAY_LONG_INDEX_SCALE", type := .int, accessFlags := 25, slot := 7, constantValue := 0 }, { name := "LOG2_ARRAY_FLOAT_INDEX_SCALE", type := .int, accessFlags := 25, slot := 8, constantValue := 0 }, { name := "LOG2_ARRAY_DOUBLE_INDEX_SCALE", type := .int, accessFlags := 25, slot := 9, constantValue := 0 }, { name := "LOG2_BYTE_BIT_SIZE", type := .int, accessFlags := 26, slot := 10, constantValue := 0 }, { name := "T_BOOLEAN", type := .int, accessFlags := 25, slot := 11, constantValue := 0 }, { name := "T_CHAR", type := .int, accessFlags := 25, slot := 12, constantValue := 0 }, { name := "T_FLOAT", type := .int, accessFlags := 25, slot := 13, constantValue := 0 }, { name := "T_DOUBLE", type := .int, accessFlags := 25, slot := 14, constantValue := 0 }, { name := "T_BYTE", type := .int, accessFlags := 25, slot := 15, constantValue := 0 }, { name := "T_SHORT", type := .int, accessFlags := 25, slot := 16, constantValue := 0 }, { name := "T_INT", type := .int, accessFlags := 25, slot := 17, constantValue := 0 }, { name := "T_LONG", type := .int, accessFlags := 25, slot := 18, constantValue := 0 }, { name := "JLA", type := (.object "jdk/internal/access/JavaLangAccess"), accessFlags := 26, slot := 19, constantValue := 0 }, { name := "SOFT_MAX_ARRAY_LENGTH", type := .int, accessFlags := 25, slot := 20, constantValue := 0 }]
  methods := #[k15m0]
  instanceTypes := #[]
  staticTypes := #[(.object "jdk/internal/misc/Unsafe"), .boolean, .int, .int, .int, .int, .int, .int, .int, .int, .int, .int, .int, .int, .int, .int, .int, .int, .int, (.object "jdk/internal/access/JavaLangAccess"), .int]
  resolved := Array.replicate 378 none
  statics := none }

def pool16 : Array CpInfo := pool [(1, u "java/lang/Cloneable"), (0, .class_ 1), (0, u "java/lang/Object"), (0, .class_ 3)] 3

/-- java/lang/Cloneable -/
def k16 : Class := { plain "java/lang/Cloneable" (some 0) with
  accessFlags := 1537
  interfaces := #[]
  cf := some (fileOf pool16 2 #[] #[] 1537 4 #[] #[])
  fields := #[]
  methods := #[]
  instanceTypes := #[]
  staticTypes := #[]
  resolved := Array.replicate 8 none
  statics := none }

/-- the primitive byte -/
def k17 : Class := { plain "byte" none with kind := .primitive 'B', accessFlags := 0x411 }
/-- [B -/
def k18 : Class := { plain "[B" (some 0) with kind := .array 17 .byte, interfaces := #[16, 3], accessFlags := 1041 }

/-- the primitive char -/
def k19 : Class := { plain "char" none with kind := .primitive 'C', accessFlags := 0x411 }
/-- [C -/
def k20 : Class := { plain "[C" (some 0) with kind := .array 19 .char, interfaces := #[16, 3], accessFlags := 1041 }

/-- the primitive int -/
def k21 : Class := { plain "int" none with kind := .primitive 'I', accessFlags := 0x411 }
/-- [I -/
def k22 : Class := { plain "[I" (some 0) with kind := .array 21 .int, interfaces := #[16, 3], accessFlags := 1041 }

def heap : Heap := #[{ cls := 8, slots := #[.long 0, .int 1, .null, .int 0, .null, .int 0, .int 0], vm := .statics 8 },
  { cls := 14, slots := #[.null, .null, .null], vm := .statics 14 }]
def classes : Array Class := #[k0, k1, k2, k3, k4, k5, k6, k7, k8, k9, k10, k11, k12, k13, k14, k15, k16, k17, k18, k19, k20, k21, k22]
def interned : List (Array UInt16 × Addr) := []
def slotsUsed : Nat := 10
def theMethod : MethodId := ⟨1, 6⟩
def args0 : Array Value := #[.int 2, .int 6, .int 1, .int 2]
def aboutOver (below : List Frame) : State where
  vm := { classes := classes, interned := interned.toArray }
  heap := heap
  slotsUsed := slotsUsed
  threads := #[{ frames := .invoking theMethod args0 :: below }]
def below0 : List Frame := [.native { method := ⟨0, 0⟩, args := #[] }]
def about1 : State := aboutOver below0
def p0 : Program := .bare "" "" ""
def e0 : Env := launch0.env 0 0 0
theorem w_frames : about1.frames = Frame.invoking theMethod args0 :: below0 := rfl
set_option maxRecDepth 65536 in
theorem w_args : argsFit about1.vm theMethod args0 = true := by decide +kernel
set_option maxRecDepth 65536 in
theorem w_heap : heapFits about1 = true := by decide +kernel
set_option maxRecDepth 65536 in
theorem w_runnable : about1.curStatus? = some .runnable := by decide +kernel
set_option maxRecDepth 65536 in
theorem w_alone : about1.alone = true := by decide +kernel
set_option maxRecDepth 65536 in
theorem w_named : about1.methodNamed? x = some theMethod := by decide +kernel
set_option maxRecDepth 65536 in
theorem w_hears : about1.hears theMethod below0 = true := by decide +kernel
set_option maxRecDepth 65536 in
theorem w_ripe : about1.ripe theMethod args0 below0 = true := by decide +kernel
theorem w_running : about1.status = .running := rfl
set_option maxRecDepth 65536 in
theorem w_room : about1.hasRoom e0.platform room_1 = true :=
  launch0.hasRoom_least _ room_1 (by decide +kernel) (by decide +kernel) (by decide +kernel) (by decide +kernel) (by decide +kernel) (by decide +kernel)
theorem allAtoms_all (ts : List Jvm.Cond) (a : Array Jvm.Value) (st : Jvm.State) : (allAtoms ts).before a st = ts.all (fun c => c.before a st) := by
  induction ts with
  | nil => rfl
  | cons c t ih =>
    show (Jvm.Cond.and c (allAtoms t)).before a st = _
    rw [Jvm.Cond.before_and, ih, List.all_cons]
def words1 : List Jvm.Cond := Jvm.Cond.code x code maxLocals ret :: tables_1
/-- a 'code' word, met by the world's own term for the bytes: nothing is compared byte by byte -/
theorem code_word {y : MethodName} {bytes : ByteArray} {mx : Nat} {rt : Option FieldType} {a : Array Value} {s : State} {m : MethodId} {meth : Method} {c : Code} (h1 : s.methodNamed? y = some m) (h2 : s.vm.method? m = some meth) (h3 : meth.code = some c) (h4 : c.code = bytes)
    (h5 : (c.maxLocals == mx && c.exceptionTable.isEmpty && decide (c.maxStack ≤ mostOperands) && decide (meth.sig.returnType = rt) && !meth.locks && decide (parseMethodDescriptor y.desc = some meth.sig)) = true) : (Jvm.Cond.code y bytes mx rt).before a s = true := by
  simp only [Bool.and_eq_true, beq_iff_eq, Bool.not_eq_true', decide_eq_true_eq] at h5
  obtain ⟨⟨⟨⟨⟨g1, g2⟩, g3⟩, g4⟩, g5⟩, g6⟩ := h5
  simp [Cond.before, Cond.holds, Cond.value, h1, h2, h3, h4, g1, g2, g3, g4, g5, g6]
def isCode : Jvm.Cond → Bool
  | .code _ _ _ _ => true
  | _ => false
theorem all_split {L : List Jvm.Cond} {P : Jvm.Cond → Bool} (h1 : L.all (fun c => isCode c || P c) = true) (h2 : ∀ c ∈ L.filter isCode, P c = true) : L.all P = true := by
  refine List.all_eq_true.mpr fun c hc => ?_
  have h := List.all_eq_true.mp h1 c hc
  rcases Bool.eq_false_or_eq_true (isCode c) with hi | hi
  · exact h2 c (List.mem_filter.mpr ⟨hc, hi⟩)
  · simpa [hi] using h
set_option maxRecDepth 65536 in
theorem w_c0 : (Jvm.Cond.code x code maxLocals ret).before args0 about1 = true := code_word (m := ⟨1, 6⟩) (meth := k1m6) (c := k1c6) (by decide +kernel) rfl rfl rfl (by decide +kernel)
set_option maxRecDepth 65536 in
theorem w_c1 : (Jvm.Cond.code ({ cls := "com/example/wardkey/wardkey/policy/CodeOverlapsPinLaw", name := "text", desc := "(I)Ljava/lang/String;" } : Jvm.MethodName) method_5_code (3 : Nat) (Option.some (Jvm.ClassFile.FieldType.object "java/lang/String"))).before args0 about1 = true := code_word (m := ⟨1, 4⟩) (meth := k1m4) (c := k1c4) (by decide +kernel) rfl rfl rfl (by decide +kernel)
set_option maxRecDepth 65536 in
theorem w_c2 : (Jvm.Cond.code ({ cls := "com/example/wardkey/wardkey/policy/CodeOverlapsPinLaw", name := "len", desc := "(I)I" } : Jvm.MethodName) method_2_code (1 : Nat) (Option.some Jvm.ClassFile.FieldType.int)).before args0 about1 = true := code_word (m := ⟨1, 1⟩) (meth := k1m1) (c := k1c1) (by decide +kernel) rfl rfl rfl (by decide +kernel)
set_option maxRecDepth 65536 in
theorem w_c3 : (Jvm.Cond.code ({ cls := "java/lang/Math", name := "min", desc := "(II)I" } : Jvm.MethodName) jdk_29_method_69_code (2 : Nat) (Option.some Jvm.ClassFile.FieldType.int)).before args0 about1 = true := code_word (m := ⟨2, 1⟩) (meth := k2m1) (c := k2c1) (by decide +kernel) rfl rfl rfl (by decide +kernel)
set_option maxRecDepth 65536 in
theorem w_c4 : (Jvm.Cond.code ({ cls := "java/lang/String", name := "<init>", desc := "([C)V" } : Jvm.MethodName) jdk_42_method_3_code (2 : Nat) (Option.none : Option Jvm.ClassFile.FieldType)).before args0 about1 = true := code_word (m := ⟨8, 1⟩) (meth := k8m1) (c := k8c1) (by decide +kernel) rfl rfl rfl (by decide +kernel)
set_option maxRecDepth 65536 in
theorem w_c5 : (Jvm.Cond.code ({ cls := "java/lang/String", name := "<init>", desc := "([CIILjava/lang/Void;)V" } : Jvm.MethodName) jdk_42_method_149_code (6 : Nat) (Option.none : Option Jvm.ClassFile.FieldType)).before args0 about1 = true := code_word (m := ⟨8, 3⟩) (meth := k8m3) (c := k8c3) (by decide +kernel) rfl rfl rfl (by decide +kernel)
set_option maxRecDepth 65536 in
theorem w_c6 : (Jvm.Cond.code ({ cls := "java/lang/Object", name := "<init>", desc := "()V" } : Jvm.MethodName) object_method_1_code (1 : Nat) (Option.none : Option Jvm.ClassFile.FieldType)).before args0 about1 = true := code_word (m := ⟨0, 0⟩) (meth := k0m0) (c := k0c0) (by decide +kernel) rfl rfl rfl (by decide +kernel)
set_option maxRecDepth 65536 in
theorem w_c7 : (Jvm.Cond.code ({ cls := "com/example/wardkey/wardkey/policy/Code", name := "<init>", desc := "(Ljava/lang/String;Ljava/lang/String;)V" } : Jvm.MethodName) prog_21_method_1_code (3 : Nat) (Option.none : Option Jvm.ClassFile.FieldType)).before args0 about1 = true := code_word (m := ⟨10, 0⟩) (meth := k10m0) (c := k10c0) (by decide +kernel) rfl rfl rfl (by decide +kernel)
set_option maxRecDepth 65536 in
theorem w_c8 : (Jvm.Cond.code ({ cls := "java/lang/Record", name := "<init>", desc := "()V" } : Jvm.MethodName) jdk_30_method_1_code (1 : Nat) (Option.none : Option Jvm.ClassFile.FieldType)).before args0 about1 = true := code_word (m := ⟨9, 0⟩) (meth := k9m0) (c := k9c0) (by decide +kernel) rfl rfl rfl (by decide +kernel)
set_option maxRecDepth 65536 in
theorem w_c9 : (Jvm.Cond.code ({ cls := "java/util/Objects", name := "requireNonNull", desc := "(Ljava/lang/Object;Ljava/lang/String;)Ljava/lang/Object;" } : Jvm.MethodName) jdk_31_method_11_code (2 : Nat) (Option.some (Jvm.ClassFile.FieldType.object "java/lang/Object"))).before args0 about1 = true := code_word (m := ⟨11, 1⟩) (meth := k11m1) (c := k11c1) (by decide +kernel) rfl rfl rfl (by decide +kernel)
set_option maxRecDepth 65536 in
theorem w_c10 : (Jvm.Cond.code ({ cls := "com/example/wardkey/wardkey/policy/CodeOverlapsPinLaw", name := "same", desc := "(II)Z" } : Jvm.MethodName) method_6_code (3 : Nat) (Option.some Jvm.ClassFile.FieldType.boolean)).before args0 about1 = true := code_word (m := ⟨1, 5⟩) (meth := k1m5) (c := k1c5) (by decide +kernel) rfl rfl rfl (by decide +kernel)
set_option maxRecDepth 65536 in
theorem w_c11 : (Jvm.Cond.code ({ cls := "com/example/wardkey/wardkey/policy/Code", name := "overlaps", desc := "(Lcom/example/wardkey/wardkey/policy/Code;)Z" } : Jvm.MethodName) prog_21_method_4_code (2 : Nat) (Option.some Jvm.ClassFile.FieldType.boolean)).before args0 about1 = true := code_word (m := ⟨10, 1⟩) (meth := k10m1) (c := k10c1) (by decide +kernel) rfl rfl rfl (by decide +kernel)
set_option maxRecDepth 65536 in
theorem w_c12 : (Jvm.Cond.code ({ cls := "java/lang/String", name := "equals", desc := "(Ljava/lang/Object;)Z" } : Jvm.MethodName) jdk_42_method_66_code (3 : Nat) (Option.some Jvm.ClassFile.FieldType.boolean)).before args0 about1 = true := code_word (m := ⟨8, 2⟩) (meth := k8m2) (c := k8c2) (by decide +kernel) rfl rfl rfl (by decide +kernel)
set_option maxRecDepth 65536 in
theorem w_c13 : (Jvm.Cond.code ({ cls := "java/lang/StringLatin1", name := "equals", desc := "([B[B)Z" } : Jvm.MethodName) jdk_43_method_13_code (3 : Nat) (Option.some Jvm.ClassFile.FieldType.boolean)).before args0 about1 = true := code_word (m := ⟨12, 1⟩) (meth := k12m1) (c := k12c1) (by decide +kernel) rfl rfl rfl (by decide +kernel)
set_option maxRecDepth 65536 in
theorem w_c14 : (Jvm.Cond.code ({ cls := "com/example/wardkey/wardkey/policy/CodeOverlapsPinLaw", name := "c0", desc := "(I)C" } : Jvm.MethodName) method_3_code (1 : Nat) (Option.some Jvm.ClassFile.FieldType.char)).before args0 about1 = true := code_word (m := ⟨1, 2⟩) (meth := k1m2) (c := k1c2) (by decide +kernel) rfl rfl rfl (by decide +kernel)
set_option maxRecDepth 65536 in
theorem w_c15 : (Jvm.Cond.code ({ cls := "com/example/wardkey/wardkey/policy/CodeOverlapsPinLaw", name := "c1", desc := "(I)C" } : Jvm.MethodName) method_4_code (1 : Nat) (Option.some Jvm.ClassFile.FieldType.char)).before args0 about1 = true := code_word (m := ⟨1, 3⟩) (meth := k1m3) (c := k1c3) (by decide +kernel) rfl rfl rfl (by decide +kernel)
set_option maxRecDepth 65536 in
theorem w_c16 : (Jvm.Cond.code ({ cls := "java/lang/StringUTF16", name := "compress", desc := "([CII)[B" } : Jvm.MethodName) jdk_52_method_16_code (6 : Nat) (Option.some (Jvm.ClassFile.FieldType.array Jvm.ClassFile.FieldType.byte))).before args0 about1 = true := code_word (m := ⟨13, 2⟩) (meth := k13m2) (c := k13c2) (by decide +kernel) rfl rfl rfl (by decide +kernel)
set_option maxRecDepth 65536 in
theorem w_c17 : (Jvm.Cond.code ({ cls := "java/lang/StringUTF16", name := "compress", desc := "([CI[BII)I" } : Jvm.MethodName) jdk_52_method_21_code (7 : Nat) (Option.some Jvm.ClassFile.FieldType.int)).before args0 about1 = true := code_word (m := ⟨13, 3⟩) (meth := k13m3) (c := k13c3) (by decide +kernel) rfl rfl rfl (by decide +kernel)
set_option maxRecDepth 65536 in
theorem w_c18 : (Jvm.Cond.code ({ cls := "java/lang/StringUTF16", name := "coderFromArrayLen", desc := "([BI)B" } : Jvm.MethodName) jdk_52_method_15_code (2 : Nat) (Option.some Jvm.ClassFile.FieldType.byte)).before args0 about1 = true := code_word (m := ⟨13, 1⟩) (meth := k13m1) (c := k13c1) (by decide +kernel) rfl rfl rfl (by decide +kernel)
def codes1 : List Jvm.Cond := [Jvm.Cond.code x code maxLocals ret, Jvm.Cond.code ({ cls := "com/example/wardkey/wardkey/policy/CodeOverlapsPinLaw", name := "text", desc := "(I)Ljava/lang/String;" } : Jvm.MethodName) method_5_code (3 : Nat) (Option.some (Jvm.ClassFile.FieldType.object "java/lang/String")), Jvm.Cond.code ({ cls := "com/example/wardkey/wardkey/policy/CodeOverlapsPinLaw", name := "len", desc := "(I)I" } : Jvm.MethodName) method_2_code (1 : Nat) (Option.some Jvm.ClassFile.FieldType.int), Jvm.Cond.code ({ cls := "java/lang/Math", name := "min", desc := "(II)I" } : Jvm.MethodName) jdk_29_method_69_code (2 : Nat) (Option.some Jvm.ClassFile.FieldType.int), Jvm.Cond.code ({ cls := "java/lang/String", name := "<init>", desc := "([C)V" } : Jvm.MethodName) jdk_42_method_3_code (2 : Nat) (Option.none : Option Jvm.ClassFile.FieldType), Jvm.Cond.code ({ cls := "java/lang/String", name := "<init>", desc := "([CIILjava/lang/Void;)V" } : Jvm.MethodName) jdk_42_method_149_code (6 : Nat) (Option.none : Option Jvm.ClassFile.FieldType), Jvm.Cond.code ({ cls := "java/lang/Object", name := "<init>", desc := "()V" } : Jvm.MethodName) object_method_1_code (1 : Nat) (Option.none : Option Jvm.ClassFile.FieldType), Jvm.Cond.code ({ cls := "com/example/wardkey/wardkey/policy/Code", name := "<init>", desc := "(Ljava/lang/String;Ljava/lang/String;)V" } : Jvm.MethodName) prog_21_method_1_code (3 : Nat) (Option.none : Option Jvm.ClassFile.FieldType), Jvm.Cond.code ({ cls := "java/lang/Record", name := "<init>", desc := "()V" } : Jvm.MethodName) jdk_30_method_1_code (1 : Nat) (Option.none : Option Jvm.ClassFile.FieldType), Jvm.Cond.code ({ cls := "java/util/Objects", name := "requireNonNull", desc := "(Ljava/lang/Object;Ljava/lang/String;)Ljava/lang/Object;" } : Jvm.MethodName) jdk_31_method_11_code (2 : Nat) (Option.some (Jvm.ClassFile.FieldType.object "java/lang/Object")), Jvm.Cond.code ({ cls := "com/example/wardkey/wardkey/policy/CodeOverlapsPinLaw", name := "same", desc := "(II)Z" } : Jvm.MethodName) method_6_code (3 : Nat) (Option.some Jvm.ClassFile.FieldType.boolean), Jvm.Cond.code ({ cls := "com/example/wardkey/wardkey/policy/Code", name := "overlaps", desc := "(Lcom/example/wardkey/wardkey/policy/Code;)Z" } : Jvm.MethodName) prog_21_method_4_code (2 : Nat) (Option.some Jvm.ClassFile.FieldType.boolean), Jvm.Cond.code ({ cls := "java/lang/String", name := "equals", desc := "(Ljava/lang/Object;)Z" } : Jvm.MethodName) jdk_42_method_66_code (3 : Nat) (Option.some Jvm.ClassFile.FieldType.boolean), Jvm.Cond.code ({ cls := "java/lang/StringLatin1", name := "equals", desc := "([B[B)Z" } : Jvm.MethodName) jdk_43_method_13_code (3 : Nat) (Option.some Jvm.ClassFile.FieldType.boolean), Jvm.Cond.code ({ cls := "com/example/wardkey/wardkey/policy/CodeOverlapsPinLaw", name := "c0", desc := "(I)C" } : Jvm.MethodName) method_3_code (1 : Nat) (Option.some Jvm.ClassFile.FieldType.char), Jvm.Cond.code ({ cls := "com/example/wardkey/wardkey/policy/CodeOverlapsPinLaw", name := "c1", desc := "(I)C" } : Jvm.MethodName) method_4_code (1 : Nat) (Option.some Jvm.ClassFile.FieldType.char), Jvm.Cond.code ({ cls := "java/lang/StringUTF16", name := "compress", desc := "([CII)[B" } : Jvm.MethodName) jdk_52_method_16_code (6 : Nat) (Option.some (Jvm.ClassFile.FieldType.array Jvm.ClassFile.FieldType.byte)), Jvm.Cond.code ({ cls := "java/lang/StringUTF16", name := "compress", desc := "([CI[BII)I" } : Jvm.MethodName) jdk_52_method_21_code (7 : Nat) (Option.some Jvm.ClassFile.FieldType.int), Jvm.Cond.code ({ cls := "java/lang/StringUTF16", name := "coderFromArrayLen", desc := "([BI)B" } : Jvm.MethodName) jdk_52_method_15_code (2 : Nat) (Option.some Jvm.ClassFile.FieldType.byte)]
set_option maxRecDepth 65536 in
theorem codes_eq : words1.filter isCode = codes1 := rfl
theorem w_codes : ∀ c ∈ words1.filter isCode, c.before args0 about1 = true := by
  rw [codes_eq]
  intro c hc
  simp only [codes1, List.mem_cons, List.not_mem_nil, or_false] at hc
  rcases hc with rfl | rfl | rfl | rfl | rfl | rfl | rfl | rfl | rfl | rfl | rfl | rfl | rfl | rfl | rfl | rfl | rfl | rfl | rfl
  · exact w_c0
  · exact w_c1
  · exact w_c2
  · exact w_c3
  · exact w_c4
  · exact w_c5
  · exact w_c6
  · exact w_c7
  · exact w_c8
  · exact w_c9
  · exact w_c10
  · exact w_c11
  · exact w_c12
  · exact w_c13
  · exact w_c14
  · exact w_c15
  · exact w_c16
  · exact w_c17
  · exact w_c18
set_option maxRecDepth 65536 in
theorem w_t1 : (words1.take 24).all (fun c => isCode c || c.before args0 about1) = true := by decide +kernel
set_option maxRecDepth 65536 in
theorem w_t2 : ((words1.drop 24).take 24).all (fun c => isCode c || c.before args0 about1) = true := by decide +kernel
set_option maxRecDepth 65536 in
theorem w_t3 : (((words1.drop 24).drop 24).take 24).all (fun c => isCode c || c.before args0 about1) = true := by decide +kernel
set_option maxRecDepth 65536 in
theorem w_t4 : (((words1.drop 24).drop 24).drop 24).all (fun c => isCode c || c.before args0 about1) = true := by decide +kernel
theorem w_tables : (allAtoms (Jvm.Cond.code x code maxLocals ret :: tables_1)).before args0 about1 = true := by
  rw [allAtoms_all]
  show words1.all (fun c => c.before args0 about1) = true
  refine all_split ?_ w_codes
  rw [← List.take_append_drop 24 words1, List.all_append, w_t1, ← List.take_append_drop 24 (words1.drop 24), List.all_append, w_t2, ← List.take_append_drop 24 ((words1.drop 24).drop 24), List.all_append, w_t3, w_t4]
  rfl
set_option maxRecDepth 65536 in
theorem w_rest : rest_1_c.before args0 about1 = true := by decide +kernel
set_option maxRecDepth 65536 in
theorem w_case : (Jvm.Cond.and given_1 narrow_1).before args0 about1 = true := by decide +kernel
set_option maxRecDepth 65536 in
theorem w_consts : constsHeld consts_1 about1 := Jvm.Lit.constsHeldB_iff.mp (by decide +kernel)
theorem w_applies : (headSpec (Jvm.Cond.code x code maxLocals ret :: tables_1) room_1).applies x e0.platform about1 = true :=
  (Spec.applies_iff w_frames).mpr ⟨w_running, w_runnable, w_alone, w_named, w_hears, w_ripe, w_room, w_tables⟩
theorem atStart : AtStart classFile x code maxLocals ret World_1 tables_1 room_1 Calls_1 rest_1 Pre_1 launch0 p0 e0 about1 theMethod args0 below0 :=
  ⟨lists_1, trivial, launch0.admits_env _ _ _, launch0.least_env, fairChoices_fair.cas, fairChoices_fair.clock, w_frames, w_args, w_heap, w_applies, ⟨w_consts, trivial⟩, w_rest, w_case⟩
end start1
theorem witness_1 : WitnessClaimed_1 := ⟨start1.p0, start1.e0, start1.about1, start1.theMethod, start1.args0, start1.below0, start1.atStart⟩
end Jvm.Pilot.@@N@@
