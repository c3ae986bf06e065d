import JvmDerived
import JvmDerived.Pilot.@@N@@Statement
import JvmDerived.Pilot.@@N@@Code
set_option linter.unusedVariables false
set_option linter.unusedSimpArgs false
/- laws to paste: Road.backV, Road.chN, Road.codOf (cut by pick.py; bodies as the Statement names them) -/
namespace Jvm.Pilot.@@N@@
namespace StrChars
open Jvm Sem ClassFile Op Lib Jvm.Stand Jvm.Free.XT Jvm.Free.ALB Jvm.Free.JM Jvm.Free
open Jvm.Lib.Cold (StaticIs)
/-- a char array whose places are chars -/
def Ch (a : Addr) (A : Cell) (U : State) : Prop := Arr .char a A U ∧ Typed .char A
theorem Ch.mv {a : Addr} {A : Cell} {U U' : State} (h : Ch a A U) (hal : U.vm.Alike U'.vm) (hh : U'.heap = U.heap) : Ch a A U' := ⟨h.1.mv hal hh, h.2⟩
theorem Ch.keep {a : Addr} {A : Cell} {U U' : State} (h : Ch a A U) (hal : U.vm.Alike U'.vm) (hk : U'.heap[a]? = some A) : Ch a A U' := ⟨h.1.keep hal hk, h.2⟩
/-- what place i of a char[]'s cell holds -/
def cv (A : Cell) (i : Nat) : Int32 := match A.slots[i]? with | some (.int x) => x | _ => 0
theorem Ch.get {a : Addr} {A : Cell} {U : State} (h : Ch a A U) {i : Nat} (hi : i < A.slots.size) : A.slots[i]? = some (.int (cv A i)) := by
  have e := Array.getElem?_eq_getElem hi
  have f := h.2 i _ e
  unfold cv; rw [e]
  generalize A.slots[i] = v at f
  cases v <;> simp [fits] at f ⊢
/-- the byte that i2b leaves of a char -/
def lo8 (x : Int32) : Int32 := x.toInt8.toInt32
theorem fits_lo8 (y : Int32) : fits .byte (.int (lo8 y)) = true := by
  have h1 := y.toInt8.le_toInt
  have h2 := y.toInt8.toInt_lt
  simp only [lo8, fits, Bool.and_eq_true, decide_eq_true_eq, Int32.le_iff_toInt_le, Int8.toInt_toInt32, show (-128 : Int32).toInt = -128 from by decide, show (127 : Int32).toInt = 127 from by decide]
  omega
/-- A' is A but that each place j of lo .. hi - 1 holds f j -/
def Laid (A A' : Cell) (lo hi : Nat) (f : Nat → Value) : Prop := A'.cls = A.cls ∧ A'.vm = A.vm ∧ A'.slots.size = A.slots.size ∧ ∀ i, A'.slots[i]? = if lo ≤ i ∧ i < hi then some (f i) else A.slots[i]?
theorem Laid.zero (A : Cell) (lo : Nat) (f : Nat → Value) : Laid A A lo (lo + 0) f := ⟨rfl, rfl, rfl, fun i => by rw [if_neg (by omega)]⟩
theorem Laid.step {A Ak : Cell} {lo k : Nat} {f : Nat → Value} {v : Value} (h : Laid A Ak lo k f) (hlo : lo ≤ k) (hk : k < Ak.slots.size) (hv : v = f k) : Laid A (Ak.setSlot k v) lo (k + 1) f := by
  refine ⟨h.1, h.2.1, by simpa [Cell.setSlot] using h.2.2.1, fun i => ?_⟩
  by_cases e : k = i
  · subst e; rw [Cell.slots_setSlot_self v hk, if_pos (by omega), hv]
  · rw [Cell.slots_setSlot_ne v e, h.2.2.2 i]
    by_cases q : lo ≤ i ∧ i < k
    · rw [if_pos q, if_pos (by omega)]
    · rw [if_neg q, if_neg (by omega)]
def U16 : String := "java/lang/StringUTF16"
namespace Cmp5
def yN : MethodName := ⟨"java/lang/StringUTF16", "compress", "([CI[BII)I"⟩
abbrev yB : ByteArray := jdk_52_method_21_code
theorem d0 : decode yB 0 = .ok (.iconst 0, 1) := by decide +kernel
theorem d1 : decode yB 1 = .ok (.istore 5, 2) := by decide +kernel
theorem d3 : decode yB 3 = .ok (.iload 5, 2) := by decide +kernel
theorem d5 : decode yB 5 = .ok (.iload 4, 2) := by decide +kernel
theorem d7 : decode yB 7 = .ok (.if_icmp (.ge) 37, 3) := by decide +kernel
theorem d10 : decode yB 10 = .ok (.aload_n 0, 1) := by decide +kernel
theorem d11 : decode yB 11 = .ok (.iload_n 1, 1) := by decide +kernel
theorem d12 : decode yB 12 = .ok (.caload, 1) := by decide +kernel
theorem d13 : decode yB 13 = .ok (.istore 6, 2) := by decide +kernel
theorem d15 : decode yB 15 = .ok (.iload 6, 2) := by decide +kernel
theorem d17 : decode yB 17 = .ok (.sipush 255, 3) := by decide +kernel
theorem d20 : decode yB 20 = .ok (.if_icmp (.le) 6, 3) := by decide +kernel
theorem d26 : decode yB 26 = .ok (.aload_n 2, 1) := by decide +kernel
theorem d27 : decode yB 27 = .ok (.iload_n 3, 1) := by decide +kernel
theorem d28 : decode yB 28 = .ok (.iload 6, 2) := by decide +kernel
theorem d30 : decode yB 30 = .ok (.i2b, 1) := by decide +kernel
theorem d31 : decode yB 31 = .ok (.bastore, 1) := by decide +kernel
theorem d32 : decode yB 32 = .ok (.iinc 1 1, 3) := by decide +kernel
theorem d35 : decode yB 35 = .ok (.iinc 3 1, 3) := by decide +kernel
theorem d38 : decode yB 38 = .ok (.iinc 5 1, 3) := by decide +kernel
theorem d41 : decode yB 41 = .ok (.goto (-38), 3) := by decide +kernel
theorem d44 : decode yB 44 = .ok (.iload 4, 2) := by decide +kernel
theorem d46 : decode yB 46 = .ok (.ireturn, 1) := by decide +kernel
def site : List Cond := []
def tab : Cond := tabOf yN yB 7 (some .int) site
def P (b : Addr) (A : Cell) (d : Addr) (B : Cell) (o q len : Nat) (args : Array Value) (s : State) : Prop := args = #[.ref b, .int (Int32.ofNat o), .ref d, .int (Int32.ofNat q), .int (Int32.ofNat len)] ∧ Ch b A s ∧ Arr .byte d B s ∧ b ≠ d ∧ o + len ≤ A.slots.size ∧ q + len ≤ B.slots.size ∧ ∀ i, i < len → ¬ 255 < cv A (o + i)
def E (b : Addr) (A : Cell) (d : Addr) (B : Cell) (o q len : Nat) (r : Option Value) (s u : State) : Prop := r = some (.int (Int32.ofNat len)) ∧ ∃ B', Put d B' s u ∧ Laid B B' q (q + len) (fun j => Value.int (lo8 (cv A (o + (j - q)))))
/-- no char of the range above 255: len; the places written hold each char's low byte -/
theorem law (l : Launch) (b : Addr) (A : Cell) (d : Addr) (B : Cell) (o q len : Nat) : Law l yN 5 5 0 0 yB 7 (some .int) site (P b A d B o q len) (E b A d B o q len) (copyLocs d q len) 0 0 := by
  refine Law.of_walk (plainFor_of_name (by decide +kernel)) (by decide +kernel) (by decide +kernel) (by decide) (fun _ _ h => by rw [h.1]; rfl) (fun _ U U' hal hh h => ⟨h.1, h.2.1.mv hal hh, h.2.2.1.mv hal hh, h.2.2.2⟩) (fun r U U' V V' h1 hal h2 h => ⟨h.1, h.2.elim fun B' q => ⟨B', q.1.mv h1 h2, q.2⟩⟩) ?_
  intro p e s m args below meth c s₁ X0 hexec hbytes hml hret hlk hnm hown hh0 W hP
  obtain ⟨rfl, hA, hB, hne, l1, l2, hp⟩ := hP
  have c1 : Steps p.tables e below (s₁.setTop (entryFrame m #[.ref b, .int (Int32.ofNat o), .ref d, .int (Int32.ofNat q), .int (Int32.ofNat len)] 7)) (s₁.setTop (mkF m 0 #[.val (.ref b), .val (.int (Int32.ofNat o)), .val (.ref d), .val (.int (Int32.ofNat q)), .val (.int (Int32.ofNat len)), .unset, .unset] [])) := entry rfl
  have hA0 := hA.1.mv X0.warmed.alike hh0
  have hB0 := hB.mv X0.warmed.alike hh0
  have a31 := hA.1.2.2.2
  have c2 : Steps p.tables e below (s₁.setTop (entryFrame m #[.ref b, .int (Int32.ofNat o), .ref d, .int (Int32.ofNat q), .int (Int32.ofNat len)] 7)) (s₁.setTop (mkF m 3 #[.val (.ref b), .val (.int (Int32.ofNat o)), .val (.ref d), .val (.int (Int32.ofNat q)), .val (.int (Int32.ofNat len)), .val (.int 0), .unset] [])) := c1.trans (by
    refine iconstV X0.here hexec rfl 0 (hb hbytes d0) (by decide) ?_
    refine XS.istore X0.here hexec rfl (hb hbytes d1) rfl rfl ?_
    exact Steps.refl _)
  have loop : ∀ (r i : Nat), i + r = len → ∀ (z : Slot), (z = .unset ∨ ∃ w, z = .val w ∧ w.category = 1) → ∀ (Tl : State) (Bk : Cell), Stand p l e { frames := 0, locals := 0, cells := 0, slots := 0 } s m #[.ref b, .int (Int32.ofNat o), .ref d, .int (Int32.ofNat q), .int (Int32.ofNat len)] below meth c Tl ([] ++ copyLocs d q i) 0 0 → Put d Bk s₁ Tl → Laid B Bk q (q + i) (fun j => Value.int (lo8 (cv A (o + (j - q))))) →
      Steps p.tables e below (s₁.setTop (entryFrame m #[.ref b, .int (Int32.ofNat o), .ref d, .int (Int32.ofNat q), .int (Int32.ofNat len)] 7)) (Tl.setTop (mkF m 3 #[.val (.ref b), .val (.int (Int32.ofNat (o + i))), .val (.ref d), .val (.int (Int32.ofNat (q + i))), .val (.int (Int32.ofNat len)), .val (.int (Int32.ofNat i)), z] [])) → ∃ (T' : State) (B' : Cell) (z' : Slot), Stand p l e { frames := 0, locals := 0, cells := 0, slots := 0 } s m #[.ref b, .int (Int32.ofNat o), .ref d, .int (Int32.ofNat q), .int (Int32.ofNat len)] below meth c T' ([] ++ copyLocs d q len) 0 0 ∧ Put d B' s₁ T' ∧ Laid B B' q (q + len) (fun j => Value.int (lo8 (cv A (o + (j - q))))) ∧
      Steps p.tables e below (s₁.setTop (entryFrame m #[.ref b, .int (Int32.ofNat o), .ref d, .int (Int32.ofNat q), .int (Int32.ofNat len)] 7)) (T'.setTop (mkF m 3 #[.val (.ref b), .val (.int (Int32.ofNat (o + len))), .val (.ref d), .val (.int (Int32.ofNat (q + len))), .val (.int (Int32.ofNat len)), .val (.int (Int32.ofNat len)), z'] [])) := by
    intro r
    induction r with
    | zero =>
      intro i hi z hz Tl Bk Xl pl fl cl
      have hil : i = len := by omega
      rw [hil] at Xl fl cl
      exact ⟨Tl, Bk, z, Xl, pl, fl, cl⟩
    | succ r ih =>
      intro i hi z hz Tl Bk Xl pl fl cl
      have all := X0.warmed.alike.symm.trans Xl.warmed.alike
      have hAl := hA0.keep all (pl.other hne hA0.1)
      have hBk := hB0.like all pl.1 fl.1 fl.2.1 fl.2.2.1
      have hlt : q + i < Bk.slots.size := by rw [fl.2.2.1]; omega
      have c3 : Steps p.tables e below (s₁.setTop (entryFrame m #[.ref b, .int (Int32.ofNat o), .ref d, .int (Int32.ofNat q), .int (Int32.ofNat len)] 7)) (Tl.setTop (mkF m 12 #[.val (.ref b), .val (.int (Int32.ofNat (o + i))), .val (.ref d), .val (.int (Int32.ofNat (q + i))), .val (.int (Int32.ofNat len)), .val (.int (Int32.ofNat i)), z] [.int (Int32.ofNat (o + i)), .ref b])) := cl.trans (by
        refine XS.iload Xl.here hexec rfl (hb hbytes d3) rfl ?_
        refine XS.iload Xl.here hexec rfl (hb hbytes d5) rfl ?_
        refine XS.icmpNo Xl.here hexec rfl (hb hbytes d7) rfl (ii_ge_f (lt32 (by omega) (by omega))) ?_
        refine XS.aloadN Xl.here hexec rfl (hb hbytes d10) rfl rfl ?_
        refine XS.iloadN Xl.here hexec rfl (hb hbytes d11) rfl ?_
        exact Steps.refl _)
      have c4 : Steps p.tables e below (s₁.setTop (entryFrame m #[.ref b, .int (Int32.ofNat o), .ref d, .int (Int32.ofNat q), .int (Int32.ofNat len)] 7)) (Tl.setTop (mkF m 13 #[.val (.ref b), .val (.int (Int32.ofNat (o + i))), .val (.ref d), .val (.int (Int32.ofNat (q + i))), .val (.int (Int32.ofNat len)), .val (.int (Int32.ofNat i)), z] [.int (cv A (o + i))])) := c3.trans (by
        refine Xl.aget hexec hAl rfl (hA.get (i := o + i) (by omega)) rfl rfl (hb hbytes d12) ?_
        exact Steps.refl _)
      have c5 : Steps p.tables e below (s₁.setTop (entryFrame m #[.ref b, .int (Int32.ofNat o), .ref d, .int (Int32.ofNat q), .int (Int32.ofNat len)] 7)) (Tl.setTop (mkF m 15 #[.val (.ref b), .val (.int (Int32.ofNat (o + i))), .val (.ref d), .val (.int (Int32.ofNat (q + i))), .val (.int (Int32.ofNat len)), .val (.int (Int32.ofNat i)), .val (.int (cv A (o + i)))] [])) := c4.trans (by
        refine XS.istoreS Xl.here hexec rfl (hb hbytes d13) rfl rfl hz ?_
        exact Steps.refl _)
      have c6 : Steps p.tables e below (s₁.setTop (entryFrame m #[.ref b, .int (Int32.ofNat o), .ref d, .int (Int32.ofNat q), .int (Int32.ofNat len)] 7)) (Tl.setTop (mkF m 31 #[.val (.ref b), .val (.int (Int32.ofNat (o + i))), .val (.ref d), .val (.int (Int32.ofNat (q + i))), .val (.int (Int32.ofNat len)), .val (.int (Int32.ofNat i)), .val (.int (cv A (o + i)))] [.int (lo8 (cv A (o + i))), .int (Int32.ofNat (q + i)), .ref d])) := c5.trans (by
        refine XS.iload Xl.here hexec rfl (hb hbytes d15) rfl ?_
        refine sipushV Xl.here hexec rfl 255 (hb hbytes d17) (by decide) ?_
        refine XS.icmpYes Xl.here hexec rfl (pc0 := 20) rfl (hb hbytes d20) rfl (ii_le_t (hp i (by omega))) (by decide) rfl ?_
        refine XS.aloadN Xl.here hexec rfl (hb hbytes d26) rfl rfl ?_
        refine XS.iloadN Xl.here hexec rfl (hb hbytes d27) rfl ?_
        refine XS.iload Xl.here hexec rfl (hb hbytes d28) rfl ?_
        refine i2b Xl.here hexec rfl (hb hbytes d30) rfl ?_
        exact Steps.refl _)
      obtain ⟨T7, X7, p7, st7⟩ := Xl.aput hexec hBk rfl hlt rfl (fits_lo8 (cv A (o + i))) (g := (mkF m 31 #[.val (.ref b), .val (.int (Int32.ofNat (o + i))), .val (.ref d), .val (.int (Int32.ofNat (q + i))), .val (.int (Int32.ofNat len)), .val (.int (Int32.ofNat i)), .val (.int (cv A (o + i)))] [.int (lo8 (cv A (o + i))), .int (Int32.ofNat (q + i)), .ref d])) rfl (rest := []) rfl (hb hbytes d31)
      have c8 : Steps p.tables e below (s₁.setTop (entryFrame m #[.ref b, .int (Int32.ofNat o), .ref d, .int (Int32.ofNat q), .int (Int32.ofNat len)] 7)) (T7.setTop (mkF m 32 #[.val (.ref b), .val (.int (Int32.ofNat (o + i))), .val (.ref d), .val (.int (Int32.ofNat (q + i))), .val (.int (Int32.ofNat len)), .val (.int (Int32.ofNat i)), .val (.int (cv A (o + i)))] [])) := c6.trans (st7 _ (Steps.refl _))
      have c9 : Steps p.tables e below (s₁.setTop (entryFrame m #[.ref b, .int (Int32.ofNat o), .ref d, .int (Int32.ofNat q), .int (Int32.ofNat len)] 7)) (T7.setTop (mkF m 3 #[.val (.ref b), .val (.int (Int32.ofNat (o + i) + 1)), .val (.ref d), .val (.int (Int32.ofNat (q + i) + 1)), .val (.int (Int32.ofNat len)), .val (.int (Int32.ofNat i + 1)), .val (.int (cv A (o + i)))] [])) := c8.trans (by
        refine iincV X7.here hexec rfl 1 (hb hbytes d32) (by decide) rfl rfl ?_
        refine iincV X7.here hexec rfl 1 (hb hbytes d35) (by decide) rfl rfl ?_
        refine iincV X7.here hexec rfl 1 (hb hbytes d38) (by decide) rfl rfl ?_
        refine XS.goto X7.here hexec rfl (pc0 := 41) rfl (hb hbytes d41) (by decide) rfl ?_
        exact Steps.refl _)
      have c10 : Steps p.tables e below (s₁.setTop (entryFrame m #[.ref b, .int (Int32.ofNat o), .ref d, .int (Int32.ofNat q), .int (Int32.ofNat len)] 7)) (T7.setTop (mkF m 3 #[.val (.ref b), .val (.int (Int32.ofNat (o + (i + 1)))), .val (.ref d), .val (.int (Int32.ofNat (q + (i + 1)))), .val (.int (Int32.ofNat len)), .val (.int (Int32.ofNat (i + 1))), .val (.int (cv A (o + i)))] [])) := by
        have := c9
        rw [succ32, succ32, succ32] at this
        exact this
      exact ih (i + 1) (by omega) _ (Or.inr ⟨_, rfl, rfl⟩) T7 _ (by rw [copyLocs_step, ← List.append_assoc]; exact X7) (pl.trans p7) (fl.step (by omega) hlt (by simp)) c10
  obtain ⟨T9, B9, z9, X9, p9, f9, g9⟩ := loop len 0 (by omega) .unset (Or.inl rfl) s₁ B (by simpa [copyLocs] using X0) ⟨hB0.1, fun _ _ => rfl, rfl⟩ (Laid.zero _ _ _) c2
  have c11 : Steps p.tables e below (s₁.setTop (entryFrame m #[.ref b, .int (Int32.ofNat o), .ref d, .int (Int32.ofNat q), .int (Int32.ofNat len)] 7)) (T9.setTop (mkF m 46 #[.val (.ref b), .val (.int (Int32.ofNat (o + len))), .val (.ref d), .val (.int (Int32.ofNat (q + len))), .val (.int (Int32.ofNat len)), .val (.int (Int32.ofNat len)), z9] [.int (Int32.ofNat len)])) := g9.trans (by
    refine XS.iload X9.here hexec rfl (hb hbytes d3) rfl ?_
    refine XS.iload X9.here hexec rfl (hb hbytes d5) rfl ?_
    refine XS.icmpYes X9.here hexec rfl (pc0 := 7) rfl (hb hbytes d7) rfl (ii_ge_t (nlt32 (by omega) (Nat.le_refl _))) (by decide) rfl ?_
    refine XS.iload X9.here hexec rfl (hb hbytes d44) rfl ?_
    exact Steps.refl _)
  exact ⟨T9, some (.int (Int32.ofNat len)), _, _, _, X9, by simp, rfl, rfl, (fun h => by cases h), ⟨rfl, B9, p9.from hh0, f9⟩, fun fs hl => c11.trans (X9.ireturnOut hexec hret rfl (Or.inl rfl) (hb hbytes d46) hl)⟩
end Cmp5
namespace Cmp3
def yN : MethodName := ⟨"java/lang/StringUTF16", "compress", "([CII)[B"⟩
abbrev yB : ByteArray := jdk_52_method_16_code
theorem d0 : decode yB 0 = .ok (.iload_n 2, 1) := by decide +kernel
theorem d1 : decode yB 1 = .ok (.newarray .byte, 2) := by decide +kernel
theorem d3 : decode yB 3 = .ok (.astore_n 3, 1) := by decide +kernel
theorem d4 : decode yB 4 = .ok (.aload_n 0, 1) := by decide +kernel
theorem d5 : decode yB 5 = .ok (.iload_n 1, 1) := by decide +kernel
theorem d6 : decode yB 6 = .ok (.aload_n 3, 1) := by decide +kernel
theorem d7 : decode yB 7 = .ok (.iconst 0, 1) := by decide +kernel
theorem d8 : decode yB 8 = .ok (.iload_n 2, 1) := by decide +kernel
theorem d9 : decode yB 9 = .ok (.invokestatic 115, 3) := by decide +kernel
theorem d12 : decode yB 12 = .ok (.istore 4, 2) := by decide +kernel
theorem d14 : decode yB 14 = .ok (.iload 4, 2) := by decide +kernel
theorem d16 : decode yB 16 = .ok (.iload_n 2, 1) := by decide +kernel
theorem d17 : decode yB 17 = .ok (.if_icmp (.eq) 40, 3) := by decide +kernel
theorem d57 : decode yB 57 = .ok (.aload_n 3, 1) := by decide +kernel
theorem d58 : decode yB 58 = .ok (.areturn, 1) := by decide +kernel
def site : List Cond := [.arrayClass .byte, Cmp5.tab] ++ staticW U16 115 Cmp5.yN
def tab : Cond := tabOf yN yB 6 (some (.array .byte)) site
def P (b : Addr) (A : Cell) (o len : Nat) (args : Array Value) (s : State) : Prop := args = #[.ref b, .int (Int32.ofNat o), .int (Int32.ofNat len)] ∧ Ch b A s ∧ o + len ≤ A.slots.size ∧ len ≤ 536870912 ∧ ∀ i, i < len → ¬ 255 < cv A (o + i)
def E (b : Addr) (A : Cell) (o len : Nat) (r : Option Value) (s u : State) : Prop := NewArr .byte "[B" len (fun j => .int (lo8 (cv A (o + j)))) r s u ∧ u.heap.size = s.heap.size + 1
/-- no char of the range above 255: a new byte[] of their low bytes -/
theorem law (l : Launch) (b : Addr) (A : Cell) (o len : Nat) : Law l yN 3 3 1 18 yB 6 (some (.array .byte)) site (P b A o len) (E b A o len) [] 1 len := by
  refine Law.of_walk (plainFor_of_name (by decide +kernel)) (by decide +kernel) (by decide +kernel) (by decide) (fun _ _ h => by rw [h.1]; rfl) (fun _ U U' hal hh h => ⟨h.1, h.2.1.mv hal hh, h.2.2⟩) (fun r U U' V V' h1 hal h2 h => ⟨NewArr.mv r U U' V V' h1 hal h2 h.1, by rw [h1, h2]; exact h.2⟩) ?_
  intro p e s m args below meth c s₁ X0 hexec hbytes hml hret hlk hnm hown hh0 W hP
  obtain ⟨rfl, hA, l1, l2, hp⟩ := hP
  have a31 := hA.1.2.2.2
  have c1 : Steps p.tables e below (s₁.setTop (entryFrame m #[.ref b, .int (Int32.ofNat o), .int (Int32.ofNat len)] 6)) (s₁.setTop (mkF m 0 #[.val (.ref b), .val (.int (Int32.ofNat o)), .val (.int (Int32.ofNat len)), .unset, .unset, .unset] [])) := entry rfl
  have c2 : Steps p.tables e below (s₁.setTop (entryFrame m #[.ref b, .int (Int32.ofNat o), .int (Int32.ofNat len)] 6)) (s₁.setTop (mkF m 1 #[.val (.ref b), .val (.int (Int32.ofNat o)), .val (.int (Int32.ofNat len)), .unset, .unset, .unset] [.int (Int32.ofNat len)])) := c1.trans (by
    refine XS.iloadN X0.here hexec rfl (hb hbytes d0) rfl ?_
    exact Steps.refl _)
  obtain ⟨T3, B3, X3, ba3, bs3, bv3, bh3, bf3, st3⟩ := X0.anew hexec (atype := .byte) (wk W (.arrayClass .byte)) rfl (by show len * 1 ≤ _; omega) (by omega) (g := (mkF m 1 #[.val (.ref b), .val (.int (Int32.ofNat o)), .val (.int (Int32.ofNat len)), .unset, .unset, .unset] [.int (Int32.ofNat len)])) rfl (hb hbytes d1) (rest := []) rfl (Nat.le_refl _) (by show 0 + len ≤ len; omega)
  rw [hh0] at ba3 st3
  have kp3 : XT.Kept s T3 := (XT.Kept.of_eq hh0).push bh3
  have hA3 := hA.keep X3.warmed.alike (kp3 _ _ hA.1.1)
  have hne : b ≠ s.heap.size := hA.1.ne
  have c4 : Steps p.tables e below (s₁.setTop (entryFrame m #[.ref b, .int (Int32.ofNat o), .int (Int32.ofNat len)] 6)) (T3.setTop (mkF m 3 #[.val (.ref b), .val (.int (Int32.ofNat o)), .val (.int (Int32.ofNat len)), .unset, .unset, .unset] [.ref s.heap.size])) := c2.trans (st3 _ (Steps.refl _))
  have c5 : Steps p.tables e below (s₁.setTop (entryFrame m #[.ref b, .int (Int32.ofNat o), .int (Int32.ofNat len)] 6)) (T3.setTop (mkF m 9 #[.val (.ref b), .val (.int (Int32.ofNat o)), .val (.int (Int32.ofNat len)), .val (.ref s.heap.size), .unset, .unset] [.int (Int32.ofNat len), .int 0, .ref s.heap.size, .int (Int32.ofNat o), .ref b])) := c4.trans (by
    refine XS.astoreN X3.here hexec rfl (hb hbytes d3) rfl rfl rfl ?_
    refine XS.aloadN X3.here hexec rfl (hb hbytes d4) rfl rfl ?_
    refine XS.iloadN X3.here hexec rfl (hb hbytes d5) rfl ?_
    refine XS.aloadN X3.here hexec rfl (hb hbytes d6) rfl rfl ?_
    refine iconstV X3.here hexec rfl 0 (hb hbytes d7) (by decide) ?_
    refine XS.iloadN X3.here hexec rfl (hb hbytes d8) rfl ?_
    exact Steps.refl _)
  obtain ⟨v6, T6, X6, E6, g6⟩ := X3.callS hexec (Cmp5.law l b A s.heap.size B3 o 0 len) hown (wks W (staticW U16 115 Cmp5.yN)) (wk W Cmp5.tab) (W := 0) (Nat.le_of_ble_eq_true rfl) (Nat.le_of_ble_eq_true rfl) (Nat.le_refl _) (by show 0 + len + 0 ≤ len; omega) (g := (mkF m 9 #[.val (.ref b), .val (.int (Int32.ofNat o)), .val (.int (Int32.ofNat len)), .val (.ref s.heap.size), .unset, .unset] [.int (Int32.ofNat len), .int (Int32.ofNat 0), .ref s.heap.size, .int (Int32.ofNat o), .ref b])) rfl (by rw [hml]; rfl) c5 (argsL := [.ref b, .int (Int32.ofNat o), .ref s.heap.size, .int (Int32.ofNat 0), .int (Int32.ofNat len)]) (rest := []) rfl rfl (by show 2 * 0 + 0 ≤ _; decide) (hb hbytes d9) (⟨rfl, hA3, ba3, hne, l1, by rw [bs3]; simp, hp⟩)
  obtain ⟨rfl, B6, p6, f6⟩ := E6
  have c7 : Steps p.tables e below (s₁.setTop (entryFrame m #[.ref b, .int (Int32.ofNat o), .int (Int32.ofNat len)] 6)) (T6.setTop (mkF m 12 #[.val (.ref b), .val (.int (Int32.ofNat o)), .val (.int (Int32.ofNat len)), .val (.ref s.heap.size), .unset, .unset] [.int (Int32.ofNat len)])) := g6
  have c8 : Steps p.tables e below (s₁.setTop (entryFrame m #[.ref b, .int (Int32.ofNat o), .int (Int32.ofNat len)] 6)) (T6.setTop (mkF m 58 #[.val (.ref b), .val (.int (Int32.ofNat o)), .val (.int (Int32.ofNat len)), .val (.ref s.heap.size), .val (.int (Int32.ofNat len)), .unset] [.ref s.heap.size])) := c7.trans (by
    refine XS.istore X6.here hexec rfl (hb hbytes d12) rfl rfl ?_
    refine XS.iload X6.here hexec rfl (hb hbytes d14) rfl ?_
    refine XS.iloadN X6.here hexec rfl (hb hbytes d16) rfl ?_
    refine XS.icmpYes X6.here hexec rfl (pc0 := 17) rfl (hb hbytes d17) rfl (ii_eq_t rfl) (by decide) rfl ?_
    refine XS.aloadN X6.here hexec rfl (hb hbytes d57) rfl rfl ?_
    exact Steps.refl _)
  have X8 := X6.wide (L' := []) (cells' := 1) (slots' := len) (fun x hx hlt => by
    simp only [List.nil_append, copyLocs, List.mem_map, List.mem_range] at hx
    obtain ⟨i, -, rfl⟩ := hx
    exact absurd hlt (Nat.lt_irrefl _)) (Nat.le_refl _) (by omega)
  exact ⟨T6, some (.ref s.heap.size), _, _, _, X8, rfl, rfl, rfl, (fun h => by cases h), ⟨⟨rfl, B6, ba3.like (X3.warmed.alike.symm.trans X6.warmed.alike) p6.1 f6.1 f6.2.1 f6.2.2.1, f6.2.1.trans bv3, by rw [X6.warmed.alike.findClass, f6.1]; exact bf3, by rw [f6.2.2.1, bs3]; simp, fun j hj => by rw [f6.2.2.2 j, if_pos (by omega)]; rfl, kp3.put p6 (Nat.le_refl _)⟩, by rw [p6.2.2, bh3, hh0]; simp⟩, fun fs hl => c8.trans (X8.areturnOut hexec rfl hret rfl (hb hbytes d58) hl)⟩
end Cmp3
namespace CodL
def yN : MethodName := ⟨"java/lang/StringUTF16", "coderFromArrayLen", "([BI)B"⟩
abbrev yB : ByteArray := jdk_52_method_15_code
theorem d0 : decode yB 0 = .ok (.iload_n 1, 1) := by decide +kernel
theorem d1 : decode yB 1 = .ok (.aload_n 0, 1) := by decide +kernel
theorem d2 : decode yB 2 = .ok (.arraylength, 1) := by decide +kernel
theorem d3 : decode yB 3 = .ok (.isub, 1) := by decide +kernel
theorem d4 : decode yB 4 = .ok (.bipush 31, 2) := by decide +kernel
theorem d6 : decode yB 6 = .ok (.iushr, 1) := by decide +kernel
theorem d7 : decode yB 7 = .ok (.i2b, 1) := by decide +kernel
theorem d8 : decode yB 8 = .ok (.ireturn, 1) := by decide +kernel
def site : List Cond := []
def tab : Cond := tabOf yN yB 2 (some .byte) site
def P (d : Addr) (B : Cell) (args : Array Value) (s : State) : Prop := args = #[.ref d, .int (Int32.ofNat B.slots.size)] ∧ Arr .byte d B s
def E (r : Option Value) (s u : State) : Prop := XT.PureE (some (.int 0)) r s u
/-- an array as long as the number of chars: LATIN1 -/
theorem law (l : Launch) (d : Addr) (B : Cell) : Law l yN 2 2 0 0 yB 2 (some .byte) site (P d B) E [] 0 0 := by
  refine Law.of_walk (plainFor_of_name (by decide +kernel)) (by decide +kernel) (by decide +kernel) (by decide) (fun _ _ h => by rw [h.1]; rfl) (fun _ U U' hal hh h => ⟨h.1, h.2.mv hal hh⟩) (fun r U U' V V' h1 hal h2 h => XT.PureE.mv r U U' V V' h1 hal h2 h) ?_
  intro p e s m args below meth c s₁ X0 hexec hbytes hml hret hlk hnm hown hh0 W hP
  obtain ⟨rfl, hB⟩ := hP
  have hB0 := hB.mv X0.warmed.alike hh0
  have c1 : Steps p.tables e below (s₁.setTop (entryFrame m #[.ref d, .int (Int32.ofNat B.slots.size)] 2)) (s₁.setTop (mkF m 0 #[.val (.ref d), .val (.int (Int32.ofNat B.slots.size))] [])) := entry rfl
  have c2 : Steps p.tables e below (s₁.setTop (entryFrame m #[.ref d, .int (Int32.ofNat B.slots.size)] 2)) (s₁.setTop (mkF m 2 #[.val (.ref d), .val (.int (Int32.ofNat B.slots.size))] [.ref d, .int (Int32.ofNat B.slots.size)])) := c1.trans (by
    refine XS.iloadN X0.here hexec rfl (hb hbytes d0) rfl ?_
    refine XS.aloadN X0.here hexec rfl (hb hbytes d1) rfl rfl ?_
    exact Steps.refl _)
  have c3 : Steps p.tables e below (s₁.setTop (entryFrame m #[.ref d, .int (Int32.ofNat B.slots.size)] 2)) (s₁.setTop (mkF m 8 #[.val (.ref d), .val (.int (Int32.ofNat B.slots.size))] [.int (lo8 (ushr (Int32.ofNat B.slots.size - Int32.ofNat B.slots.size) 31))])) := c2.trans (by
    refine X0.alen hexec hB0 rfl rfl (hb hbytes d2) ?_
    refine XS.isub X0.here hexec rfl (hb hbytes d3) rfl ?_
    refine bipushV X0.here hexec rfl 31 (hb hbytes d4) (by decide) ?_
    refine iushr X0.here hexec rfl (hb hbytes d6) rfl ?_
    refine i2b X0.here hexec rfl (hb hbytes d7) rfl ?_
    exact Steps.refl _)
  have e0 : lo8 (ushr (Int32.ofNat B.slots.size - Int32.ofNat B.slots.size) 31) = 0 := by rw [Int32.sub_self]; decide
  rw [e0] at c3
  exact ⟨s₁, some (.int 0), _, _, _, X0, rfl, rfl, rfl, (fun h => by cases h), ⟨rfl, hh0⟩, fun fs hl => c3.trans (X0.ireturnOut hexec hret rfl (Or.inr (Or.inr (Or.inl rfl))) (hb hbytes d8) hl)⟩
end CodL
/-- the String at a is Latin-1 over a new byte[] (the heap's one new cell): the low bytes of the len chars of A from o on; every cell but a is kept -/
def Got (a : Addr) (D : Cell) (fV fC : Field) (A : Cell) (o len : Nat) (r : Option Value) (s u : State) : Prop := r = none ∧ ∃ D' V : Cell, Blank "java/lang/String" a D' u ∧ Same D D' [fV.slot, fC.slot] ∧ D'.slots[fV.slot]? = some (.ref s.heap.size) ∧ D'.slots[fC.slot]? = some (.int 0) ∧ Arr .byte s.heap.size V u ∧ V.vm = .none ∧ u.vm.findClass "[B" = some V.cls ∧ V.slots.size = len ∧ (∀ j, j < len → V.slots[j]? = some (.int (lo8 (cv A (o + j))))) ∧ (∀ (y : Addr) (c : Cell), y ≠ a → s.heap[y]? = some c → u.heap[y]? = some c) ∧ u.heap.size = s.heap.size + 1
theorem Got.mv {a : Addr} {D A : Cell} {fV fC : Field} {o len : Nat} : ∀ r (U U' V V' : State), U'.heap = U.heap → V.vm.Alike V'.vm → V'.heap = V.heap → Got a D fV fC A o len r U V → Got a D fV fC A o len r U' V' :=
  fun r U U' V V' h1 hal h2 ⟨e0, D', X, a1, a2, a3, a4, a5, a6, a7, a8, a9, a10, a11⟩ => ⟨e0, D', X, a1.mv hal h2, a2, by rw [h1]; exact a3, a4, by rw [h1]; exact a5.mv hal h2, a6, by rw [hal.findClass]; exact a7, a8, a9, by rw [h1, h2]; exact a10, by rw [h1, h2]; exact a11⟩
namespace New4
def yN : MethodName := ⟨"java/lang/String", "<init>", "([CIILjava/lang/Void;)V"⟩
abbrev yB : ByteArray := jdk_42_method_149_code
theorem d0 : decode yB 0 = .ok (.aload_n 0, 1) := by decide +kernel
theorem d1 : decode yB 1 = .ok (.invokespecial 1, 3) := by decide +kernel
theorem d4 : decode yB 4 = .ok (.iload_n 3, 1) := by decide +kernel
theorem d5 : decode yB 5 = .ok (.ifCond (.ne) 22, 3) := by decide +kernel
theorem d27 : decode yB 27 = .ok (.getstatic 38, 3) := by decide +kernel
theorem d30 : decode yB 30 = .ok (.ifCond (.eq) 28, 3) := by decide +kernel
theorem d33 : decode yB 33 = .ok (.aload_n 1, 1) := by decide +kernel
theorem d34 : decode yB 34 = .ok (.iload_n 2, 1) := by decide +kernel
theorem d35 : decode yB 35 = .ok (.iload_n 3, 1) := by decide +kernel
theorem d36 : decode yB 36 = .ok (.invokestatic 177, 3) := by decide +kernel
theorem d39 : decode yB 39 = .ok (.astore 5, 2) := by decide +kernel
theorem d41 : decode yB 41 = .ok (.aload_n 0, 1) := by decide +kernel
theorem d42 : decode yB 42 = .ok (.aload 5, 2) := by decide +kernel
theorem d44 : decode yB 44 = .ok (.iload_n 3, 1) := by decide +kernel
theorem d45 : decode yB 45 = .ok (.invokestatic 47, 3) := by decide +kernel
theorem d48 : decode yB 48 = .ok (.putfield 15, 3) := by decide +kernel
theorem d51 : decode yB 51 = .ok (.aload_n 0, 1) := by decide +kernel
theorem d52 : decode yB 52 = .ok (.aload 5, 2) := by decide +kernel
theorem d54 : decode yB 54 = .ok (.putfield 9, 3) := by decide +kernel
theorem d57 : decode yB 57 = .ok (.return_, 1) := by decide +kernel
def site : List Cond := [.fieldLink "java/lang/String" 38 "java/lang/String" "COMPACT_STRINGS" "Z", Cmp3.tab, CodL.tab, .laysFinal "java/lang/String" "java/lang/String" "value" "[B", .fieldLink "java/lang/String" 9 "java/lang/String" "value" "[B", .laysFinal "java/lang/String" "java/lang/String" "coder" "B", .fieldLink "java/lang/String" 15 "java/lang/String" "coder" "B"] ++ objW "java/lang/String" 1 ++ staticW "java/lang/String" 177 Cmp3.yN ++ staticW "java/lang/String" 47 CodL.yN
def tab : Cond := tabOf yN yB 6 none site
def P (a : Addr) (D : Cell) (fV fC : Field) (b : Addr) (A : Cell) (z : Int32) (o len : Nat) (args : Array Value) (s : State) : Prop := args = #[.ref a, .ref b, .int (Int32.ofNat o), .int (Int32.ofNat len), .null] ∧ Blank "java/lang/String" a D s ∧ Found "java/lang/String" "value" "[B" fV s ∧ Found "java/lang/String" "coder" "B" fC s ∧ Ch b A s ∧ StaticIs s "java/lang/String" "COMPACT_STRINGS" "Z" (.int z) ∧ ¬ z = 0 ∧ 0 < len ∧ o + len ≤ A.slots.size ∧ len ≤ 536870912 ∧ ∀ i, i < len → ¬ 255 < cv A (o + i)
def E (a : Addr) (D : Cell) (fV fC : Field) (A : Cell) (o len : Nat) (r : Option Value) (s u : State) : Prop := Got a D fV fC A o len r s u
/-- len > 0, no char of the range above 255: a Latin-1 String of their low bytes -/
theorem law (l : Launch) (a : Addr) (D : Cell) (fV fC : Field) (b : Addr) (A : Cell) (z : Int32) (o len : Nat) : Law l yN 5 4 2 35 yB 6 none site (P a D fV fC b A z o len) (E a D fV fC A o len) [⟨a, fC.slot⟩, ⟨a, fV.slot⟩] 1 len := by
  refine Law.of_walk (plainFor_of_name (by decide +kernel)) (by decide +kernel) (by decide +kernel) (by decide) (fun _ _ h => by rw [h.1]; rfl) (fun _ U U' hal hh h => ⟨h.1, h.2.1.mv hal hh, h.2.2.1.al hal, h.2.2.2.1.al hal, h.2.2.2.2.1.mv hal hh, h.2.2.2.2.2.1.there hal hh, h.2.2.2.2.2.2⟩) (fun r U U' V V' h1 hal h2 h => Got.mv r U U' V V' h1 hal h2 h) ?_
  intro p e s m args below meth c s₁ X0 hexec hbytes hml hret hlk hnm hown hh0 W hP
  obtain ⟨rfl, hB, f1, f2, hA, s1, hz, l0, l1, l2, hp⟩ := hP
  have a31 := hA.1.2.2.2
  have c1 : Steps p.tables e below (s₁.setTop (entryFrame m #[.ref a, .ref b, .int (Int32.ofNat o), .int (Int32.ofNat len), .null] 6)) (s₁.setTop (mkF m 0 #[.val (.ref a), .val (.ref b), .val (.int (Int32.ofNat o)), .val (.int (Int32.ofNat len)), .val .null, .unset] [])) := entry rfl
  have c2 : Steps p.tables e below (s₁.setTop (entryFrame m #[.ref a, .ref b, .int (Int32.ofNat o), .int (Int32.ofNat len), .null] 6)) (s₁.setTop (mkF m 1 #[.val (.ref a), .val (.ref b), .val (.int (Int32.ofNat o)), .val (.int (Int32.ofNat len)), .val .null, .unset] [.ref a])) := c1.trans (by
    refine XS.aloadN X0.here hexec rfl (hb hbytes d0) rfl rfl ?_
    exact Steps.refl _)
  obtain ⟨T3, X3, q3, st3⟩ := X0.oinit hexec hown (wks W (objW "java/lang/String" 1)) (g := (mkF m 1 #[.val (.ref a), .val (.ref b), .val (.int (Int32.ofNat o)), .val (.int (Int32.ofNat len)), .val .null, .unset] [.ref a])) rfl (by rw [hml]; rfl) (rest := []) rfl (hb hbytes d1) (W := 0) (by show 2 * 0 + 0 ≤ _; decide) (Nat.le_of_ble_eq_true rfl) (Nat.le_of_ble_eq_true rfl)
  have hh3 := q3.trans hh0
  have c4 : Steps p.tables e below (s₁.setTop (entryFrame m #[.ref a, .ref b, .int (Int32.ofNat o), .int (Int32.ofNat len), .null] 6)) (T3.setTop (mkF m 27 #[.val (.ref a), .val (.ref b), .val (.int (Int32.ofNat o)), .val (.int (Int32.ofNat len)), .val .null, .unset] [])) := (c2.trans (st3 _ (Steps.refl _))).trans (by
    refine XS.iloadN X3.here hexec rfl (hb hbytes d4) rfl ?_
    refine XS.ifYes X3.here hexec rfl (pc0 := 5) rfl (hb hbytes d5) rfl (i0_ne_t (nz32 (by omega) l0)) (by decide) rfl ?_
    exact Steps.refl _)
  obtain ⟨T5, X5, q5, st5⟩ := X3.sget hexec hown (wk W (.fieldLink "java/lang/String" 38 "java/lang/String" "COMPACT_STRINGS" "Z")) s1 (fun _ _ h => by rw [hh3]; exact h) (g := (mkF m 27 #[.val (.ref a), .val (.ref b), .val (.int (Int32.ofNat o)), .val (.int (Int32.ofNat len)), .val .null, .unset] [])) rfl (hb hbytes d27)
  have hh5 := q5.trans hh3
  have c6 : Steps p.tables e below (s₁.setTop (entryFrame m #[.ref a, .ref b, .int (Int32.ofNat o), .int (Int32.ofNat len), .null] 6)) (T5.setTop (mkF m 30 #[.val (.ref a), .val (.ref b), .val (.int (Int32.ofNat o)), .val (.int (Int32.ofNat len)), .val .null, .unset] [.int z])) := c4.trans (st5 _ (Steps.refl _))
  have c7 : Steps p.tables e below (s₁.setTop (entryFrame m #[.ref a, .ref b, .int (Int32.ofNat o), .int (Int32.ofNat len), .null] 6)) (T5.setTop (mkF m 36 #[.val (.ref a), .val (.ref b), .val (.int (Int32.ofNat o)), .val (.int (Int32.ofNat len)), .val .null, .unset] [.int (Int32.ofNat len), .int (Int32.ofNat o), .ref b])) := c6.trans (by
    refine XS.ifNo X5.here hexec rfl (hb hbytes d30) rfl (i0_eq_f hz) ?_
    refine XS.aloadN X5.here hexec rfl (hb hbytes d33) rfl rfl ?_
    refine XS.iloadN X5.here hexec rfl (hb hbytes d34) rfl ?_
    refine XS.iloadN X5.here hexec rfl (hb hbytes d35) rfl ?_
    exact Steps.refl _)
  obtain ⟨v8, T8, X8, E8, g8⟩ := X5.callS hexec (Cmp3.law l b A o len) hown (wks W (staticW "java/lang/String" 177 Cmp3.yN)) (wk W Cmp3.tab) (W := 0) (Nat.le_of_ble_eq_true rfl) (Nat.le_of_ble_eq_true rfl) (Nat.le_refl _) (by show 0 + len ≤ len; omega) (g := (mkF m 36 #[.val (.ref a), .val (.ref b), .val (.int (Int32.ofNat o)), .val (.int (Int32.ofNat len)), .val .null, .unset] [.int (Int32.ofNat len), .int (Int32.ofNat o), .ref b])) rfl (by rw [hml]; rfl) c7 (argsL := [.ref b, .int (Int32.ofNat o), .int (Int32.ofNat len)]) (rest := []) rfl rfl (by show 2 * 0 + 0 ≤ _; decide) (hb hbytes d36) (⟨rfl, hA.mv X5.warmed.alike hh5, l1, l2, hp⟩)
  obtain ⟨e8, z8⟩ := E8
  obtain ⟨rfl, N, n1, n2, n3, n4, n5, n6⟩ := NewArr.mv _ T5 s _ _ hh5.symm (Vm.Alike.refl _) rfl e8
  rw [hh5] at z8
  have hB1 := hB.keep X8.warmed.alike (n6 _ _ hB.1)
  have hne : s.heap.size ≠ a := (Nat.ne_of_lt (Array.getElem?_eq_some_iff.mp hB.1).1).symm
  have c9 : Steps p.tables e below (s₁.setTop (entryFrame m #[.ref a, .ref b, .int (Int32.ofNat o), .int (Int32.ofNat len), .null] 6)) (T8.setTop (mkF m 39 #[.val (.ref a), .val (.ref b), .val (.int (Int32.ofNat o)), .val (.int (Int32.ofNat len)), .val .null, .unset] [.ref s.heap.size])) := g8
  have c10 : Steps p.tables e below (s₁.setTop (entryFrame m #[.ref a, .ref b, .int (Int32.ofNat o), .int (Int32.ofNat len), .null] 6)) (T8.setTop (mkF m 45 #[.val (.ref a), .val (.ref b), .val (.int (Int32.ofNat o)), .val (.int (Int32.ofNat len)), .val .null, .val (.ref s.heap.size)] [.int (Int32.ofNat N.slots.size), .ref s.heap.size, .ref a])) := by
    have hc : Steps p.tables e below (s₁.setTop (entryFrame m #[.ref a, .ref b, .int (Int32.ofNat o), .int (Int32.ofNat len), .null] 6)) (T8.setTop (mkF m 45 #[.val (.ref a), .val (.ref b), .val (.int (Int32.ofNat o)), .val (.int (Int32.ofNat len)), .val .null, .val (.ref s.heap.size)] [.int (Int32.ofNat len), .ref s.heap.size, .ref a])) := c9.trans (by
      refine XS.astore X8.here hexec rfl (hb hbytes d39) rfl rfl rfl ?_
      refine XS.aloadN X8.here hexec rfl (hb hbytes d41) rfl rfl ?_
      refine XS.aload X8.here hexec rfl (hb hbytes d42) rfl rfl ?_
      refine XS.iloadN X8.here hexec rfl (hb hbytes d44) rfl ?_
      exact Steps.refl _)
    rw [n4]; exact hc
  obtain ⟨v11, T11, X11, E11, g11⟩ := X8.callS hexec (CodL.law l s.heap.size N) hown (wks W (staticW "java/lang/String" 47 CodL.yN)) (wk W CodL.tab) (W := 1) (Nat.le_of_ble_eq_true rfl) (Nat.le_of_ble_eq_true rfl) (Nat.le_refl _) (by show 0 + len + 0 ≤ len; omega) (g := (mkF m 45 #[.val (.ref a), .val (.ref b), .val (.int (Int32.ofNat o)), .val (.int (Int32.ofNat len)), .val .null, .val (.ref s.heap.size)] [.int (Int32.ofNat N.slots.size), .ref s.heap.size, .ref a])) rfl (by rw [hml]; rfl) c10 (argsL := [.ref s.heap.size, .int (Int32.ofNat N.slots.size)]) (rest := [.ref a]) rfl rfl (by show 2 * 0 + (1 + 0) ≤ _; decide) (hb hbytes d45) (⟨rfl, n1⟩)
  obtain ⟨rfl, q11⟩ := E11
  have hB11 := hB1.mv (X8.warmed.alike.symm.trans X11.warmed.alike) q11
  have c12 : Steps p.tables e below (s₁.setTop (entryFrame m #[.ref a, .ref b, .int (Int32.ofNat o), .int (Int32.ofNat len), .null] 6)) (T11.setTop (mkF m 48 #[.val (.ref a), .val (.ref b), .val (.int (Int32.ofNat o)), .val (.int (Int32.ofNat len)), .val .null, .val (.ref s.heap.size)] [.int 0, .ref a])) := g11
  obtain ⟨T13, X13, p13, bl13, sl13, st13⟩ := X11.finit hexec hown (wk W (.fieldLink "java/lang/String" 15 "java/lang/String" "coder" "B")) (Or.inr ⟨_, (wk W (.laysFinal "java/lang/String" "java/lang/String" "coder" "B"))⟩) (Or.inl ⟨rfl, hnm⟩) f2 (Or.inl rfl) hB11 (t := .byte) (by decide +kernel) rfl (g := (mkF m 48 #[.val (.ref a), .val (.ref b), .val (.int (Int32.ofNat o)), .val (.int (Int32.ofNat len)), .val .null, .val (.ref s.heap.size)] [.int 0, .ref a])) rfl (rest := []) rfl (hb hbytes d48)
  have c14 : Steps p.tables e below (s₁.setTop (entryFrame m #[.ref a, .ref b, .int (Int32.ofNat o), .int (Int32.ofNat len), .null] 6)) (T13.setTop (mkF m 54 #[.val (.ref a), .val (.ref b), .val (.int (Int32.ofNat o)), .val (.int (Int32.ofNat len)), .val .null, .val (.ref s.heap.size)] [.ref s.heap.size, .ref a])) := (c12.trans (st13 _ (Steps.refl _))).trans (by
    refine XS.aloadN X13.here hexec rfl (hb hbytes d51) rfl rfl ?_
    refine XS.aload X13.here hexec rfl (hb hbytes d52) rfl rfl ?_
    exact Steps.refl _)
  obtain ⟨T15, X15, p15, bl15, sl15, st15⟩ := X13.finit hexec hown (wk W (.fieldLink "java/lang/String" 9 "java/lang/String" "value" "[B")) (Or.inr ⟨_, (wk W (.laysFinal "java/lang/String" "java/lang/String" "value" "[B"))⟩) (Or.inl ⟨rfl, hnm⟩) f1 (Or.inl rfl) bl13 (t := (.array .byte)) (by decide +kernel) rfl (g := (mkF m 54 #[.val (.ref a), .val (.ref b), .val (.int (Int32.ofNat o)), .val (.int (Int32.ofNat len)), .val .null, .val (.ref s.heap.size)] [.ref s.heap.size, .ref a])) rfl (rest := []) rfl (hb hbytes d54)
  have c16 : Steps p.tables e below (s₁.setTop (entryFrame m #[.ref a, .ref b, .int (Int32.ofNat o), .int (Int32.ofNat len), .null] 6)) (T15.setTop (mkF m 57 #[.val (.ref a), .val (.ref b), .val (.int (Int32.ofNat o)), .val (.int (Int32.ofNat len)), .val .null, .val (.ref s.heap.size)] [])) := c14.trans (st15 _ (Steps.refl _))
  have ap := apart (Or.inr ⟨_, (wk W (.laysFinal "java/lang/String" "java/lang/String" "value" "[B"))⟩) (Or.inr ⟨_, (wk W (.laysFinal "java/lang/String" "java/lang/String" "coder" "B"))⟩) f1 f2 (t₁ := .array .byte) (t₂ := .byte) (by decide +kernel) (by decide +kernel) (by decide)
  have al := X8.warmed.alike.symm.trans X15.warmed.alike
  have n7 : T11.heap[s.heap.size]? = some N := by rw [q11]; exact n1.1
  exact ⟨T15, none, _, _, _, X15, by simp, rfl, by omega, (fun _ => rfl), ⟨rfl, _, N, bl15, ((Same.refl D _).set _ (by simp)).set _ (by simp), sl15, (Cell.slots_setSlot_ne _ ap).trans sl13, n1.keep al (p15.other hne (p13.other hne n7)), n2, by rw [al.findClass]; exact n3, n4, n5, fun y c h1 h2 => p15.other h1 (p13.other h1 (by rw [q11]; exact n6 y c h2)), by rw [p15.2.2, p13.2.2, q11]; exact z8⟩, fun fs hl => c16.trans (X15.returnOut hexec hret (hb hbytes d57) hl)⟩
end New4
namespace New1
def yN : MethodName := ⟨"java/lang/String", "<init>", "([C)V"⟩
abbrev yB : ByteArray := jdk_42_method_3_code
theorem d0 : decode yB 0 = .ok (.aload_n 0, 1) := by decide +kernel
theorem d1 : decode yB 1 = .ok (.aload_n 1, 1) := by decide +kernel
theorem d2 : decode yB 2 = .ok (.iconst 0, 1) := by decide +kernel
theorem d3 : decode yB 3 = .ok (.aload_n 1, 1) := by decide +kernel
theorem d4 : decode yB 4 = .ok (.arraylength, 1) := by decide +kernel
theorem d5 : decode yB 5 = .ok (.aconst_null, 1) := by decide +kernel
theorem d6 : decode yB 6 = .ok (.invokespecial 27, 3) := by decide +kernel
theorem d9 : decode yB 9 = .ok (.return_, 1) := by decide +kernel
def site : List Cond := [New4.tab] ++ initW "java/lang/String" 27 New4.yN
def tab : Cond := tabOf yN yB 2 none site
def P (a : Addr) (D : Cell) (fV fC : Field) (b : Addr) (A : Cell) (z : Int32) (args : Array Value) (s : State) : Prop := args = #[.ref a, .ref b] ∧ Blank "java/lang/String" a D s ∧ Found "java/lang/String" "value" "[B" fV s ∧ Found "java/lang/String" "coder" "B" fC s ∧ Ch b A s ∧ StaticIs s "java/lang/String" "COMPACT_STRINGS" "Z" (.int z) ∧ ¬ z = 0 ∧ 0 < A.slots.size ∧ A.slots.size ≤ 536870912 ∧ ∀ i, i < A.slots.size → ¬ 255 < cv A i
def E (a : Addr) (D : Cell) (fV fC : Field) (A : Cell) (r : Option Value) (s u : State) : Prop := Got a D fV fC A 0 A.slots.size r s u
/-- new String(chars), not empty, no char above 255: a Latin-1 String of their low bytes -/
theorem law (l : Launch) (a : Addr) (D : Cell) (fV fC : Field) (b : Addr) (A : Cell) (z : Int32) : Law l yN 2 1 3 52 yB 2 none site (P a D fV fC b A z) (E a D fV fC A) [⟨a, fC.slot⟩, ⟨a, fV.slot⟩] 1 A.slots.size := by
  refine Law.of_walk (plainFor_of_name (by decide +kernel)) (by decide +kernel) (by decide +kernel) (by decide) (fun _ _ h => by rw [h.1]; rfl) (fun _ U U' hal hh h => ⟨h.1, h.2.1.mv hal hh, h.2.2.1.al hal, h.2.2.2.1.al hal, h.2.2.2.2.1.mv hal hh, h.2.2.2.2.2.1.there hal hh, h.2.2.2.2.2.2⟩) (fun r U U' V V' h1 hal h2 h => Got.mv r U U' V V' h1 hal h2 h) ?_
  intro p e s m args below meth c s₁ X0 hexec hbytes hml hret hlk hnm hown hh0 W hP
  obtain ⟨rfl, hB, f1, f2, hA, s1, hz, l0, l2, hp⟩ := hP
  have c1 : Steps p.tables e below (s₁.setTop (entryFrame m #[.ref a, .ref b] 2)) (s₁.setTop (mkF m 0 #[.val (.ref a), .val (.ref b)] [])) := entry rfl
  have c2 : Steps p.tables e below (s₁.setTop (entryFrame m #[.ref a, .ref b] 2)) (s₁.setTop (mkF m 6 #[.val (.ref a), .val (.ref b)] [.null, .int (Int32.ofNat A.slots.size), .int 0, .ref b, .ref a])) := c1.trans (by
    refine XS.aloadN X0.here hexec rfl (hb hbytes d0) rfl rfl ?_
    refine XS.aloadN X0.here hexec rfl (hb hbytes d1) rfl rfl ?_
    refine iconstV X0.here hexec rfl 0 (hb hbytes d2) (by decide) ?_
    refine XS.aloadN X0.here hexec rfl (hb hbytes d3) rfl rfl ?_
    refine X0.alen hexec (hA.1.mv X0.warmed.alike hh0) rfl rfl (hb hbytes d4) ?_
    refine XS.aconstNull X0.here hexec rfl (hb hbytes d5) ?_
    exact Steps.refl _)
  obtain ⟨v3, T3, X3, E3, g3⟩ := X0.callN hexec (New4.law l a D fV fC b A z 0 A.slots.size) rfl hown (wks W (initW "java/lang/String" 27 New4.yN)) (W New4.tab (by simp only [site, List.mem_cons, List.mem_append, true_or, or_true])) (W := 0) (Nat.le_of_ble_eq_true rfl) (Nat.le_of_ble_eq_true rfl) (Nat.le_refl _) (by show 0 + A.slots.size ≤ A.slots.size; omega) (g := (mkF m 6 #[.val (.ref a), .val (.ref b)] [.null, .int (Int32.ofNat A.slots.size), .int (Int32.ofNat 0), .ref b, .ref a])) rfl (by rw [hml]; rfl) c2 (argsL := [.ref b, .int (Int32.ofNat 0), .int (Int32.ofNat A.slots.size), .null]) (rest := []) rfl rfl (by show 2 * 0 + 0 ≤ _; decide) (hb hbytes d6) (⟨rfl, hB.mv X0.warmed.alike hh0, f1.al X0.warmed.alike, f2.al X0.warmed.alike, hA.mv X0.warmed.alike hh0, s1.there X0.warmed.alike hh0, hz, l0, by omega, l2, fun i hi => by rw [Nat.zero_add]; exact hp i hi⟩)
  have e0 := Got.mv _ s₁ s _ _ hh0.symm (Vm.Alike.refl _) rfl E3
  obtain rfl := e0.1
  have c4 : Steps p.tables e below (s₁.setTop (entryFrame m #[.ref a, .ref b] 2)) (T3.setTop (mkF m 9 #[.val (.ref a), .val (.ref b)] [])) := g3
  exact ⟨T3, none, _, _, _, X3, by simp, rfl, by omega, (fun _ => rfl), e0, fun fs hl => c4.trans (X3.returnOut hexec hret (hb hbytes d9) hl)⟩
theorem pays {l : Launch} {R : Room} {p : Program} {e : Env} {below : List Frame} {s : State} {sargs : Array Value} {len W : Nat} (a : Addr) (D : Cell) (fV fC : Field) (b : Addr) (A : Cell) (z : Int32) (htab : tab.before sargs s = true) (hfr : 4 ≤ R.frames) (hlo : W + 65 ≤ R.locals) :
    Back l R p e below s sargs yN len W (fun A₁ a₁ => A₁.cells + 1 ≤ R.cells ∧ A₁.slots + A.slots.size ≤ R.slots ∧ P a D fV fC b A z a₁ A₁.U) (fun A₁ _ v₁ B₁ => E a D fV fC A v₁ A₁.U B₁.U ∧ B₁.locs = A₁.locs ++ [⟨a, fC.slot⟩, ⟨a, fV.slot⟩] ∧ B₁.cells = A₁.cells + 1 ∧ B₁.slots = A₁.slots + A.slots.size) :=
  (law l a D fV fC b A z).pays htab hfr (by omega)
end New1
/-- the byte, read back as charAt reads it, is the char -/
theorem lo8_mask {x : Int32} (h0 : ¬ x < 0) (h1 : ¬ 255 < x) : lo8 x &&& 255 = x := by
  have t : ∀ k : Fin 256, lo8 (Int32.ofNat k.val) &&& 255 = Int32.ofNat k.val := by decide +kernel
  rw [Int32.lt_iff_toInt_lt] at h0 h1
  have e0 : (0 : Int32).toInt = 0 := rfl
  have e1 : (255 : Int32).toInt = 255 := rfl
  obtain ⟨k, hk⟩ : ∃ k : Nat, x.toInt = k := ⟨x.toInt.toNat, by omega⟩
  have hx : x = Int32.ofNat k := Int32.toInt_inj.mp (by rw [hk, Int32.toInt_ofNat_small (by omega)])
  rw [hx]
  exact t ⟨k, by omega⟩
end StrChars
namespace StrChars.Road
open Jvm Sem ClassFile Op Lib Jvm.Stand Jvm.Free Jvm.Free.XT
open Jvm.Lib.Cold (StaticIs)
abbrev ST : String := "java/lang/String"
/-- every table word that New1's law asks, flat -/
abbrev words : List Jvm.Cond := [.code New1.yN New1.yB 2 none, .initialized ST, .methodLink ST 27 New4.yN, .instanceMethod New4.yN,
  .code New4.yN New4.yB 6 none, .fieldLink ST 38 ST "COMPACT_STRINGS" "Z", .laysFinal ST ST "value" "[B", .fieldLink ST 9 ST "value" "[B", .laysFinal ST ST "coder" "B", .fieldLink ST 15 ST "coder" "B",
  .methodLink ST 1 Lib.objectInit, .instanceMethod Lib.objectInit, .code Lib.objectInit ⟨#[0xb1]⟩ 1 none, .methodLink ST 177 Cmp3.yN, .static Cmp3.yN, .methodLink ST 47 CodL.yN, .static CodL.yN,
  .code Cmp3.yN Cmp3.yB 6 (some (.array .byte)), .initialized U16, .arrayClass .byte, .methodLink U16 115 Cmp5.yN, .static Cmp5.yN, .code Cmp5.yN Cmp5.yB 7 (some .int), .code CodL.yN CodL.yB 2 (some .byte)]
theorem tab_of {a : Array Value} {s : State} (h : ∀ w ∈ words, w.before a s = true) : New1.tab.before a s = true := by
  have h5 : Cmp5.tab.before a s = true := unparts (wk h (.code Cmp5.yN Cmp5.yB 7 (some .int))) (wks h (.initialized Cmp5.yN.cls :: Cmp5.site))
  have hc : CodL.tab.before a s = true := unparts (wk h (.code CodL.yN CodL.yB 2 (some .byte))) (wks h (.initialized CodL.yN.cls :: CodL.site))
  have q5 : ∀ w ∈ Cmp5.tab :: words, w.before a s = true := fun w hw => (List.mem_cons.mp hw).elim (fun e => e ▸ h5) (h w)
  have h3 : Cmp3.tab.before a s = true := unparts (wk q5 (.code Cmp3.yN Cmp3.yB 6 (some (.array .byte)))) (wks q5 (.initialized Cmp3.yN.cls :: Cmp3.site))
  have q3 : ∀ w ∈ Cmp3.tab :: CodL.tab :: words, w.before a s = true := fun w hw => (List.mem_cons.mp hw).elim (fun e => e ▸ h3) fun hw => (List.mem_cons.mp hw).elim (fun e => e ▸ hc) (h w)
  have h4 : New4.tab.before a s = true := unparts (wk q3 (.code New4.yN New4.yB 6 none)) (wks q3 (.initialized New4.yN.cls :: New4.site))
  have q4 : ∀ w ∈ New4.tab :: words, w.before a s = true := fun w hw => (List.mem_cons.mp hw).elim (fun e => e ▸ h4) (h w)
  exact unparts (wk q4 (.code New1.yN New1.yB 2 none)) (wks q4 (.initialized New1.yN.cls :: New1.site))
/-- the words ride from the start Z to the walk's own state -/
theorem moved {Z s : State} {a0 args : Array Value} (hZ : Z.Warmed39 s.vm) (hw : ∀ d ∈ words, d.before a0 Z = true) : ∀ d ∈ words, d.before args s = true := fun d hd => by
  have q := hw d hd
  have t : ∀ d ∈ words, d = .arrayClass .byte ∨ (d.onTables && d.keepsFace) = true := by decide +kernel
  rcases t d hd with rfl | t
  · exact RoadKit.mvA hZ q
  · exact RoadKit.mv hZ q t
/-- WHAT COMES BACK, over the tables of the start Z: h the heap at the call, h' behind it -/
def Q (Z : State) (x : Addr) (A : Cell) (h : Heap) (v : Option Value) (h' : Heap) (L : List Loc) : Prop := v = none ∧ (∀ y ∈ L, y.base = x) ∧ RoadKit.Keep h h' [x] ∧ h'.size = h.size + 1 ∧ RoadKit.Exa Z h' x ST ∧ RoadKit.Fld Z h' x ST "value" "[B" (.ref h.size) ∧ RoadKit.Fld Z h' x ST "coder" "B" (.int 0) ∧
  (∃ V : Cell, RoadKit.Arr Z h' h.size V .byte ∧ V.vm = .none ∧ Z.vm.findClass "[B" = some V.cls ∧ V.slots.size = A.slots.size ∧ ∀ j, j < A.slots.size → V.slots[j]? = some (.int (lo8 (cv A j)))) ∧
  ∀ (O n d : String) (w : Value), RoadKit.Fld Z h x O n d w → RoadKit.slotOf Z O n d ≠ RoadKit.slotOf Z ST "value" "[B" → RoadKit.slotOf Z O n d ≠ RoadKit.slotOf Z ST "coder" "B" → RoadKit.Fld Z h' x O n d w
/-- **new String(chars) AT A CALL, IN THE ROAD'S FORM**: for specialBack behind newO: x the fresh String, b the char[] with the cell A -/
theorem back {p : Program} {l : Launch} {e : Env} {R : Room} {s : State} {args : Array Value} {below : List Frame} {len W : Nat} {Z : State} {a0 : Array Value} {h : Heap} (hZ : Z.Warmed39 s.vm) (hw : ∀ d ∈ words, d.before a0 Z = true) {kI : Nat} (wi : (Jvm.Cond.instantiable ST kI).before a0 Z = true)
    {x b : Addr} {A : Cell} {z : Int32} {v0 c0 : Value} (E : RoadKit.Exa Z h x ST) (V : RoadKit.Fld Z h x ST "value" "[B" v0) (C : RoadKit.Fld Z h x ST "coder" "B" c0) (K : RoadKit.Arr Z h b A .char) (hty : Typed .char A) (S : RoadKit.Sta Z h ST "COMPACT_STRINGS" "Z" (.int z)) (hz : ¬ z = 0)
    (l0 : 0 < A.slots.size) (l2 : A.slots.size ≤ 536870912) (hp : ∀ i, i < A.slots.size → ¬ 255 < cv A i) (hfr : 4 ≤ R.frames) (hlo : W + 65 ≤ R.locals) :
    Back l R p e below s args New1.yN len W (fun P a => a = #[.ref x, .ref b] ∧ P.U.heap = h ∧ P.cells + 1 ≤ R.cells ∧ P.slots + A.slots.size ≤ R.slots)
      (fun P _ v B => ∃ L, Q Z x A h v B.U.heap L ∧ B.locs = P.locs ++ L ∧ B.cells = P.cells + 1 ∧ B.slots = P.slots + A.slots.size) := by
  intro m meth c P g ig mk a X hg hsize hdg hW hn hp'
  obtain ⟨rfl, rfl, r1, r2⟩ := hp'
  have al : Z.vm.Alike P.U.vm := hZ.alike.trans X.warmed.alike
  obtain ⟨D, cfV, kV, iV, fV, hD, gV, stV, knV, obV, asV, slV⟩ := id V
  obtain ⟨D', cfC, kC, iC, fC, hD', gC, stC, -, -, asC, slC⟩ := id C
  cases hD.symm.trans hD'
  obtain ⟨D2, kD, e1, e2, e3, e4, e5⟩ := id E
  cases hD.symm.trans e1
  obtain ⟨c2, k2, i1, i2, i3, -⟩ := Cond.instantiable_spec wi
  cases e2.symm.trans i1
  cases e3.symm.trans i2
  obtain ⟨kU, u1, u2⟩ := al.2.2 _ _ e3
  have hB : Blank ST x D P.U := ⟨hD, ⟨knV, fun q hq => by rw [hq] at obV; cases obV⟩, by rw [al.findClass]; exact e2, kU, u1, by rw [u2]; exact i3, by rw [u2]; exact e5 i3⟩
  have F1 : Found ST "value" "[B" fV P.U := ⟨SBG.found_only al ⟨cfV, kV, iV, gV⟩, stV⟩
  have F2 : Found ST "coder" "B" fC P.U := ⟨SBG.found_only al ⟨cfC, kC, iC, gC⟩, stC⟩
  have hA : Ch b A P.U := ⟨⟨K.1, State.isArrayOf_alike al K.2.1, K.2.2, by omega⟩, hty⟩
  have hS : StaticIs P.U ST "COMPACT_STRINGS" "Z" (.int z) := by
    obtain ⟨cfS, iS, kS, fS, st, cS, t1, t2, t3, t4, t5, t6, t7⟩ := S
    exact StaticIs.there (s := { Z with heap := P.U.heap }) ⟨cfS, iS, kS, fS, st, cS, t1, t2, t3, t4, t5, (fun q => by rw [q] at t6; cases t6), t7⟩ al rfl
  obtain ⟨v, B, X', ⟨⟨hv, E', V', q1, q2, q3, q4, q5, q6, q7, q8, q9, q10, q11⟩, hl, hc, hs⟩, st⟩ := New1.pays x D fV fC b A z (tab_of (moved hZ hw)) hfr hlo m meth c P g ig mk _ X hg hsize hdg hW hn ⟨r1, r2, rfl, hB, F1, F2, hA, hS, hz, l0, l2, hp⟩
  have al' : Z.vm.Alike B.U.vm := hZ.alike.trans X'.warmed.alike
  have hsz : E'.slots.size = D.slots.size := by
    obtain ⟨-, -, -, kB, w1, w2, w3⟩ := q1
    obtain ⟨kB', y1, y2⟩ := al'.2.2 _ _ e3
    rw [q2.2.1] at w1
    cases w1.symm.trans y1
    rw [w3, e5 i3, y2]
  refine ⟨v, B, X', ⟨_, ⟨hv, ?_, ⟨by omega, fun y cy hy hn' => q10 y cy (by simpa using hn') hy, fun y cy hy => ?_⟩, q11, ⟨E', _, q1.1, by rw [q2.2.1]; exact e2, by rw [q2.2.1]; exact e3, by rw [q2.1]; exact obV, fun _ => by rw [hsz]; exact e5 i3⟩,
    ⟨E', cfV, kV, iV, fV, q1.1, gV, stV, by rw [q2.1]; exact knV, by rw [q2.1]; exact obV, by rw [q2.2.1]; exact asV, q3⟩, ⟨E', cfC, kC, iC, fC, q1.1, gC, stC, by rw [q2.1]; exact knV, by rw [q2.1]; exact obV, by rw [q2.2.1]; exact asC, q4⟩,
    ⟨V', ⟨q5.1, State.isArrayOf_alike al'.symm q5.2.1, q5.2.2.1⟩, q6, by rw [← al'.findClass]; exact q7, q8, fun j hj => by have := q9 j hj; rwa [Nat.zero_add] at this⟩, fun O n d w F n1 n2 => ?_⟩, hl, hc, hs⟩, st⟩
  · intro y hy
    simp only [List.mem_cons, List.not_mem_nil, or_false] at hy
    rcases hy with rfl | rfl <;> rfl
  · by_cases q : y = x
    · subst q
      cases hD.symm.trans hy
      exact ⟨E', q1.1, q2.2.1, q2.1, hsz⟩
    · exact ⟨cy, q10 y cy q hy, rfl, rfl, rfl⟩
  · obtain ⟨D3, cf, k, i, f, g1, g2, g3, g4, g5, g6, g7⟩ := F
    cases hD.symm.trans g1
    simp only [RoadKit.slotOf, g2, gV, gC, Option.map_some, Option.getD_some] at n1 n2
    exact ⟨E', cf, k, i, f, q1.1, g2, g3, by rw [q2.1]; exact g4, by rw [q2.1]; exact g5, by rw [q2.2.1]; exact g6, by rw [q2.2.2 f.slot (by simp [n1, n2])]; exact g7⟩
end StrChars.Road
namespace StrChars.Road
open Jvm Sem ClassFile Op Lib Jvm.Stand Jvm.Free Jvm.Free.XT
/-- WHAT COMES BACK, the byte[] as a list of values -/
def QA (Z : State) (x : Addr) (zn : Int32) (cs : List Int32) (h : Heap) (v : Option Value) (h' : Heap) (L : List Loc) : Prop := v = none ∧ (∀ y ∈ L, y.base = x) ∧ RoadKit.Keep h h' [x] ∧ h'.size = h.size + 1 ∧ RoadKit.Exa Z h' x ST ∧ RoadKit.Fld Z h' x ST "value" "[B" (.ref h.size) ∧ RoadKit.Fld Z h' x ST "coder" "B" (.int 0) ∧
  (∃ kb, Z.vm.findClass "[B" = some kb ∧ RoadKit.Arv Z h' h.size kb .byte zn (cs.map fun c => .int (lo8 c)) (.int 0)) ∧
  ∀ (O n d : String) (w : Value), RoadKit.Fld Z h x O n d w → RoadKit.slotOf Z O n d ≠ RoadKit.slotOf Z ST "value" "[B" → RoadKit.slotOf Z O n d ≠ RoadKit.slotOf Z ST "coder" "B" → RoadKit.Fld Z h' x O n d w
/-- **new String(chars) AT A CALL, THE ARRAYS AS LISTS**: the char[] at b holds cs, not empty, no char above 255 -/
theorem backArv {p : Program} {l : Launch} {e : Env} {R : Room} {s : State} {args : Array Value} {below : List Frame} {len W : Nat} {Z : State} {a0 : Array Value} {h : Heap} (hZ : Z.Warmed39 s.vm) (hw : ∀ d ∈ words, d.before a0 Z = true) {kI : Nat} (wi : (Jvm.Cond.instantiable ST kI).before a0 Z = true)
    {x b : Addr} {k : ClassId} {zn z : Int32} {cs : List Int32} {dv v0 c0 : Value} (E : RoadKit.Exa Z h x ST) (V : RoadKit.Fld Z h x ST "value" "[B" v0) (C : RoadKit.Fld Z h x ST "coder" "B" c0) (K : RoadKit.Arv Z h b k .char zn (cs.map Value.int) dv) (S : RoadKit.Sta Z h ST "COMPACT_STRINGS" "Z" (.int z)) (hz : ¬ z = 0)
    (hlen : zn.toNatClampNeg = cs.length) (h0 : 0 < cs.length) (hbig : cs.length ≤ 536870912) (hall : ∀ c ∈ cs, ¬ 255 < c) (hfr : 4 ≤ R.frames) (hlo : W + 65 ≤ R.locals) :
    Back l R p e below s args New1.yN len W (fun P a => a = #[.ref x, .ref b] ∧ P.U.heap = h ∧ P.cells + 1 ≤ R.cells ∧ P.slots + cs.length ≤ R.slots)
      (fun P _ v B => ∃ L, QA Z x zn cs h v B.U.heap L ∧ B.locs = P.locs ++ L ∧ B.cells = P.cells + 1 ∧ B.slots = P.slots + cs.length) := by
  obtain ⟨A, K1, K2, K3, K4, K5, K6⟩ := K
  have e : A.slots.size = cs.length := K3.trans hlen
  have hat : ∀ (i : Nat) (hi : i < cs.length), A.slots[i]? = some (.int cs[i]) := fun i hi => by rw [K5 i (by omega)]; simp [List.getD_eq_getElem?_getD, hi]
  have hcv : ∀ (i : Nat) (hi : i < cs.length), cv A i = cs[i] := fun i hi => by unfold cv; rw [hat i hi]
  have hty : Typed .char A := fun i v hv => by
    have hi : i < A.slots.size := (Array.getElem?_eq_some_iff.mp hv).1
    have q := K5 i hi
    rw [hv] at q
    rw [Option.some.inj q]
    exact K6 i hi
  refine Back.mono (back hZ hw wi E V C K1 hty S hz (by omega) (by omega) (fun i hi => by rw [hcv i (by omega)]; exact hall _ (List.getElem_mem _)) hfr hlo) (fun P a hp => ⟨hp.1, hp.2.1, hp.2.2.1, by rw [e]; exact hp.2.2.2⟩) (fun P a v B hp hq => ?_)
  obtain ⟨L, ⟨q1, q2, q3, q4, q5, q6, q7, ⟨V', v1, v2, v3, v4, v5⟩, q9⟩, hl, hc, hs⟩ := hq
  refine ⟨L, ⟨q1, q2, q3, q4, q5, q6, q7, ⟨V'.cls, v3, V', v1, rfl, by rw [v4, e, hlen], K4, fun i hi => ?_, fun i hi => ?_⟩, q9⟩, hl, hc, by rw [hs, e]⟩
  · have hi' : i < cs.length := by omega
    rw [v5 i (by omega), hcv i hi']; simp [List.getD_eq_getElem?_getD, hi']
  · have hi' : i < cs.length := by omega
    simp only [List.getD_eq_getElem?_getD, List.getElem?_map, List.getElem?_eq_getElem hi', Option.map_some, Option.getD_some]
    exact fits_lo8 _
end StrChars.Road
namespace StrChars.Road
open Jvm Sem ClassFile Op Lib Jvm.Stand Jvm.Free Jvm.Free.XT
/-- WHAT COMES BACK, in the writer's own shape -/
def QV (Z : State) (x : Addr) (N : Int32) (bs : List Int32) (h : Heap) (n0 : Nat) (v : Option Value) (h' : Heap) (L : List Loc) : Prop := v = none ∧ RoadKit.Fr n0 L ∧ RoadKit.Keep h h' [x] ∧ RoadKit.Exa Z h' x ST ∧ RoadKit.Fld Z h' x ST "coder" "B" (.int 0) ∧
  ∃ (t : Addr) (kb : ClassId), n0 ≤ t ∧ h.size ≤ t ∧ ¬ t = x ∧ RoadKit.Fld Z h' x ST "value" "[B" (.ref t) ∧ RoadKit.Arv Z h' t kb .byte N (bs.map Value.int) (.int 0)
/-- **new String(chars) AT A CALL, FOR THE WRITER**: a char[] of n known ints, each 0 to 255 -/
theorem backV {p : Program} {l : Launch} {e : Env} {R : Room} {s : State} {args : Array Value} {below : List Frame} {len W : Nat} {Z : State} {a0 : Array Value} {h : Heap} (hZ : Z.Warmed39 s.vm) (hw : ∀ d ∈ words, d.before a0 Z = true) {kI : Nat} (wi : (Jvm.Cond.instantiable ST kI).before a0 Z = true)
    {x b : Addr} {kC : ClassId} {cs bs : List Int32} {d v0 c0 : Value} {z N : Int32} {n n0 : Nat} (hx0 : n0 ≤ x) (hh0 : n0 ≤ h.size) (E : RoadKit.Exa Z h x ST) (V : RoadKit.Fld Z h x ST "value" "[B" v0) (C : RoadKit.Fld Z h x ST "coder" "B" c0) (K : RoadKit.Arv Z h b kC .char N (cs.map Value.int) d) (S : RoadKit.Sta Z h ST "COMPACT_STRINGS" "Z" (.int z)) (hz : ¬ z = 0)
    (hn : cs.length = n) (hN : N = Int32.ofNat n) (l0 : 0 < n) (l2 : n ≤ 4000) (hp : ∀ c ∈ cs, ¬ c < 0 ∧ ¬ (255 : Int32) < c) (hb : bs = cs.map (fun c => c.toInt8.toInt32)) (hfr : 4 ≤ R.frames) (hlo : W + 65 ≤ R.locals) :
    Back l R p e below s args (⟨"java/lang/String", "<init>", "([C)V"⟩ : MethodName) len W (fun P a => a = #[.ref x, .ref b] ∧ P.U.heap = h ∧ P.cells + 1 ≤ R.cells ∧ P.slots + n ≤ R.slots)
      (fun P _ v B => ∃ L, QV Z x N bs h n0 v B.U.heap L ∧ B.locs = P.locs ++ L ∧ B.cells = P.cells + 1 ∧ B.slots = P.slots + n) := by
  subst hn hN hb
  refine Back.mono (backArv hZ hw wi E V C K S hz (n32 (by omega)) l0 (by omega) (fun c hc => (hp c hc).2) hfr hlo) (fun P a hp => hp) (fun P a v B hp hq => ?_)
  obtain ⟨L, ⟨q1, q2, q3, q4, q5, q6, q7, ⟨kb, v1, v2⟩, q9⟩, hl, hc, hs⟩ := hq
  exact ⟨L, ⟨q1, fun y hy => by rw [q2 y hy]; exact hx0, q3, q5, q7, h.size, kb, hh0, Nat.le_refl _, Nat.ne_of_gt E.lt, q6, by rw [List.map_map]; exact v2⟩, hl, hc, hs⟩
end StrChars.Road
namespace StrChars
open Jvm Sem ClassFile Op Lib Jvm.Stand Jvm.Free.XT Jvm.Free.ALB Jvm.Free.JM Jvm.Free
open Jvm.Lib.Cold (StaticIs)
def hi8 (x : Int32) : Int32 := lo8 (x >>> ((8 : Int32) &&& 31))
/-- what StringUTF16.getChar makes of two bytes -/
def pairCh (u v : Int32) : Int32 := (((u &&& 255) <<< ((0 : Int32) &&& 31)) ||| ((v &&& 255) <<< ((8 : Int32) &&& 31))).toUInt32.toUInt16.toUInt32.toInt32
theorem lo8_and (x : Int32) : (lo8 x &&& 255).toBitVec.toNat = x.toBitVec.toNat % 256 := by
  have h : (lo8 x).toBitVec = (x.toBitVec.signExtend 8).signExtend 32 := by rw [lo8, Int8.toBitVec_toInt32, Int32.toBitVec_toInt8]
  rw [Int32.toBitVec_and, BitVec.toNat_and, h]
  have e : ((x.toBitVec.signExtend 8).signExtend 32).toNat % 256 = x.toBitVec.toNat % 256 := by
    rw [BitVec.toNat_signExtend]
    have hlt := x.toBitVec.isLt
    simp only [BitVec.toNat_setWidth, BitVec.toNat_signExtend]
    split <;> split <;> omega
  rw [← e]
  exact Nat.and_two_pow_sub_one_eq_mod _ 8
theorem pair_says {c : Int32} (h0 : ¬ c < 0) (h1 : ¬ 65535 < c) : pairCh (lo8 c) (hi8 c) = c := by
  rw [Int32.lt_iff_toInt_lt] at h0 h1
  have e0 : (0 : Int32).toInt = 0 := rfl
  have e1 : (65535 : Int32).toInt = 65535 := rfl
  have hc : c.toInt = c.toBitVec.toNat := by
    have := c.toBitVec.isLt
    have e : c.toInt = c.toBitVec.toInt := rfl
    rw [e] at h0 h1
    rw [e]
    rw [BitVec.toInt_eq_toNat_cond] at h0 h1 ⊢
    split at h0 <;> split <;> omega
  have hn : c.toBitVec.toNat < 65536 := by omega
  have a1 := lo8_and c
  have a2 : (hi8 c &&& 255).toBitVec.toNat = c.toBitVec.toNat / 256 := by
    rw [hi8, lo8_and]
    have e : ((8 : Int32) &&& 31) = 8 := by decide
    rw [e, Int32.toBitVec_shiftRight]
    have e2 : ((8 : Int32).toBitVec.smod 32) = 8#32 := by decide
    rw [e2, BitVec.sshiftRight_eq', BitVec.toNat_sshiftRight_of_msb_false (by rw [BitVec.msb_eq_false_iff_two_mul_lt]; omega)]
    show c.toBitVec.toNat >>> 8 % 256 = _
    rw [Nat.shiftRight_eq_div_pow]
    omega
  unfold pairCh
  apply Int32.toBitVec_inj.mp
  apply BitVec.eq_of_toNat_eq
  have f0 : ((0 : Int32) &&& 31) = 0 := by decide
  have f8 : ((8 : Int32) &&& 31) = 8 := by decide
  rw [f0, f8]
  have g : (((lo8 c &&& 255) <<< (0 : Int32)) ||| ((hi8 c &&& 255) <<< (8 : Int32))).toBitVec.toNat = c.toBitVec.toNat := by
    rw [Int32.toBitVec_or, Int32.toBitVec_shiftLeft, Int32.toBitVec_shiftLeft]
    have s0 : ((0 : Int32).toBitVec.smod 32) = 0#32 := by decide
    have s8 : ((8 : Int32).toBitVec.smod 32) = 8#32 := by decide
    rw [s0, s8, BitVec.toNat_or]
    simp only [BitVec.shiftLeft_eq', BitVec.toNat_shiftLeft, a1, a2]
    show (c.toBitVec.toNat % 256) <<< 0 % 2 ^ 32 ||| (c.toBitVec.toNat / 256) <<< 8 % 2 ^ 32 = _
    rw [Nat.shiftLeft_zero, Nat.mod_eq_of_lt (show c.toBitVec.toNat % 256 < 2 ^ 32 by omega), Nat.mod_eq_of_lt (show (c.toBitVec.toNat / 256) <<< 8 < 2 ^ 32 by rw [Nat.shiftLeft_eq]; omega), Nat.or_comm, ← Nat.shiftLeft_add_eq_or_of_lt (by omega), Nat.shiftLeft_eq]
    omega
  show BitVec.toNat (((((lo8 c &&& 255) <<< (0 : Int32)) ||| ((hi8 c &&& 255) <<< (8 : Int32))).toBitVec.setWidth 16).setWidth 32) = _
  rw [BitVec.toNat_setWidth, BitVec.toNat_setWidth, g]
  omega
end StrChars
namespace StrChars
open Jvm Sem ClassFile Op Lib Jvm.Stand Jvm.Free.XT Jvm.Free.ALB Jvm.Free.JM Jvm.Free
open Jvm.Lib.Cold (StaticIs)
/-- charAt's cast of a byte read back -/
def chr8 (u : Int32) : Int32 := (u &&& 255).toUInt32.toUInt16.toUInt32.toInt32
theorem chr8_lo8 {c : Int32} (h0 : ¬ c < 0) (h1 : ¬ 255 < c) : chr8 (lo8 c) = c := by
  have t : ∀ k : Fin 256, (Int32.ofNat k.val).toUInt32.toUInt16.toUInt32.toInt32 = Int32.ofNat k.val := by decide +kernel
  unfold chr8
  rw [lo8_mask h0 h1]
  rw [Int32.lt_iff_toInt_lt] at h0 h1
  have e0 : (0 : Int32).toInt = 0 := rfl
  have e1 : (255 : Int32).toInt = 255 := rfl
  obtain ⟨k, hk⟩ : ∃ k : Nat, c.toInt = k := ⟨c.toInt.toNat, by omega⟩
  have hx : c = Int32.ofNat k := Int32.toInt_inj.mp (by rw [hk, Int32.toInt_ofNat_small (by omega)])
  rw [hx]
  exact t ⟨k, by omega⟩
theorem narrow_ch {c : Int32} (h0 : ¬ c < 0) (h1 : ¬ 65535 < c) : narrow .char (.int c) = .int c := by
  have q : narrow .char (.int (pairCh (lo8 c) (hi8 c))) = .int (pairCh (lo8 c) (hi8 c)) := narrow_c _
  rwa [pair_says h0 h1] at q
/-- the array's cell V codes the n chars f 0 .. f (n - 1) by the coder cd, as the JDK does: coder 1 just where some char is above 255 -/
def Cod (cd : Int32) (n : Nat) (f : Nat → Int32) (V : Cell) : Prop := (cd = 0 ∧ V.slots.size = n ∧ ∀ j, j < n → V.slots[j]? = some (.int (lo8 (f j))) ∧ ¬ 255 < f j) ∨ (cd = 1 ∧ V.slots.size = 2 * n ∧ (∀ j, j < n → V.slots[2 * j]? = some (.int (lo8 (f j))) ∧ V.slots[2 * j + 1]? = some (.int (hi8 (f j)))) ∧ ∃ j, j < n ∧ 255 < f j)
theorem Cod.cd {cd : Int32} {n : Nat} {f : Nat → Int32} {V : Cell} (h : Cod cd n f V) : cd = 0 ∨ cd = 1 := h.imp (fun q => q.1) fun q => q.1
/-- **x is a String of the n chars f 0 .. f (n - 1)**, Latin-1 or UTF-16; its array at t has the cell V -/
def Txt (x t : Addr) (V : Cell) (cd : Int32) (n : Nat) (f : Nat → Int32) (U : State) : Prop := Exact "java/lang/String" x U ∧ Has x "java/lang/String" "value" "[B" (.ref t) U ∧ Has x "java/lang/String" "coder" "B" (.int cd) U ∧ XT.Arr .byte t V U ∧ Cod cd n f V ∧ ∀ j, j < n → ¬ f j < 0 ∧ ¬ 65535 < f j
theorem Txt.mv {x t : Addr} {V : Cell} {cd : Int32} {n : Nat} {f : Nat → Int32} {U U' : State} (h : Txt x t V cd n f U) (hal : U.vm.Alike U'.vm) (hh : U'.heap = U.heap) : Txt x t V cd n f U' := ⟨h.1.mv hal hh, h.2.1.mv hal hh, h.2.2.1.mv hal hh, h.2.2.2.1.mv hal hh, h.2.2.2.2⟩
namespace IsL
def yN : MethodName := ⟨"java/lang/String", "isLatin1", "()Z"⟩
abbrev yB : ByteArray := jdk_42_method_154_code
theorem d0 : decode yB 0 = .ok (.getstatic 38, 3) := by decide +kernel
theorem d3 : decode yB 3 = .ok (.ifCond (.eq) 14, 3) := by decide +kernel
theorem d6 : decode yB 6 = .ok (.aload_n 0, 1) := by decide +kernel
theorem d7 : decode yB 7 = .ok (.getfield 15, 3) := by decide +kernel
theorem d10 : decode yB 10 = .ok (.ifCond (.ne) 7, 3) := by decide +kernel
theorem d13 : decode yB 13 = .ok (.iconst 1, 1) := by decide +kernel
theorem d14 : decode yB 14 = .ok (.goto 4, 3) := by decide +kernel
theorem d17 : decode yB 17 = .ok (.iconst 0, 1) := by decide +kernel
theorem d18 : decode yB 18 = .ok (.ireturn, 1) := by decide +kernel
def site : List Cond := [.fieldLink "java/lang/String" 38 "java/lang/String" "COMPACT_STRINGS" "Z", .fieldLink "java/lang/String" 15 "java/lang/String" "coder" "B"]
def tab : Cond := tabOf yN yB 1 (some .boolean) site
def P (x : Addr) (cd z : Int32) (args : Array Value) (s : State) : Prop := args = #[.ref x] ∧ Has x "java/lang/String" "coder" "B" (.int cd) s ∧ (cd = 0 ∨ cd = 1) ∧ StaticIs s "java/lang/String" "COMPACT_STRINGS" "Z" (.int z) ∧ ¬ z = 0
def E (cd : Int32) (r : Option Value) (s u : State) : Prop := XT.PureE (some (.int (1 - cd))) r s u
theorem law (l : Launch) (x : Addr) (cd z : Int32) : Law l yN 1 0 0 0 yB 1 (some .boolean) site (P x cd z) (E cd) [] 0 0 := by
  refine Law.of_walk (plainFor_of_name (by decide +kernel)) (by decide +kernel) (by decide +kernel) (by decide) (fun _ _ h => by rw [h.1]; rfl) (fun _ U U' hal hh h => ⟨h.1, h.2.1.mv hal hh, h.2.2.1, h.2.2.2.1.there hal hh, h.2.2.2.2⟩) (fun r U U' V V' h1 hal h2 h => XT.PureE.mv r U U' V V' h1 hal h2 h) ?_
  intro p e s m args below meth c s₁ X0 hexec hbytes hml hret hlk hnm hown hh0 W hP
  obtain ⟨rfl, hx, hc, s1, hz⟩ := hP
  have c1 : Steps p.tables e below (s₁.setTop (entryFrame m #[.ref x] 1)) (s₁.setTop (mkF m 0 #[.val (.ref x)] [])) := entry rfl
  obtain ⟨T2, X2, q2, st2⟩ := X0.sget hexec hown (wk W (.fieldLink "java/lang/String" 38 "java/lang/String" "COMPACT_STRINGS" "Z")) s1 (fun _ _ h => by rw [hh0]; exact h) (g := (mkF m 0 #[.val (.ref x)] [])) rfl (hb hbytes d0)
  have hh2 := q2.trans hh0
  have c3 : Steps p.tables e below (s₁.setTop (entryFrame m #[.ref x] 1)) (T2.setTop (mkF m 7 #[.val (.ref x)] [.ref x])) := (c1.trans (st2 _ (Steps.refl _))).trans (by
    refine XS.ifNo X2.here hexec rfl (hb hbytes d3) rfl (i0_eq_f hz) ?_
    refine XS.aloadN X2.here hexec rfl (hb hbytes d6) rfl rfl ?_
    exact Steps.refl _)
  obtain ⟨T4, X4, q4, st4⟩ := X2.hget hexec hown (wk W (.fieldLink "java/lang/String" 15 "java/lang/String" "coder" "B")) (hx.mv X2.warmed.alike hh2) (g := (mkF m 7 #[.val (.ref x)] [.ref x])) rfl (rest := []) rfl (hb hbytes d7)
  have c5 : Steps p.tables e below (s₁.setTop (entryFrame m #[.ref x] 1)) (T4.setTop (mkF m 10 #[.val (.ref x)] [.int cd])) := c3.trans (st4 _ (Steps.refl _))
  have c6 : Steps p.tables e below (s₁.setTop (entryFrame m #[.ref x] 1)) (T4.setTop (mkF m 18 #[.val (.ref x)] [.int (1 - cd)])) := by
    rcases hc with rfl | rfl
    · exact c5.trans (by
        refine XS.ifNo X4.here hexec rfl (hb hbytes d10) rfl (i0_ne_f rfl) ?_
        refine iconstV X4.here hexec rfl 1 (hb hbytes d13) (by decide) ?_
        refine XS.goto X4.here hexec rfl (pc0 := 14) rfl (hb hbytes d14) (by decide) rfl ?_
        exact Steps.refl _)
    · exact c5.trans (by
        refine XS.ifYes X4.here hexec rfl (pc0 := 10) rfl (hb hbytes d10) rfl (i0_ne_t (by decide)) (by decide) rfl ?_
        refine iconstV X4.here hexec rfl 0 (hb hbytes d17) (by decide) ?_
        exact Steps.refl _)
  exact ⟨T4, some (.int (1 - cd)), _, _, _, X4, rfl, rfl, rfl, (fun h => by cases h), ⟨rfl, q4.trans hh2⟩, fun fs hl => c6.trans (X4.ireturnOut hexec hret (by rcases hc with rfl | rfl <;> rfl) (Or.inr (Or.inl rfl)) (hb hbytes d18) hl)⟩
end IsL
namespace LChA
def yN : MethodName := ⟨"java/lang/StringLatin1", "charAt", "([BI)C"⟩
abbrev yB : ByteArray := jdk_43_method_2_code
theorem d0 : decode yB 0 = .ok (.iload_n 1, 1) := by decide +kernel
theorem d1 : decode yB 1 = .ok (.aload_n 0, 1) := by decide +kernel
theorem d2 : decode yB 2 = .ok (.arraylength, 1) := by decide +kernel
theorem d3 : decode yB 3 = .ok (.invokestatic 9, 3) := by decide +kernel
theorem d6 : decode yB 6 = .ok (.aload_n 0, 1) := by decide +kernel
theorem d7 : decode yB 7 = .ok (.iload_n 1, 1) := by decide +kernel
theorem d8 : decode yB 8 = .ok (.baload, 1) := by decide +kernel
theorem d9 : decode yB 9 = .ok (.sipush 255, 3) := by decide +kernel
theorem d12 : decode yB 12 = .ok (.iand, 1) := by decide +kernel
theorem d13 : decode yB 13 = .ok (.i2c, 1) := by decide +kernel
theorem d14 : decode yB 14 = .ok (.ireturn, 1) := by decide +kernel
def site : List Cond := [JO.Str_checkIndex.tab] ++ staticW "java/lang/StringLatin1" 9 JO.Str_checkIndex.yN
def tab : Cond := tabOf yN yB 2 (some .char) site
def P (t : Addr) (V : Cell) (i : Nat) (u : Int32) (fm : Value) (args : Array Value) (s : State) : Prop := args = #[.ref t, .int (Int32.ofNat i)] ∧ XT.Arr .byte t V s ∧ V.slots[i]? = some (.int u) ∧ (StaticIs s "jdk/internal/util/Preconditions" "SIOOBE_FORMATTER" "Ljava/util/function/BiFunction;" fm ∧ fm.isRef = true)
def E (u : Int32) (r : Option Value) (s w : State) : Prop := XT.PureE (some (.int (chr8 u))) r s w
theorem law (l : Launch) (t : Addr) (V : Cell) (i : Nat) (u : Int32) (fm : Value) : Law l yN 2 2 2 27 yB 2 (some .char) site (P t V i u fm) (E u) [] 0 0 := by
  refine Law.of_walk (plainFor_of_name (by decide +kernel)) (by decide +kernel) (by decide +kernel) (by decide) (fun _ _ h => by rw [h.1]; rfl) (fun _ U U' hal hh h => ⟨h.1, h.2.1.mv hal hh, h.2.2.1, h.2.2.2.1.there hal hh, h.2.2.2.2⟩) (fun r U U' V V' h1 hal h2 h => XT.PureE.mv r U U' V V' h1 hal h2 h) ?_
  intro p e s m args below meth c s₁ X0 hexec hbytes hml hret hlk hnm hown hh0 W hP
  obtain ⟨rfl, hV, hu, s1, rf⟩ := hP
  have v31 := hV.2.2.2
  have hi : i < V.slots.size := (Array.getElem?_eq_some_iff.mp hu).1
  have c1 : Steps p.tables e below (s₁.setTop (entryFrame m #[.ref t, .int (Int32.ofNat i)] 2)) (s₁.setTop (mkF m 0 #[.val (.ref t), .val (.int (Int32.ofNat i))] [])) := entry rfl
  have c2 : Steps p.tables e below (s₁.setTop (entryFrame m #[.ref t, .int (Int32.ofNat i)] 2)) (s₁.setTop (mkF m 3 #[.val (.ref t), .val (.int (Int32.ofNat i))] [.int (Int32.ofNat V.slots.size), .int (Int32.ofNat i)])) := c1.trans (by
    refine XS.iloadN X0.here hexec rfl (hb hbytes d0) rfl ?_
    refine XS.aloadN X0.here hexec rfl (hb hbytes d1) rfl rfl ?_
    refine X0.alen hexec (hV.mv X0.warmed.alike hh0) rfl rfl (hb hbytes d2) ?_
    exact Steps.refl _)
  obtain ⟨v3, T3, X3, E3, g3⟩ := X0.callS hexec (JO.Str_checkIndex.law l (Int32.ofNat i) (Int32.ofNat V.slots.size) fm) hown (wks W (staticW "java/lang/StringLatin1" 9 JO.Str_checkIndex.yN)) (wk W JO.Str_checkIndex.tab) (W := 0) (Nat.le_of_ble_eq_true rfl) (Nat.le_of_ble_eq_true rfl) (Nat.le_refl _) (Nat.le_refl _) (g := (mkF m 3 #[.val (.ref t), .val (.int (Int32.ofNat i))] [.int (Int32.ofNat V.slots.size), .int (Int32.ofNat i)])) rfl (by rw [hml]; rfl) c2 (argsL := [.int (Int32.ofNat i), .int (Int32.ofNat V.slots.size)]) (rest := []) rfl rfl (by show 2 * 0 + 0 ≤ _; decide) (hb hbytes d3) (⟨rfl, rf, s1.there X0.warmed.alike hh0, Int32.ofNat_not_neg (by omega), lt32 v31 hi⟩)
  obtain ⟨rfl, q3⟩ := E3
  have hh3 := q3.trans hh0
  have c4 : Steps p.tables e below (s₁.setTop (entryFrame m #[.ref t, .int (Int32.ofNat i)] 2)) (T3.setTop (mkF m 14 #[.val (.ref t), .val (.int (Int32.ofNat i))] [.int (chr8 u)])) := Steps.trans g3 (by
    refine XS.aloadN X3.here hexec rfl (hb hbytes d6) rfl rfl ?_
    refine XS.iloadN X3.here hexec rfl (hb hbytes d7) rfl ?_
    refine X3.aget hexec (hV.mv X3.warmed.alike hh3) rfl hu rfl rfl (hb hbytes d8) ?_
    refine sipushV X3.here hexec rfl 255 (hb hbytes d9) (by decide) ?_
    refine XS.iand X3.here hexec rfl (hb hbytes d12) rfl ?_
    refine i2c X3.here hexec rfl (hb hbytes d13) rfl ?_
    exact Steps.refl _)
  exact ⟨T3, some (.int (chr8 u)), _, _, _, X3, rfl, rfl, rfl, (fun h => by cases h), ⟨rfl, hh3⟩, fun fs hl => c4.trans (X3.ireturnOut hexec hret (narrow_c _) (Or.inr (Or.inr (Or.inr (Or.inl rfl)))) (hb hbytes d14) hl)⟩
end LChA
end StrChars
namespace StrChars.Road
open Jvm Sem ClassFile Op Lib Jvm.Stand Jvm.Free Jvm.Free.XT
open Jvm.Lib.Cold (StaticIs)
theorem consq {a : Array Value} {s : State} {c : Jvm.Cond} {L : List Jvm.Cond} (h0 : c.before a s = true) (h : ∀ w ∈ L, w.before a s = true) : ∀ w ∈ c :: L, w.before a s = true := fun w hw => (List.mem_cons.mp hw).elim (fun e => e ▸ h0) (h w)
/-- the bytes of the chars cs, low before high -/
def wideBytes : List Int32 → List Value
  | [] => []
  | c :: cs => .int (lo8 c) :: .int (hi8 c) :: wideBytes cs
theorem wide_lo (d : Value) : ∀ (cs : List Int32) (j : Nat), j < cs.length → (wideBytes cs).getD (2 * j) d = .int (lo8 (cs.getD j 0))
  | [], j, h => absurd h (Nat.not_lt_zero j)
  | c :: cs, 0, _ => rfl
  | c :: cs, j + 1, h => by
    have q := wide_lo d cs j (by simpa using h)
    rw [show 2 * (j + 1) = 2 * j + 1 + 1 from by omega]
    simpa [wideBytes] using q
theorem wide_hi (d : Value) : ∀ (cs : List Int32) (j : Nat), j < cs.length → (wideBytes cs).getD (2 * j + 1) d = .int (hi8 (cs.getD j 0))
  | [], j, h => absurd h (Nat.not_lt_zero j)
  | c :: cs, 0, _ => rfl
  | c :: cs, j + 1, h => by
    have q := wide_hi d cs j (by simpa using h)
    rw [show 2 * (j + 1) + 1 = 2 * j + 1 + 1 + 1 from by omega]
    simpa [wideBytes] using q
theorem low_at (d : Value) (cs : List Int32) (j : Nat) (h : j < cs.length) : (cs.map fun c => Value.int (lo8 c)).getD j d = .int (lo8 (cs.getD j 0)) := by
  simp [List.getD_eq_getElem?_getD, h]
/-- an array of N2 bytes vs codes the chars cs by the coder cd -/
def CodA (cs : List Int32) (cd N2 : Int32) (vs : List Value) : Prop := (cd = 0 ∧ N2 = Int32.ofNat cs.length ∧ vs = (cs.map fun c => Value.int (lo8 c)) ∧ ∀ c ∈ cs, ¬ 255 < c) ∨ (cd = 1 ∧ N2 = Int32.ofNat (2 * cs.length) ∧ vs = wideBytes cs ∧ ∃ c ∈ cs, 255 < c)
theorem CodA.cod {cs : List Int32} {cd N2 : Int32} {vs : List Value} {V : Cell} (h : CodA cs cd N2 vs) (hn : 2 * cs.length < 2 ^ 31) (hs : V.slots.size = N2.toNatClampNeg) (hv : RoadKit.Has V vs (.int 0)) : Cod cd cs.length (fun j => cs.getD j 0) V := by
  rcases h with ⟨rfl, rfl, rfl, h⟩ | ⟨rfl, rfl, rfl, c, hc, hw⟩
  · rw [n32 (by omega)] at hs
    exact Or.inl ⟨rfl, hs, fun j hj => ⟨by rw [hv j (by omega), low_at _ _ _ hj], by
      have e : cs.getD j 0 = cs[j] := by simp [List.getD_eq_getElem?_getD, hj]
      show ¬ 255 < cs.getD j 0
      rw [e]; exact h _ (List.getElem_mem _)⟩⟩
  · rw [n32 (by omega)] at hs
    obtain ⟨j, hj, rfl⟩ := List.getElem_of_mem hc
    exact Or.inr ⟨rfl, hs, fun j hj => ⟨by rw [hv _ (by omega), wide_lo _ _ _ hj], by rw [hv _ (by omega), wide_hi _ _ _ hj]⟩, j, hj, by
      have e : cs.getD j 0 = cs[j] := by simp [List.getD_eq_getElem?_getD, hj]
      show 255 < cs.getD j 0
      rw [e]; exact hw⟩
/-- an object of exactly java/lang/String, its two fields found: as the laws ask it -/
theorem strObj {Z U : State} {a0 : Array Value} {kI : Nat} (wi : (Jvm.Cond.instantiable ST kI).before a0 Z = true) (al : Z.vm.Alike U.vm) {x : Addr} {v0 c0 : Value} (E : RoadKit.Exa Z U.heap x ST) (V : RoadKit.Fld Z U.heap x ST "value" "[B" v0) (C : RoadKit.Fld Z U.heap x ST "coder" "B" c0) :
    ∃ (D : Cell) (fV fC : Field), Blank ST x D U ∧ Found ST "value" "[B" fV U ∧ Found ST "coder" "B" fC U ∧ D.slots[fV.slot]? = some v0 ∧ D.slots[fC.slot]? = some c0 ∧ RoadKit.slotOf Z ST "value" "[B" = fV.slot ∧ RoadKit.slotOf Z ST "coder" "B" = fC.slot := by
  obtain ⟨D, cfV, kV, iV, fV, hD, gV, stV, knV, obV, asV, slV⟩ := V
  obtain ⟨D', cfC, kC, iC, fC, hD', gC, stC, -, -, asC, slC⟩ := C
  cases hD.symm.trans hD'
  obtain ⟨D2, kD, e1, e2, e3, e4, e5⟩ := E
  cases hD.symm.trans e1
  obtain ⟨c2, k2, i1, i2, i3, -⟩ := Cond.instantiable_spec wi
  cases e2.symm.trans i1
  cases e3.symm.trans i2
  obtain ⟨kU, u1, u2⟩ := al.2.2 _ _ e3
  exact ⟨D, fV, fC, ⟨hD, ⟨knV, fun q hq => by rw [hq] at obV; cases obV⟩, by rw [al.findClass]; exact e2, kU, u1, by rw [u2]; exact i3, by rw [u2]; exact e5 i3⟩, ⟨SBG.found_only al ⟨cfV, kV, iV, gV⟩, stV⟩, ⟨SBG.found_only al ⟨cfC, kC, iC, gC⟩, stC⟩, slV, slC, by simp [RoadKit.slotOf, gV], by simp [RoadKit.slotOf, gC]⟩
theorem sta_is {Z U : State} (al : Z.vm.Alike U.vm) {C n d : String} {v : Value} (S : RoadKit.Sta Z U.heap C n d v) : StaticIs U C n d v := by
  obtain ⟨cfS, iS, kS, fS, st, cS, t1, t2, t3, t4, t5, t6, t7⟩ := S
  exact StaticIs.there (s := { Z with heap := U.heap }) ⟨cfS, iS, kS, fS, st, cS, t1, t2, t3, t4, t5, (fun q => by rw [q] at t6; cases t6), t7⟩ al rfl
end StrChars.Road
namespace StrChars.Road
open Jvm Sem ClassFile Op Lib Jvm.Stand Jvm.Free Jvm.Free.XT
open Jvm.Lib.Cold (StaticIs)
/-- the road's facts of a String, as the laws ask it -/
theorem txt_of {Z U : State} {a0 : Array Value} {kI : Nat} (wi : (Jvm.Cond.instantiable ST kI).before a0 Z = true) (al : Z.vm.Alike U.vm) {x t : Addr} {kb : ClassId} {cs : List Int32} {cd N2 : Int32} {vs : List Value} (E : RoadKit.Exa Z U.heap x ST) (V : RoadKit.Fld Z U.heap x ST "value" "[B" (.ref t)) (C : RoadKit.Fld Z U.heap x ST "coder" "B" (.int cd)) (K : RoadKit.Arv Z U.heap t kb .byte N2 vs (.int 0)) (hc : CodA cs cd N2 vs) (hb : ∀ c ∈ cs, ¬ c < 0 ∧ ¬ (65535 : Int32) < c) (l2 : cs.length ≤ 4000) :
    ∃ A, Txt x t A cd cs.length (fun j => cs.getD j 0) U := by
  obtain ⟨A, K1, K2, K3, K4, K5, K6⟩ := K
  have hcod := hc.cod (by omega) K3 K5
  obtain ⟨D, fV, fC, hB, F1, F2, g1, g2, -, -⟩ := strObj wi al E V C
  exact ⟨A, ⟨_, hB.2.2.1, D, hB.1, rfl, by cases q : D.vm <;> first | rfl | exact absurd q (hB.2.1.2 _)⟩, Has.of hB F1 g1, Has.of hB F2 g2, ⟨K1.1, State.isArrayOf_alike al K1.2.1, K1.2.2, by rcases hcod with ⟨-, q, -⟩ | ⟨-, q, -⟩ <;> omega⟩, hcod, fun j hj => by
    have e : cs.getD j 0 = cs[j] := by simp [List.getD_eq_getElem?_getD, hj]
    show ¬ cs.getD j 0 < 0 ∧ ¬ 65535 < cs.getD j 0
    rw [e]; exact hb _ (List.getElem_mem _)⟩
end StrChars.Road
namespace StrChars
open Jvm Sem ClassFile Op Lib Jvm.Stand Jvm.Free.XT Jvm.Free.ALB Jvm.Free.JM Jvm.Free
open Jvm.Lib.Cold (StaticIs)
namespace ChN
def yN : MethodName := ⟨"java/lang/String", "charAt", "(I)C"⟩
abbrev yB : ByteArray := jdk_42_method_56_code
theorem d0 : decode yB 0 = .ok (.aload_n 0, 1) := by decide +kernel
theorem d1 : decode yB 1 = .ok (.invokevirtual 492, 3) := by decide +kernel
theorem d4 : decode yB 4 = .ok (.ifCond (.eq) 12, 3) := by decide +kernel
theorem d7 : decode yB 7 = .ok (.aload_n 0, 1) := by decide +kernel
theorem d8 : decode yB 8 = .ok (.getfield 9, 3) := by decide +kernel
theorem d11 : decode yB 11 = .ok (.iload_n 1, 1) := by decide +kernel
theorem d12 : decode yB 12 = .ok (.invokestatic 495, 3) := by decide +kernel
theorem d15 : decode yB 15 = .ok (.ireturn, 1) := by decide +kernel
def site : List Cond := [.fieldLink "java/lang/String" 9 "java/lang/String" "value" "[B", IsL.tab, LChA.tab] ++ virtW "java/lang/String" 492 "java/lang/String" IsL.yN IsL.yN ++ staticW "java/lang/String" 495 LChA.yN
def tab : Cond := tabOf yN yB 2 (some .char) site
def P (x t : Addr) (V : Cell) (n : Nat) (f : Nat → Int32) (z : Int32) (fm : Value) (i : Nat) (args : Array Value) (s : State) : Prop := args = #[.ref x, .int (Int32.ofNat i)] ∧ Txt x t V 0 n f s ∧ i < n ∧ StaticIs s "java/lang/String" "COMPACT_STRINGS" "Z" (.int z) ∧ ¬ z = 0 ∧ StaticIs s "jdk/internal/util/Preconditions" "SIOOBE_FORMATTER" "Ljava/util/function/BiFunction;" fm ∧ fm.isRef = true
def E (f : Nat → Int32) (i : Nat) (r : Option Value) (s u : State) : Prop := XT.PureE (some (.int (f i))) r s u
/-- charAt(i) of a Latin-1 String of n chars, i < n: f i -/
theorem law (l : Launch) (x t : Addr) (V : Cell) (n : Nat) (f : Nat → Int32) (z : Int32) (fm : Value) (i : Nat) : Law l yN 2 1 3 40 yB 2 (some .char) site (P x t V n f z fm i) (E f i) [] 0 0 := by
  refine Law.of_walk (plainFor_of_name (by decide +kernel)) (by decide +kernel) (by decide +kernel) (by decide) (fun _ _ h => by rw [h.1]; rfl) (fun _ U U' hal hh h => ⟨h.1, h.2.1.mv hal hh, h.2.2.1, h.2.2.2.1.there hal hh, h.2.2.2.2.1, h.2.2.2.2.2.1.there hal hh, h.2.2.2.2.2.2⟩) (fun r U U' V V' h1 hal h2 h => XT.PureE.mv r U U' V V' h1 hal h2 h) ?_
  intro p e s m args below meth c s₁ X0 hexec hbytes hml hret hlk hnm hown hh0 W hP
  obtain ⟨rfl, hx, hi, s1, hz, s3, rf⟩ := hP
  have v31 := hx.2.2.2.1.2.2.2
  have hr := hx.2.2.2.2.2 i hi
  have hx0 := hx.mv X0.warmed.alike hh0
  have c1 : Steps p.tables e below (s₁.setTop (entryFrame m #[.ref x, .int (Int32.ofNat i)] 2)) (s₁.setTop (mkF m 1 #[.val (.ref x), .val (.int (Int32.ofNat i))] [.ref x])) := Steps.trans (entry rfl) (by
    show Steps p.tables e below (s₁.setTop (mkF m 0 #[.val (.ref x), .val (.int (Int32.ofNat i))] [])) _
    refine XS.aloadN X0.here hexec rfl (hb hbytes d0) rfl rfl ?_
    exact Steps.refl _)
  obtain ⟨v2, T2, X2, E2, g2⟩ := X0.callV hexec (IsL.law l x 0 z) hown (wks W (virtW "java/lang/String" 492 "java/lang/String" IsL.yN IsL.yN)) rfl (by decide) (wk W IsL.tab) (W := 0) (Nat.le_of_ble_eq_true rfl) (Nat.le_of_ble_eq_true rfl) (Nat.le_refl _) (Nat.le_refl _) (hx0.1.fc X0.warmed.alike) hx0.1.is (g := (mkF m 1 #[.val (.ref x), .val (.int (Int32.ofNat i))] [.ref x])) rfl (by rw [hml]; rfl) c1 (argsL := []) (rest := []) rfl rfl (by show 2 * 0 + 0 ≤ _; decide) (hb hbytes d1) (⟨rfl, hx0.2.2.1, hx.2.2.2.2.1.cd, s1.there X0.warmed.alike hh0, hz⟩)
  obtain ⟨rfl, q2⟩ := E2
  have hh2 := q2.trans hh0
  have hx2 := hx.mv X2.warmed.alike hh2
  obtain ⟨-, k1, k2⟩ | ⟨k0, -⟩ := hx.2.2.2.2.1
  · have c3 : Steps p.tables e below (s₁.setTop (entryFrame m #[.ref x, .int (Int32.ofNat i)] 2)) (T2.setTop (mkF m 8 #[.val (.ref x), .val (.int (Int32.ofNat i))] [.ref x])) := Steps.trans g2 (by
      refine XS.ifNo X2.here hexec rfl (hb hbytes d4) rfl (i0_eq_f (by decide)) ?_
      refine XS.aloadN X2.here hexec rfl (hb hbytes d7) rfl rfl ?_
      exact Steps.refl _)
    obtain ⟨T4, X4, q4, st4⟩ := X2.hget hexec hown (wk W (.fieldLink "java/lang/String" 9 "java/lang/String" "value" "[B")) hx2.2.1 (g := (mkF m 8 #[.val (.ref x), .val (.int (Int32.ofNat i))] [.ref x])) rfl (rest := []) rfl (hb hbytes d8)
    have hh4 := q4.trans hh2
    have c5 : Steps p.tables e below (s₁.setTop (entryFrame m #[.ref x, .int (Int32.ofNat i)] 2)) (T4.setTop (mkF m 12 #[.val (.ref x), .val (.int (Int32.ofNat i))] [.int (Int32.ofNat i), .ref t])) := (c3.trans (st4 _ (Steps.refl _))).trans (by
      refine XS.iloadN X4.here hexec rfl (hb hbytes d11) rfl ?_
      exact Steps.refl _)
    obtain ⟨v6, T6, X6, E6, g6⟩ := X4.callS hexec (LChA.law l t V i (lo8 (f i)) fm) hown (wks W (staticW "java/lang/String" 495 LChA.yN)) (wk W LChA.tab) (W := 0) (Nat.le_of_ble_eq_true rfl) (Nat.le_of_ble_eq_true rfl) (Nat.le_refl _) (Nat.le_refl _) (g := (mkF m 12 #[.val (.ref x), .val (.int (Int32.ofNat i))] [.int (Int32.ofNat i), .ref t])) rfl (by rw [hml]; rfl) c5 (argsL := [.ref t, .int (Int32.ofNat i)]) (rest := []) rfl rfl (by show 2 * 0 + 0 ≤ _; decide) (hb hbytes d12) (⟨rfl, hx.2.2.2.1.mv X4.warmed.alike hh4, (k2 i hi).1, s3.there X4.warmed.alike hh4, rf⟩)
    obtain ⟨rfl, q6⟩ := E6
    rw [chr8_lo8 hr.1 (k2 i hi).2] at g6
    exact ⟨T6, some (.int (f i)), _, _, _, X6, rfl, rfl, rfl, (fun h => by cases h), ⟨rfl, q6.trans hh4⟩, fun fs hl => Steps.trans g6 (X6.ireturnOut hexec hret (narrow_ch hr.1 hr.2) (Or.inr (Or.inr (Or.inr (Or.inl rfl)))) (hb hbytes d15) hl)⟩
  · exact absurd k0 (by decide)
theorem pays {l : Launch} {R : Room} {p : Program} {e : Env} {below : List Frame} {s : State} {sargs : Array Value} {len W : Nat} (x t : Addr) (V : Cell) (n : Nat) (f : Nat → Int32) (z : Int32) (fm : Value) (i : Nat) (htab : tab.before sargs s = true) (hfr : 4 ≤ R.frames) (hlo : W + 53 ≤ R.locals) :
    Back l R p e below s sargs yN len W (fun A₁ a₁ => A₁.cells + 0 ≤ R.cells ∧ A₁.slots + 0 ≤ R.slots ∧ P x t V n f z fm i a₁ A₁.U) (fun A₁ _ v₁ B₁ => E f i v₁ A₁.U B₁.U ∧ B₁.locs = A₁.locs ++ [] ∧ B₁.cells = A₁.cells + 0 ∧ B₁.slots = A₁.slots + 0) :=
  (law l x t V n f z fm i).pays htab hfr (by omega)
end ChN
end StrChars
namespace StrChars.Road
open Jvm Sem ClassFile Op Lib Jvm.Stand Jvm.Free Jvm.Free.XT
open Jvm.Lib.Cold (StaticIs)
/-- the words of String.charAt(int), the Latin-1 road alone -/
abbrev wordsChN : List Jvm.Cond := [.code ChN.yN ChN.yB 2 (some .char), .initialized ST, .fieldLink ST 9 ST "value" "[B", .fieldLink ST 38 ST "COMPACT_STRINGS" "Z", .fieldLink ST 15 ST "coder" "B", .code IsL.yN IsL.yB 1 (some .boolean), .methodLink ST 492 IsL.yN, .declares IsL.yN, .selects ST IsL.yN IsL.yN, .instanceMethod IsL.yN,
  .methodLink ST 495 LChA.yN, .static LChA.yN, .code LChA.yN LChA.yB 2 (some .char), .initialized "java/lang/StringLatin1", .methodLink "java/lang/StringLatin1" 9 JO.Str_checkIndex.yN, .static JO.Str_checkIndex.yN, .code JO.Str_checkIndex.yN JO.Str_checkIndex.yB 2 none,
  .fieldLink ST 1053 "jdk/internal/util/Preconditions" "SIOOBE_FORMATTER" "Ljava/util/function/BiFunction;", .methodLink ST 1059 JC.PreCheck.yN, .static JC.PreCheck.yN, .code JC.PreCheck.yN JC.PreCheck.yB 3 (some .int), .initialized "jdk/internal/util/Preconditions"]
theorem tabChN_of {a : Array Value} {s : State} (h : ∀ w ∈ wordsChN, w.before a s = true) : ChN.tab.before a s = true := by
  have hp : JC.PreCheck.tab.before a s = true := unparts (wk h (.code JC.PreCheck.yN JC.PreCheck.yB 3 (some .int))) (wks h (.initialized JC.PreCheck.yN.cls :: JC.PreCheck.site))
  have qk := consq hp h
  have hk : JO.Str_checkIndex.tab.before a s = true := unparts (wk qk (.code JO.Str_checkIndex.yN JO.Str_checkIndex.yB 2 none)) (wks qk (.initialized JO.Str_checkIndex.yN.cls :: JO.Str_checkIndex.site))
  have ql := consq hk h
  have hl : LChA.tab.before a s = true := unparts (wk ql (.code LChA.yN LChA.yB 2 (some .char))) (wks ql (.initialized LChA.yN.cls :: LChA.site))
  have hi : IsL.tab.before a s = true := unparts (wk h (.code IsL.yN IsL.yB 1 (some .boolean))) (wks h (.initialized IsL.yN.cls :: IsL.site))
  have q := consq hi (consq hl h)
  exact unparts (wk q (.code ChN.yN ChN.yB 2 (some .char))) (wks q (.initialized ChN.yN.cls :: ChN.site))
theorem movedChN {Z s : State} {a0 args : Array Value} (hZ : Z.Warmed39 s.vm) (hw : ∀ d ∈ wordsChN, d.before a0 Z = true) : ∀ d ∈ wordsChN, d.before args s = true := fun d hd => by
  have t : ∀ d ∈ wordsChN, (d.onTables && d.keepsFace) = true := by decide +kernel
  exact RoadKit.mv hZ (hw d hd) (t d hd)
/-- **charAt(i) OF A LATIN-1 STRING**, i < n: the char -/
theorem chN {p : Program} {l : Launch} {e : Env} {R : Room} {s : State} {args : Array Value} {below : List Frame} {len W : Nat} {Z : State} {a0 : Array Value} {h : Heap} (hZ : Z.Warmed39 s.vm) (hw : ∀ d ∈ wordsChN, d.before a0 Z = true) {kI : Nat} (wi : (Jvm.Cond.instantiable ST kI).before a0 Z = true)
    {x t : Addr} {kb : ClassId} {cs : List Int32} {N2 z : Int32} {vs : List Value} {fm : Value} {i : Nat} {j : Int32} (E : RoadKit.Exa Z h x ST) (V : RoadKit.Fld Z h x ST "value" "[B" (.ref t)) (C : RoadKit.Fld Z h x ST "coder" "B" (.int 0)) (K : RoadKit.Arv Z h t kb .byte N2 vs (.int 0)) (hc : CodA cs 0 N2 vs) (hb : ∀ c ∈ cs, ¬ c < 0 ∧ ¬ (65535 : Int32) < c)
    (S : RoadKit.Sta Z h ST "COMPACT_STRINGS" "Z" (.int z)) (hz : ¬ z = 0) (F : RoadKit.Sta Z h "jdk/internal/util/Preconditions" "SIOOBE_FORMATTER" "Ljava/util/function/BiFunction;" fm) (rf : fm.isRef = true) (l2 : cs.length ≤ 4000) (hi : i < cs.length) (hj : j = Int32.ofNat i) (hfr : 4 ≤ R.frames) (hlo : W + 53 ≤ R.locals) :
    Back l R p e below s args (⟨"java/lang/String", "charAt", "(I)C"⟩ : MethodName) len W (fun P a => a = #[.ref x, .int j] ∧ P.U.heap = h ∧ P.cells + 0 ≤ R.cells ∧ P.slots + 0 ≤ R.slots)
      (fun P _ v B => ∃ L, (v = some (.int (cs.getD i 0)) ∧ L = [] ∧ B.U.heap = h) ∧ B.locs = P.locs ++ L ∧ B.cells = P.cells + 0 ∧ B.slots = P.slots + 0) := by
  subst hj
  intro m meth c P g ig mk a X hg hsize hdg hW hn hp'
  obtain ⟨rfl, rfl, r1, r2⟩ := hp'
  have al : Z.vm.Alike P.U.vm := hZ.alike.trans X.warmed.alike
  obtain ⟨A, hx⟩ := txt_of wi al E V C K hc hb l2
  obtain ⟨v, B, X', ⟨⟨hv, hh⟩, hl, hk, hs⟩, st⟩ := ChN.pays x t A cs.length (fun j => cs.getD j 0) z fm i (tabChN_of (movedChN hZ hw)) hfr hlo m meth c P g ig mk _ X hg hsize hdg hW hn ⟨r1, r2, rfl, hx, hi, sta_is al S, hz, sta_is al F, rf⟩
  exact ⟨v, B, X', ⟨[], ⟨hv, rfl, hh⟩, hl, hk, hs⟩, st⟩
/-- what backV says of its String, as the contracts of this text ask it: cs's low bytes, coder 0 -/
theorem codOf {cs : List Int32} {n : Nat} (hn : cs.length = n) (hb : ∀ c ∈ cs, ¬ 255 < c) : CodA cs 0 (Int32.ofNat n) ((cs.map lo8).map Value.int) := Or.inl ⟨rfl, by rw [hn], by simp [List.map_map, Function.comp_def], hb⟩
end StrChars.Road
end Jvm.Pilot.@@N@@
namespace Jvm.Pilot.@@N@@
open Jvm Jvm.ClassFile Sem Op Lib Jvm.Free Jvm.Stand Jvm.LawKit Jvm.RoadKit Bundle Jvm.Pilot.@@N@@.Jvm.D
theorem own_sta_keep {Z : State} {h h' : Heap} {C n d : String} {v : Value} (F : Sta Z h C n d v) (K : Keep h h' []) : Sta Z h' C n d v := by
  obtain ⟨cf, i, k, f, st, cell, h1, h2, h3, h4, h5, r⟩ := F
  exact ⟨cf, i, k, f, st, cell, h1, h2, h3, h4, K.2.1 _ _ h5 nin0, r⟩
theorem own_sta_keepE {Z : State} {h h' : Heap} {C n d : String} {v : Value} {ws : List Addr} (F : Sta Z h C n d v) (K : Keep h h' ws) (q : ∀ x ∈ ws, ∃ D, Exa Z h x D) : Sta Z h' C n d v := by
  obtain ⟨cf, i, k, f, st, cell, h1, h2, h3, h4, h5, h6, r⟩ := F
  refine ⟨cf, i, k, f, st, cell, h1, h2, h3, h4, K.2.1 _ _ h5 (fun z => ?_), h6, r⟩
  obtain ⟨D, cell', k', g1, -, -, g4, -⟩ := q _ z
  cases h5.symm.trans g1
  rw [h6] at g4; cases g4
theorem own_up (cs : List Int32) (h : ∀ c ∈ cs, ¬ c < 0 ∧ ¬ (255 : Int32) < c) : ∀ c ∈ cs, ¬ c < 0 ∧ ¬ (65535 : Int32) < c := fun c hc => ⟨(h c hc).1, fun q => (h c hc).2 (by rw [Int32.lt_iff_toInt_lt] at q ⊢; have e1 : (65535 : Int32).toInt = 65535 := rfl; have e2 : (255 : Int32).toInt = 255 := rfl; omega)⟩
theorem own_selp {s : State} {args : Array Value} {y : MethodName} {n : Nat} (wi : (Cond.instantiable y.cls n).before args s = true) (hp : s.PrivateAt y) (hi : (Cond.instanceMethod y).before args s = true) (hy : y.cls ≠ "java/lang/invoke/MethodHandle" ∧ y.cls ≠ "java/lang/invoke/VarHandle" := by decide) : (Cond.selects y.cls y y).before args s = true := by
  obtain ⟨c, k, g1, g2, g3, g4, -⟩ := Cond.instantiable_spec wi
  exact Jvm.Stand.selects_self_of_private g1 g2 (by simp only [Bool.or_eq_false_iff] at g4; exact g4.1) hp hi hy
theorem d1_0 : decode method_3_code 0 = .ok (.iload_n 0, 1) := by decide +kernel
theorem d1_1 : decode method_3_code 1 = .ok (.iconst 1, 1) := by decide +kernel
theorem d1_2 : decode method_3_code 2 = .ok (.iand, 1) := by decide +kernel
theorem d1_3 : decode method_3_code 3 = .ok (.ifCond .ne 6, 3) := by decide +kernel
theorem d1_6 : decode method_3_code 6 = .ok (.bipush 48, 2) := by decide +kernel
theorem d1_8 : decode method_3_code 8 = .ok (.ireturn, 1) := by decide +kernel
theorem d1_9 : decode method_3_code 9 = .ok (.bipush 48, 2) := by decide +kernel
theorem d1_11 : decode method_3_code 11 = .ok (.iload_n 0, 1) := by decide +kernel
theorem d1_12 : decode method_3_code 12 = .ok (.iconst 1, 1) := by decide +kernel
theorem d1_13 : decode method_3_code 13 = .ok (.iushr, 1) := by decide +kernel
theorem d1_14 : decode method_3_code 14 = .ok (.bipush 10, 2) := by decide +kernel
theorem d1_16 : decode method_3_code 16 = .ok (.irem, 1) := by decide +kernel
theorem d1_17 : decode method_3_code 17 = .ok (.iadd, 1) := by decide +kernel
theorem d1_18 : decode method_3_code 18 = .ok (.i2c, 1) := by decide +kernel
theorem d1_19 : decode method_3_code 19 = .ok (.ireturn, 1) := by decide +kernel
theorem pn_15 : plainName "com/example/paniere/paniere/DigitsIsZeroPinLaw" = true := by first | (simp [plainName, overriddenIn]; done) | decide +kernel
theorem ef_rm1 (m : MethodId) (x0 : Int32) : entryFrame m #[(.int x0)] 1 = mkF m 0 #[.val (.int x0)] [] := by first | (simp [entryFrame, mkF, argsToLocals, Value.category]; done) | rfl
def own_dig (vd : Int32) : Int32 := (if (vd &&& (1 : Int32)) = (0 : Int32) then (48 : Int32) else (nar .char (((48 : Int32) + (((vd.toUInt32 >>> ((1 : Int32) &&& 31).toUInt32).toInt32) % (10 : Int32))).toUInt32.toUInt16.toUInt32.toInt32)))
def Q1 (Z : State) (vd : Int32) (h0 : Heap) (n0 : Nat) (v : Option Value) (h : Heap) (L : List Loc) : Prop := v = some (.int (own_dig vd)) ∧ Fr n0 L ∧ h = h0
set_option maxRecDepth 65536 in
set_option maxHeartbeats 40000000 in
theorem rm1 (l : Launch) (Z : State) (a0 : Array Value) (hw : ∀ d ∈ tables_1, d.before a0 Z = true) (ws : List Jvm.Cond) (vd : Int32) (h0 : Heap) (n0 : Nat) (Z0 : n0 ≤ h0.size) :
    MetFree l (⟨"com/example/paniere/paniere/DigitsIsZeroPinLaw", "digit", "(I)C"⟩ : MethodName) (head1 (Jvm.Cond.code (⟨"com/example/paniere/paniere/DigitsIsZeroPinLaw", "digit", "(I)C"⟩ : MethodName) method_3_code 1 (some .char) :: ws) ({ frames := 0, cells := 0, slots := 0, locals := 0 } : Room)) (fun a U => a = #[(.int vd)] ∧ Z.Warmed39 U.vm ∧ U.heap = h0) (fun _ _ _ _ _ => True) (fun _ U o U' => ∃ v L, o = .returned v ∧ Q1 Z vd h0 n0 v U'.heap L ∧ FrameEnd U o U' L ({ frames := 0, cells := 0, slots := 0, locals := 0 } : Room).cells ({ frames := 0, cells := 0, slots := 0, locals := 0 } : Room).slots) := by
  refine MetFree.of_bodySF (plainFor_of_name pn_15) hisR ?_
  intro p e s m args below meth c s₁ Bd hml0 hP hK
  obtain ⟨rfl, hZ, hh⟩ := hP
  have hx := Bd.exec
  have hby := Bd.bytes
  have hml : c.maxLocals = 1 := hml0
  have hown : s.vm.findClass "com/example/paniere/paniere/DigitsIsZeroPinLaw" = some m.cls := findClass_of_methodNamed Bd.named
  have hnm := (name_of_methodNamed Bd.named Bd.method).1
  have X0 : Stand p l e ({ frames := 0, cells := 0, slots := 0, locals := 0 } : Room) s m #[(.int vd)] below meth c s₁ [] 0 0 := Stand.of_body Bd
  have e0 : s₁.heap = h0 := by rw [← hh, Bd.state]; rfl
  have N0 := Fr.nil n0
  have pre0 : ∀ t, Steps p.tables e below (s₁.setTop (mkF m 0 #[.val (.int vd)] [])) t → Steps p.tables e below (s₁.setTop (entryFrame m #[(.int vd)] 1)) t := fun t k => castTop (ef_rm1 m vd) k
  have pre1 : ∀ t, Steps p.tables e below (s₁.setTop (mkF m 3 #[.val (.int vd)] [(.int (vd &&& (1 : Int32)))])) t → Steps p.tables e below (s₁.setTop (entryFrame m #[(.int vd)] 1)) t := by
    intro t kt
    refine pre0 t ?_
    show Steps p.tables e below (s₁.setTop (mkF m 0 #[.val (.int vd)] [])) _
    refine XS.iloadN X0.here hx rfl (hb hby d1_0) rfl ?_
    show Steps p.tables e below (s₁.setTop (mkF m 1 #[.val (.int vd)] [(.int vd)])) _
    refine XS.iconst X0.here hx rfl (hb hby d1_1) ?_
    show Steps p.tables e below (s₁.setTop (mkF m 2 #[.val (.int vd)] [(.int (1 : Int32)), (.int vd)])) _
    refine XS.iand X0.here hx rfl (hb hby d1_2) rfl ?_
    exact kt
  by_cases hc2 : (vd &&& (1 : Int32)) = (0 : Int32)
  ·
    obtain ⟨fs, hr, hrun, hended, hW, hsame⟩ := X0.leave (v := some (.int (48 : Int32))) (fun h => by rw [Bd.returns] at h; cases h)
    refine ⟨_, _, pre1 _ ?_, hrun, hended, _, _, rfl, ?_, ⟨_, rfl⟩, hW, hsame.mono (by decide) (by decide)⟩
    ·
      show Steps p.tables e below (s₁.setTop (mkF m 3 #[.val (.int vd)] [(.int (vd &&& (1 : Int32)))])) _
      refine XS.ifNo X0.here hx rfl (hb hby d1_3) rfl ((if0 _ _).trans (teq (hc2 : (vd &&& (1 : Int32)) = (0 : Int32))).2) ?_
      show Steps p.tables e below (s₁.setTop (mkF m 6 #[.val (.int vd)] [])) _
      refine XS.bipush X0.here hx rfl (hb hby d1_6) ?_
      show Steps p.tables e below (s₁.setTop (mkF m 8 #[.val (.int vd)] [(.int (48 : Int32))])) _
      exact retN X0 hx (t := .char) Bd.returns (by simp) (hb hby d1_8) hr
    ·
      show Q1 Z vd h0 n0 _ s₁.heap _
      rw [e0]
      have hv : (48 : Int32) = (own_dig vd) := by rw [own_dig, if_pos hc2]
      exact ⟨(congrArg (fun z => some (Value.int z)) hv), N0, rfl⟩
  ·
    obtain ⟨fs, hr, hrun, hended, hW, hsame⟩ := X0.leave (v := some (.int (nar .char (((48 : Int32) + (((vd.toUInt32 >>> ((1 : Int32) &&& 31).toUInt32).toInt32) % (10 : Int32))).toUInt32.toUInt16.toUInt32.toInt32)))) (fun h => by rw [Bd.returns] at h; cases h)
    refine ⟨_, _, pre1 _ ?_, hrun, hended, _, _, rfl, ?_, ⟨_, rfl⟩, hW, hsame.mono (by decide) (by decide)⟩
    ·
      show Steps p.tables e below (s₁.setTop (mkF m 3 #[.val (.int vd)] [(.int (vd &&& (1 : Int32)))])) _
      refine XS.ifYes X0.here hx rfl (pc0 := 3) (pc' := 9) rfl (hb hby d1_3) rfl ((if0 _ _).trans (feq (hc2 : ¬ ((vd &&& (1 : Int32)) = (0 : Int32)))).2) (by decide) (by decide) ?_
      show Steps p.tables e below (s₁.setTop (mkF m 9 #[.val (.int vd)] [])) _
      refine XS.bipush X0.here hx rfl (hb hby d1_9) ?_
      show Steps p.tables e below (s₁.setTop (mkF m 11 #[.val (.int vd)] [(.int (48 : Int32))])) _
      refine XS.iloadN X0.here hx rfl (hb hby d1_11) rfl ?_
      show Steps p.tables e below (s₁.setTop (mkF m 12 #[.val (.int vd)] [(.int vd), (.int (48 : Int32))])) _
      refine XS.iconst X0.here hx rfl (hb hby d1_12) ?_
      show Steps p.tables e below (s₁.setTop (mkF m 13 #[.val (.int vd)] [(.int (1 : Int32)), (.int vd), (.int (48 : Int32))])) _
      refine XS.iushr X0.here hx rfl (hb hby d1_13) rfl ?_
      show Steps p.tables e below (s₁.setTop (mkF m 14 #[.val (.int vd)] [(.int ((vd.toUInt32 >>> ((1 : Int32) &&& 31).toUInt32).toInt32)), (.int (48 : Int32))])) _
      refine XS.bipush X0.here hx rfl (hb hby d1_14) ?_
      show Steps p.tables e below (s₁.setTop (mkF m 16 #[.val (.int vd)] [(.int (10 : Int32)), (.int ((vd.toUInt32 >>> ((1 : Int32) &&& 31).toUInt32).toInt32)), (.int (48 : Int32))])) _
      refine iremM X0 hx rfl (hb hby d1_16) rfl (by decide) ?_
      show Steps p.tables e below (s₁.setTop (mkF m 17 #[.val (.int vd)] [(.int (((vd.toUInt32 >>> ((1 : Int32) &&& 31).toUInt32).toInt32) % (10 : Int32))), (.int (48 : Int32))])) _
      refine XS.iadd X0.here hx rfl (hb hby d1_17) rfl ?_
      show Steps p.tables e below (s₁.setTop (mkF m 18 #[.val (.int vd)] [(.int ((48 : Int32) + (((vd.toUInt32 >>> ((1 : Int32) &&& 31).toUInt32).toInt32) % (10 : Int32))))])) _
      refine XS.i2c X0.here hx rfl (hb hby d1_18) rfl ?_
      show Steps p.tables e below (s₁.setTop (mkF m 19 #[.val (.int vd)] [(.int (((48 : Int32) + (((vd.toUInt32 >>> ((1 : Int32) &&& 31).toUInt32).toInt32) % (10 : Int32))).toUInt32.toUInt16.toUInt32.toInt32))])) _
      exact retN X0 hx (t := .char) Bd.returns (by simp) (hb hby d1_19) hr
    ·
      show Q1 Z vd h0 n0 _ s₁.heap _
      rw [e0]
      have hv : nar .char (((48 : Int32) + (((vd.toUInt32 >>> ((1 : Int32) &&& 31).toUInt32).toInt32) % (10 : Int32))).toUInt32.toUInt16.toUInt32.toInt32) = (own_dig vd) := by rw [own_dig, if_neg hc2]
      exact ⟨(congrArg (fun z => some (Value.int z)) hv), N0, rfl⟩
theorem d17_0 : decode method_4_code 0 = .ok (.iload_n 0, 1) := by decide +kernel
theorem d17_1 : decode method_4_code 1 = .ok (.bipush 48, 2) := by decide +kernel
theorem d17_3 : decode method_4_code 3 = .ok (.if_icmp .eq 9, 3) := by decide +kernel
theorem d17_12 : decode method_4_code 12 = .ok (.iconst 1, 1) := by decide +kernel
theorem d17_13 : decode method_4_code 13 = .ok (.goto 4, 3) := by decide +kernel
theorem d17_17 : decode method_4_code 17 = .ok (.ireturn, 1) := by decide +kernel
theorem d17_6 : decode method_4_code 6 = .ok (.iload_n 0, 1) := by decide +kernel
theorem d17_7 : decode method_4_code 7 = .ok (.bipush 46, 2) := by decide +kernel
theorem d17_9 : decode method_4_code 9 = .ok (.if_icmp .ne 7, 3) := by decide +kernel
theorem d17_16 : decode method_4_code 16 = .ok (.iconst 0, 1) := by decide +kernel
theorem ef_rm17 (m : MethodId) (x0 : Int32) : entryFrame m #[(.int x0)] 1 = mkF m 0 #[.val (.int x0)] [] := by first | (simp [entryFrame, mkF, argsToLocals, Value.category]; done) | rfl
def own_zo (vc : Int32) : Int32 := (if vc = (48 : Int32) then (1 : Int32) else (if vc = (46 : Int32) then (1 : Int32) else (0 : Int32)))
def Q17 (Z : State) (vc : Int32) (h0 : Heap) (n0 : Nat) (v : Option Value) (h : Heap) (L : List Loc) : Prop := v = some (.int (own_zo vc)) ∧ Fr n0 L ∧ h = h0
set_option maxRecDepth 65536 in
set_option maxHeartbeats 40000000 in
theorem rm17 (l : Launch) (Z : State) (a0 : Array Value) (hw : ∀ d ∈ tables_1, d.before a0 Z = true) (ws : List Jvm.Cond) (vc : Int32) (h0 : Heap) (n0 : Nat) (Z0 : n0 ≤ h0.size) :
    MetFree l (⟨"com/example/paniere/paniere/DigitsIsZeroPinLaw", "zeroish", "(C)Z"⟩ : MethodName) (head1 (Jvm.Cond.code (⟨"com/example/paniere/paniere/DigitsIsZeroPinLaw", "zeroish", "(C)Z"⟩ : MethodName) method_4_code 1 (some .boolean) :: ws) ({ frames := 0, cells := 0, slots := 0, locals := 0 } : Room)) (fun a U => a = #[(.int vc)] ∧ Z.Warmed39 U.vm ∧ U.heap = h0) (fun _ _ _ _ _ => True) (fun _ U o U' => ∃ v L, o = .returned v ∧ Q17 Z vc h0 n0 v U'.heap L ∧ FrameEnd U o U' L ({ frames := 0, cells := 0, slots := 0, locals := 0 } : Room).cells ({ frames := 0, cells := 0, slots := 0, locals := 0 } : Room).slots) := by
  refine MetFree.of_bodySF (plainFor_of_name pn_15) hisR ?_
  intro p e s m args below meth c s₁ Bd hml0 hP hK
  obtain ⟨rfl, hZ, hh⟩ := hP
  have hx := Bd.exec
  have hby := Bd.bytes
  have hml : c.maxLocals = 1 := hml0
  have hown : s.vm.findClass "com/example/paniere/paniere/DigitsIsZeroPinLaw" = some m.cls := findClass_of_methodNamed Bd.named
  have hnm := (name_of_methodNamed Bd.named Bd.method).1
  have X0 : Stand p l e ({ frames := 0, cells := 0, slots := 0, locals := 0 } : Room) s m #[(.int vc)] below meth c s₁ [] 0 0 := Stand.of_body Bd
  have e0 : s₁.heap = h0 := by rw [← hh, Bd.state]; rfl
  have N0 := Fr.nil n0
  have pre0 : ∀ t, Steps p.tables e below (s₁.setTop (mkF m 0 #[.val (.int vc)] [])) t → Steps p.tables e below (s₁.setTop (entryFrame m #[(.int vc)] 1)) t := fun t k => castTop (ef_rm17 m vc) k
  have pre1 : ∀ t, Steps p.tables e below (s₁.setTop (mkF m 3 #[.val (.int vc)] [(.int (48 : Int32)), (.int vc)])) t → Steps p.tables e below (s₁.setTop (entryFrame m #[(.int vc)] 1)) t := by
    intro t kt
    refine pre0 t ?_
    show Steps p.tables e below (s₁.setTop (mkF m 0 #[.val (.int vc)] [])) _
    refine XS.iloadN X0.here hx rfl (hb hby d17_0) rfl ?_
    show Steps p.tables e below (s₁.setTop (mkF m 1 #[.val (.int vc)] [(.int vc)])) _
    refine XS.bipush X0.here hx rfl (hb hby d17_1) ?_
    exact kt
  by_cases hc2 : vc = (48 : Int32)
  ·
    obtain ⟨fs, hr, hrun, hended, hW, hsame⟩ := X0.leave (v := some (.int (1 : Int32))) (fun h => by rw [Bd.returns] at h; cases h)
    refine ⟨_, _, pre1 _ ?_, hrun, hended, _, _, rfl, ?_, ⟨_, rfl⟩, hW, hsame.mono (by decide) (by decide)⟩
    ·
      show Steps p.tables e below (s₁.setTop (mkF m 3 #[.val (.int vc)] [(.int (48 : Int32)), (.int vc)])) _
      refine XS.icmpYes X0.here hx rfl (pc0 := 3) (pc' := 12) rfl (hb hby d17_3) rfl (teq (hc2 : vc = (48 : Int32))).1 (by decide) (by decide) ?_
      show Steps p.tables e below (s₁.setTop (mkF m 12 #[.val (.int vc)] [])) _
      refine XS.iconst X0.here hx rfl (hb hby d17_12) ?_
      show Steps p.tables e below (s₁.setTop (mkF m 13 #[.val (.int vc)] [(.int (1 : Int32))])) _
      refine XS.goto X0.here hx rfl (pc0 := 13) (pc' := 17) rfl (hb hby d17_13) (by decide) (by decide) ?_
      show Steps p.tables e below (s₁.setTop (mkF m 17 #[.val (.int vc)] [(.int (1 : Int32))])) _
      exact retN X0 hx (t := .boolean) Bd.returns (by simp) (hb hby d17_17) hr
    ·
      show Q17 Z vc h0 n0 _ s₁.heap _
      rw [e0]
      have hv : (1 : Int32) = (own_zo vc) := by rw [own_zo, if_pos hc2]
      exact ⟨(congrArg (fun z => some (Value.int z)) hv), N0, rfl⟩
  ·
    have pre3 : ∀ t, Steps p.tables e below (s₁.setTop (mkF m 9 #[.val (.int vc)] [(.int (46 : Int32)), (.int vc)])) t → Steps p.tables e below (s₁.setTop (entryFrame m #[(.int vc)] 1)) t := by
      intro t kt
      refine pre1 t ?_
      show Steps p.tables e below (s₁.setTop (mkF m 3 #[.val (.int vc)] [(.int (48 : Int32)), (.int vc)])) _
      refine XS.icmpNo X0.here hx rfl (hb hby d17_3) rfl (feq (hc2 : ¬ (vc = (48 : Int32)))).1 ?_
      show Steps p.tables e below (s₁.setTop (mkF m 6 #[.val (.int vc)] [])) _
      refine XS.iloadN X0.here hx rfl (hb hby d17_6) rfl ?_
      show Steps p.tables e below (s₁.setTop (mkF m 7 #[.val (.int vc)] [(.int vc)])) _
      refine XS.bipush X0.here hx rfl (hb hby d17_7) ?_
      exact kt
    by_cases hc4 : vc = (46 : Int32)
    ·
      obtain ⟨fs, hr, hrun, hended, hW, hsame⟩ := X0.leave (v := some (.int (1 : Int32))) (fun h => by rw [Bd.returns] at h; cases h)
      refine ⟨_, _, pre3 _ ?_, hrun, hended, _, _, rfl, ?_, ⟨_, rfl⟩, hW, hsame.mono (by decide) (by decide)⟩
      ·
        show Steps p.tables e below (s₁.setTop (mkF m 9 #[.val (.int vc)] [(.int (46 : Int32)), (.int vc)])) _
        refine XS.icmpNo X0.here hx rfl (hb hby d17_9) rfl (teq (hc4 : vc = (46 : Int32))).2 ?_
        show Steps p.tables e below (s₁.setTop (mkF m 12 #[.val (.int vc)] [])) _
        refine XS.iconst X0.here hx rfl (hb hby d17_12) ?_
        show Steps p.tables e below (s₁.setTop (mkF m 13 #[.val (.int vc)] [(.int (1 : Int32))])) _
        refine XS.goto X0.here hx rfl (pc0 := 13) (pc' := 17) rfl (hb hby d17_13) (by decide) (by decide) ?_
        show Steps p.tables e below (s₁.setTop (mkF m 17 #[.val (.int vc)] [(.int (1 : Int32))])) _
        exact retN X0 hx (t := .boolean) Bd.returns (by simp) (hb hby d17_17) hr
      ·
        show Q17 Z vc h0 n0 _ s₁.heap _
        rw [e0]
        have hv : (1 : Int32) = (own_zo vc) := by rw [own_zo, if_neg hc2, if_pos hc4]
        exact ⟨(congrArg (fun z => some (Value.int z)) hv), N0, rfl⟩
    ·
      obtain ⟨fs, hr, hrun, hended, hW, hsame⟩ := X0.leave (v := some (.int (0 : Int32))) (fun h => by rw [Bd.returns] at h; cases h)
      refine ⟨_, _, pre3 _ ?_, hrun, hended, _, _, rfl, ?_, ⟨_, rfl⟩, hW, hsame.mono (by decide) (by decide)⟩
      ·
        show Steps p.tables e below (s₁.setTop (mkF m 9 #[.val (.int vc)] [(.int (46 : Int32)), (.int vc)])) _
        refine XS.icmpYes X0.here hx rfl (pc0 := 9) (pc' := 16) rfl (hb hby d17_9) rfl (feq (hc4 : ¬ (vc = (46 : Int32)))).2 (by decide) (by decide) ?_
        show Steps p.tables e below (s₁.setTop (mkF m 16 #[.val (.int vc)] [])) _
        refine XS.iconst X0.here hx rfl (hb hby d17_16) ?_
        show Steps p.tables e below (s₁.setTop (mkF m 17 #[.val (.int vc)] [(.int (0 : Int32))])) _
        exact retN X0 hx (t := .boolean) Bd.returns (by simp) (hb hby d17_17) hr
      ·
        show Q17 Z vc h0 n0 _ s₁.heap _
        rw [e0]
        have hv : (0 : Int32) = (own_zo vc) := by rw [own_zo, if_neg hc2, if_neg hc4]
        exact ⟨(congrArg (fun z => some (Value.int z)) hv), N0, rfl⟩
theorem d8_0 : decode prog_7_method_1_code 0 = .ok (.aload_n 0, 1) := by decide +kernel
theorem d8_1 : decode prog_7_method_1_code 1 = .ok (.invokespecial 3, 3) := by decide +kernel
theorem d8_4 : decode prog_7_method_1_code 4 = .ok (.return_, 1) := by decide +kernel
theorem pn_29 : plainName "com/example/paniere/paniere/CompactDecimal$Digits" = true := by first | (simp [plainName, overriddenIn]; done) | decide +kernel
theorem ef_rm8 (m : MethodId) (x0 : Addr) : entryFrame m #[(.ref x0)] 1 = mkF m 0 #[.val (.ref x0)] [] := by first | (simp [entryFrame, mkF, argsToLocals, Value.category]; done) | rfl
def Q8 (Z : State) (va : Addr) (h0 : Heap) (n0 : Nat) (v : Option Value) (h : Heap) (L : List Loc) : Prop := v = none ∧ Fr n0 L ∧ h = h0
set_option maxRecDepth 65536 in
set_option maxHeartbeats 40000000 in
theorem rm8 (l : Launch) (Z : State) (a0 : Array Value) (hw : ∀ d ∈ tables_1, d.before a0 Z = true) (ws : List Jvm.Cond) (va : Addr) (h0 : Heap) (n0 : Nat) (Z0 : n0 ≤ h0.size) :
    MetFree l (⟨"com/example/paniere/paniere/CompactDecimal$Digits", "<init>", "()V"⟩ : MethodName) (head1 (Jvm.Cond.code (⟨"com/example/paniere/paniere/CompactDecimal$Digits", "<init>", "()V"⟩ : MethodName) prog_7_method_1_code 1 none :: ws) ({ frames := 1, cells := 0, slots := 0, locals := 12 } : Room)) (fun a U => a = #[(.ref va)] ∧ Z.Warmed39 U.vm ∧ U.heap = h0) (fun _ _ _ _ _ => True) (fun _ U o U' => ∃ v L, o = .returned v ∧ Q8 Z va h0 n0 v U'.heap L ∧ FrameEnd U o U' L ({ frames := 1, cells := 0, slots := 0, locals := 12 } : Room).cells ({ frames := 1, cells := 0, slots := 0, locals := 12 } : Room).slots) := by
  refine MetFree.of_bodySF (plainFor_of_name pn_29) hisR ?_
  intro p e s m args below meth c s₁ Bd hml0 hP hK
  obtain ⟨rfl, hZ, hh⟩ := hP
  have hx := Bd.exec
  have hby := Bd.bytes
  have hml : c.maxLocals = 1 := hml0
  have hown : s.vm.findClass "com/example/paniere/paniere/CompactDecimal$Digits" = some m.cls := findClass_of_methodNamed Bd.named
  have hnm := (name_of_methodNamed Bd.named Bd.method).1
  have X0 : Stand p l e ({ frames := 1, cells := 0, slots := 0, locals := 12 } : Room) s m #[(.ref va)] below meth c s₁ [] 0 0 := Stand.of_body Bd
  have e0 : s₁.heap = h0 := by rw [← hh, Bd.state]; rfl
  have N0 := Fr.nil n0
  have pre0 : ∀ t, Steps p.tables e below (s₁.setTop (mkF m 0 #[.val (.ref va)] [])) t → Steps p.tables e below (s₁.setTop (entryFrame m #[(.ref va)] 1)) t := fun t k => castTop (ef_rm8 m va) k
  obtain ⟨T1, X1, e1, st1⟩ := initO X0 hx hZ hown (hw _ (List.mem_of_getElem? (i := 40) rfl)) (hw _ (List.mem_of_getElem? (i := 16) rfl)) (hw _ (List.mem_of_getElem? (i := 17) rfl)) e0 (g := (mkF m 1 #[.val (.ref va)] [(.ref va)])) rfl (by rw [hml]; rfl) rfl (hb hby d8_1) (by decide) (W := 0) (by show 2 * 0 + _ ≤ _; exact Nat.le_of_eq rfl) (by decide)
  obtain ⟨fs, hr, hrun, hended, hW, hsame⟩ := X1.leave (v := none) (fun _ => rfl)
  refine ⟨_, _, pre0 _ ?_, hrun, hended, _, _, rfl, ?_, ⟨_, rfl⟩, hW, hsame.mono (by decide) (by decide)⟩
  ·
    show Steps p.tables e below (s₁.setTop (mkF m 0 #[.val (.ref va)] [])) _
    refine XS.aloadN X0.here hx rfl (hb hby d8_0) rfl rfl ?_
    show Steps p.tables e below (s₁.setTop (mkF m 1 #[.val (.ref va)] [(.ref va)])) _
    refine st1 _ ?_
    show Steps p.tables e below (T1.setTop (mkF m 4 #[.val (.ref va)] [])) _
    exact X1.returnOut hx Bd.returns (hb hby d8_4) hr
  ·
    show Q8 Z va h0 n0 _ T1.heap _
    rw [e1]
    exact ⟨rfl, N0, rfl⟩
theorem d18_0 : decode prog_7_method_10_code 0 = .ok (.aload_n 0, 1) := by decide +kernel
theorem d18_1 : decode prog_7_method_10_code 1 = .ok (.getfield 9, 3) := by decide +kernel
theorem d18_4 : decode prog_7_method_10_code 4 = .ok (.lconst 0, 1) := by decide +kernel
theorem d18_5 : decode prog_7_method_10_code 5 = .ok (.lcmp, 1) := by decide +kernel
theorem d18_6 : decode prog_7_method_10_code 6 = .ok (.ifCond .ne 39, 3) := by decide +kernel
theorem d18_9 : decode prog_7_method_10_code 9 = .ok (.aload_n 0, 1) := by decide +kernel
theorem d18_10 : decode prog_7_method_10_code 10 = .ok (.getfield 15, 3) := by decide +kernel
theorem d18_13 : decode prog_7_method_10_code 13 = .ok (.lconst 0, 1) := by decide +kernel
theorem d18_14 : decode prog_7_method_10_code 14 = .ok (.lcmp, 1) := by decide +kernel
theorem d18_15 : decode prog_7_method_10_code 15 = .ok (.ifCond .lt 30, 3) := by decide +kernel
theorem d18_18 : decode prog_7_method_10_code 18 = .ok (.aload_n 0, 1) := by decide +kernel
theorem d18_19 : decode prog_7_method_10_code 19 = .ok (.getfield 15, 3) := by decide +kernel
theorem d18_22 : decode prog_7_method_10_code 22 = .ok (.ldc2_w 45, 3) := by decide +kernel
theorem d18_25 : decode prog_7_method_10_code 25 = .ok (.lcmp, 1) := by decide +kernel
theorem d18_26 : decode prog_7_method_10_code 26 = .ok (.ifCond .ge 19, 3) := by decide +kernel
theorem d18_29 : decode prog_7_method_10_code 29 = .ok (.aload_n 0, 1) := by decide +kernel
theorem d18_30 : decode prog_7_method_10_code 30 = .ok (.ldc2_w 47, 3) := by decide +kernel
theorem d18_33 : decode prog_7_method_10_code 33 = .ok (.aload_n 0, 1) := by decide +kernel
theorem d18_34 : decode prog_7_method_10_code 34 = .ok (.getfield 15, 3) := by decide +kernel
theorem d18_37 : decode prog_7_method_10_code 37 = .ok (.lmul, 1) := by decide +kernel
theorem d18_38 : decode prog_7_method_10_code 38 = .ok (.iload_n 1, 1) := by decide +kernel
theorem d18_39 : decode prog_7_method_10_code 39 = .ok (.i2l, 1) := by decide +kernel
theorem d18_40 : decode prog_7_method_10_code 40 = .ok (.ladd, 1) := by decide +kernel
theorem d18_41 : decode prog_7_method_10_code 41 = .ok (.putfield 15, 3) := by decide +kernel
theorem d18_44 : decode prog_7_method_10_code 44 = .ok (.return_, 1) := by decide +kernel
theorem ef_rm18 (m : MethodId) (x0 : Addr) (x1 : Int32) : entryFrame m #[(.ref x0), (.int x1)] 4 = mkF m 0 #[.val (.ref x0), .val (.int x1), .unset, .unset] [] := by first | (simp [entryFrame, mkF, argsToLocals, Value.category]; done) | rfl
def Q18 (Z : State) (va : Addr) (vd : Int32) (lw : Int64) (vsc vsg : Int32) (h0 : Heap) (n0 : Nat) (v : Option Value) (h : Heap) (L : List Loc) : Prop := v = none ∧ Fr n0 L ∧ Keep h0 h [va] ∧ Exa Z h va "com/example/paniere/paniere/CompactDecimal$Digits" ∧ Fld Z h va "com/example/paniere/paniere/CompactDecimal$Digits" "high" "J" (.long (0 : Int64)) ∧ Fld Z h va "com/example/paniere/paniere/CompactDecimal$Digits" "low" "J" (.long (((10 : Int64) * lw) + (vd.toInt64))) ∧ Fld Z h va "com/example/paniere/paniere/CompactDecimal$Digits" "scale" "I" (.int vsc) ∧ Fld Z h va "com/example/paniere/paniere/CompactDecimal$Digits" "significant" "I" (.int vsg)
set_option maxRecDepth 65536 in
set_option maxHeartbeats 40000000 in
theorem rm18 (l : Launch) (Z : State) (a0 : Array Value) (hw : ∀ d ∈ tables_1, d.before a0 Z = true) (ws : List Jvm.Cond) (va : Addr) (vd : Int32) (lw : Int64) (vsc vsg : Int32) (h0 : Heap) (n0 : Nat) (Z0 : n0 ≤ h0.size) (Ea : Exa Z h0 va "com/example/paniere/paniere/CompactDecimal$Digits") (Fh : Fld Z h0 va "com/example/paniere/paniere/CompactDecimal$Digits" "high" "J" (.long (0 : Int64))) (Fl_ : Fld Z h0 va "com/example/paniere/paniere/CompactDecimal$Digits" "low" "J" (.long lw)) (Fs : Fld Z h0 va "com/example/paniere/paniere/CompactDecimal$Digits" "scale" "I" (.int vsc)) (Fg : Fld Z h0 va "com/example/paniere/paniere/CompactDecimal$Digits" "significant" "I" (.int vsg)) (g_va : n0 ≤ va) (h1 : ¬ lw < (0 : Int64)) (h2 : lw < (100000000000000000 : Int64)) :
    MetFree l (⟨"com/example/paniere/paniere/CompactDecimal$Digits", "appendDigit", "(I)V"⟩ : MethodName) (head1 (Jvm.Cond.code (⟨"com/example/paniere/paniere/CompactDecimal$Digits", "appendDigit", "(I)V"⟩ : MethodName) prog_7_method_10_code 4 none :: ws) ({ frames := 0, cells := 0, slots := 0, locals := 0 } : Room)) (fun a U => a = #[(.ref va), (.int vd)] ∧ Z.Warmed39 U.vm ∧ U.heap = h0) (fun _ _ _ _ _ => True) (fun _ U o U' => ∃ v L, o = .returned v ∧ Q18 Z va vd lw vsc vsg h0 n0 v U'.heap L ∧ FrameEnd U o U' L ({ frames := 0, cells := 0, slots := 0, locals := 0 } : Room).cells ({ frames := 0, cells := 0, slots := 0, locals := 0 } : Room).slots) := by
  refine MetFree.of_bodySF (plainFor_of_name pn_29) hisR ?_
  intro p e s m args below meth c s₁ Bd hml0 hP hK
  obtain ⟨rfl, hZ, hh⟩ := hP
  have hx := Bd.exec
  have hby := Bd.bytes
  have hml : c.maxLocals = 4 := hml0
  have hown : s.vm.findClass "com/example/paniere/paniere/CompactDecimal$Digits" = some m.cls := findClass_of_methodNamed Bd.named
  have hnm := (name_of_methodNamed Bd.named Bd.method).1
  have X0 : Stand p l e ({ frames := 0, cells := 0, slots := 0, locals := 0 } : Room) s m #[(.ref va), (.int vd)] below meth c s₁ [] 0 0 := Stand.of_body Bd
  have e0 : s₁.heap = h0 := by rw [← hh, Bd.state]; rfl
  have N0 := Fr.nil n0
  have pre0 : ∀ t, Steps p.tables e below (s₁.setTop (mkF m 0 #[.val (.ref va), .val (.int vd), .unset, .unset] [])) t → Steps p.tables e below (s₁.setTop (entryFrame m #[(.ref va), (.int vd)] 4)) t := fun t k => castTop (ef_rm18 m va vd) k
  obtain ⟨T1, X1, e1, st1⟩ := getF X0 hx hZ hown (host := "") (Or.inl (hw _ (List.mem_of_getElem? (i := 46) rfl))) Via.refl e0 Fh (g := (mkF m 1 #[.val (.ref va), .val (.int vd), .unset, .unset] [(.ref va)])) rfl rfl (hb hby d18_1)
  obtain ⟨T2, X2, e2, st2⟩ := getF X1 hx hZ hown (host := "") (Or.inl (hw _ (List.mem_of_getElem? (i := 48) rfl))) Via.refl e1 Fl_ (g := (mkF m 10 #[.val (.ref va), .val (.int vd), .unset, .unset] [(.ref va)])) rfl rfl (hb hby d18_10)
  obtain ⟨T3, X3, e3, st3⟩ := getF X2 hx hZ hown (host := "") (Or.inl (hw _ (List.mem_of_getElem? (i := 48) rfl))) Via.refl e2 Fl_ (g := (mkF m 19 #[.val (.ref va), .val (.int vd), .unset, .unset] [(.ref va)])) rfl rfl (hb hby d18_19)
  obtain ⟨T4, X4, e4, st4⟩ := getF X3 hx hZ hown (host := "") (Or.inl (hw _ (List.mem_of_getElem? (i := 48) rfl))) Via.refl e3 Fl_ (g := (mkF m 34 #[.val (.ref va), .val (.int vd), .unset, .unset] [(.ref va), (.long (10 : Int64)), (.ref va)])) rfl rfl (hb hby d18_34)
  obtain ⟨T5, h5, X5, e5, W5, st5⟩ := putF X4 hx hZ hown (host := "") (Or.inl (hw _ (List.mem_of_getElem? (i := 48) rfl))) Via.refl e4 Fl_ Ea (Or.inl (hw _ (List.mem_of_getElem? (i := 49) rfl))) (hw _ (List.mem_of_getElem? (i := 35) rfl)) (ty := .long) (by decide) rfl rfl (g := (mkF m 41 #[.val (.ref va), .val (.int vd), .unset, .unset] [(.long (((10 : Int64) * lw) + (vd.toInt64))), (.ref va)])) rfl rfl (hb hby d18_41)
  have Fw5 : Fld Z h5 va "com/example/paniere/paniere/CompactDecimal$Digits" "low" "J" (.long (((10 : Int64) * lw) + (vd.toInt64))) := Fl_.same W5
  have c6 : Exa Z h5 va "com/example/paniere/paniere/CompactDecimal$Digits" := Ea.wr W5
  have c7 : Fld Z h5 va "com/example/paniere/paniere/CompactDecimal$Digits" "high" "J" (.long (0 : Int64)) := Fh.other W5 (Or.inr (slot_ne (Or.inl (hw _ (List.mem_of_getElem? (i := 47) rfl))) (Or.inl (hw _ (List.mem_of_getElem? (i := 49) rfl))) (by decide) (t := .long) (t' := .long) (by decide) (by decide)))
  have c8 : Fld Z h5 va "com/example/paniere/paniere/CompactDecimal$Digits" "scale" "I" (.int vsc) := Fs.other W5 (Or.inr (slot_ne (Or.inl (hw _ (List.mem_of_getElem? (i := 51) rfl))) (Or.inl (hw _ (List.mem_of_getElem? (i := 49) rfl))) (by decide) (t := .int) (t' := .long) (by decide) (by decide)))
  have c9 : Fld Z h5 va "com/example/paniere/paniere/CompactDecimal$Digits" "significant" "I" (.int vsg) := Fg.other W5 (Or.inr (slot_ne (Or.inl (hw _ (List.mem_of_getElem? (i := 53) rfl))) (Or.inl (hw _ (List.mem_of_getElem? (i := 49) rfl))) (by decide) (t := .int) (t' := .long) (by decide) (by decide)))
  have Z5 : n0 ≤ h5.size := Nat.le_trans Z0 (Keep.of_wr W5).1
  have N5 := Fr.snoc X5 N0 g_va
  have K5 : Keep h0 h5 [va] := (Keep.refl h0 [va]).wr W5 (Or.inl (List.mem_of_getElem? (i := 0) rfl))
  obtain ⟨fs, hr, hrun, hended, hW, hsame⟩ := X5.leave (v := none) (fun _ => rfl)
  refine ⟨_, _, pre0 _ ?_, hrun, hended, _, _, rfl, ?_, ⟨_, rfl⟩, hW, hsame.mono (by decide) (by decide)⟩
  ·
    show Steps p.tables e below (s₁.setTop (mkF m 0 #[.val (.ref va), .val (.int vd), .unset, .unset] [])) _
    refine XS.aloadN X0.here hx rfl (hb hby d18_0) rfl rfl ?_
    show Steps p.tables e below (s₁.setTop (mkF m 1 #[.val (.ref va), .val (.int vd), .unset, .unset] [(.ref va)])) _
    refine st1 _ ?_
    show Steps p.tables e below (T1.setTop (mkF m 4 #[.val (.ref va), .val (.int vd), .unset, .unset] [(.long (0 : Int64))])) _
    refine XS.lconst X1.here hx rfl (hb hby d18_4) ?_
    show Steps p.tables e below (T1.setTop (mkF m 5 #[.val (.ref va), .val (.int vd), .unset, .unset] [(.long (0 : Int64)), (.long (0 : Int64))])) _
    refine XS.lcmp X1.here hx rfl (hb hby d18_5) rfl ?_
    show Steps p.tables e below (T1.setTop (mkF m 6 #[.val (.ref va), .val (.int vd), .unset, .unset] [(.int (lcmpW (0 : Int64) (0 : Int64)))])) _
    refine XS.ifNo X1.here hx rfl (hb hby d18_6) rfl ((if0 _ _).trans (teq (((lw_eq _ _).mpr rfl) : (lcmpW (0 : Int64) (0 : Int64)) = (0 : Int32))).2) ?_
    show Steps p.tables e below (T1.setTop (mkF m 9 #[.val (.ref va), .val (.int vd), .unset, .unset] [])) _
    refine XS.aloadN X1.here hx rfl (hb hby d18_9) rfl rfl ?_
    show Steps p.tables e below (T1.setTop (mkF m 10 #[.val (.ref va), .val (.int vd), .unset, .unset] [(.ref va)])) _
    refine st2 _ ?_
    show Steps p.tables e below (T2.setTop (mkF m 13 #[.val (.ref va), .val (.int vd), .unset, .unset] [(.long lw)])) _
    refine XS.lconst X2.here hx rfl (hb hby d18_13) ?_
    show Steps p.tables e below (T2.setTop (mkF m 14 #[.val (.ref va), .val (.int vd), .unset, .unset] [(.long (0 : Int64)), (.long lw)])) _
    refine XS.lcmp X2.here hx rfl (hb hby d18_14) rfl ?_
    show Steps p.tables e below (T2.setTop (mkF m 15 #[.val (.ref va), .val (.int vd), .unset, .unset] [(.int (lcmpW lw (0 : Int64)))])) _
    refine XS.ifNo X2.here hx rfl (hb hby d18_15) rfl ((if0 _ _).trans (flt ((fun q => h1 ((lw_lt _ _).mp q)) : ¬ ((lcmpW lw (0 : Int64)) < (0 : Int32)))).1) ?_
    show Steps p.tables e below (T2.setTop (mkF m 18 #[.val (.ref va), .val (.int vd), .unset, .unset] [])) _
    refine XS.aloadN X2.here hx rfl (hb hby d18_18) rfl rfl ?_
    show Steps p.tables e below (T2.setTop (mkF m 19 #[.val (.ref va), .val (.int vd), .unset, .unset] [(.ref va)])) _
    refine st3 _ ?_
    show Steps p.tables e below (T3.setTop (mkF m 22 #[.val (.ref va), .val (.int vd), .unset, .unset] [(.long lw)])) _
    refine X3.ldc2J hx hown (mvT hZ (hw _ (List.mem_of_getElem? (i := 91) rfl))) (g := (mkF m 22 #[.val (.ref va), .val (.int vd), .unset, .unset] [(.long lw)])) rfl (hb hby d18_22) ?_
    show Steps p.tables e below (T3.setTop (mkF m 25 #[.val (.ref va), .val (.int vd), .unset, .unset] [(.long (100000000000000000 : Int64)), (.long lw)])) _
    refine XS.lcmp X3.here hx rfl (hb hby d18_25) rfl ?_
    show Steps p.tables e below (T3.setTop (mkF m 26 #[.val (.ref va), .val (.int vd), .unset, .unset] [(.int (lcmpW lw (100000000000000000 : Int64)))])) _
    refine XS.ifNo X3.here hx rfl (hb hby d18_26) rfl ((if0 _ _).trans (tlt (((lw_lt _ _).mpr h2) : (lcmpW lw (100000000000000000 : Int64)) < (0 : Int32))).2.1) ?_
    show Steps p.tables e below (T3.setTop (mkF m 29 #[.val (.ref va), .val (.int vd), .unset, .unset] [])) _
    refine XS.aloadN X3.here hx rfl (hb hby d18_29) rfl rfl ?_
    show Steps p.tables e below (T3.setTop (mkF m 30 #[.val (.ref va), .val (.int vd), .unset, .unset] [(.ref va)])) _
    refine X3.ldc2J hx hown (mvT hZ (hw _ (List.mem_of_getElem? (i := 92) rfl))) (g := (mkF m 30 #[.val (.ref va), .val (.int vd), .unset, .unset] [(.ref va)])) rfl (hb hby d18_30) ?_
    show Steps p.tables e below (T3.setTop (mkF m 33 #[.val (.ref va), .val (.int vd), .unset, .unset] [(.long (10 : Int64)), (.ref va)])) _
    refine XS.aloadN X3.here hx rfl (hb hby d18_33) rfl rfl ?_
    show Steps p.tables e below (T3.setTop (mkF m 34 #[.val (.ref va), .val (.int vd), .unset, .unset] [(.ref va), (.long (10 : Int64)), (.ref va)])) _
    refine st4 _ ?_
    show Steps p.tables e below (T4.setTop (mkF m 37 #[.val (.ref va), .val (.int vd), .unset, .unset] [(.long lw), (.long (10 : Int64)), (.ref va)])) _
    refine XS.lmul X4.here hx rfl (hb hby d18_37) rfl ?_
    show Steps p.tables e below (T4.setTop (mkF m 38 #[.val (.ref va), .val (.int vd), .unset, .unset] [(.long ((10 : Int64) * lw)), (.ref va)])) _
    refine XS.iloadN X4.here hx rfl (hb hby d18_38) rfl ?_
    show Steps p.tables e below (T4.setTop (mkF m 39 #[.val (.ref va), .val (.int vd), .unset, .unset] [(.int vd), (.long ((10 : Int64) * lw)), (.ref va)])) _
    refine XS.i2l X4.here hx rfl (hb hby d18_39) rfl ?_
    show Steps p.tables e below (T4.setTop (mkF m 40 #[.val (.ref va), .val (.int vd), .unset, .unset] [(.long (vd.toInt64)), (.long ((10 : Int64) * lw)), (.ref va)])) _
    refine XS.ladd X4.here hx rfl (hb hby d18_40) rfl ?_
    show Steps p.tables e below (T4.setTop (mkF m 41 #[.val (.ref va), .val (.int vd), .unset, .unset] [(.long (((10 : Int64) * lw) + (vd.toInt64))), (.ref va)])) _
    refine st5 _ ?_
    show Steps p.tables e below (T5.setTop (mkF m 44 #[.val (.ref va), .val (.int vd), .unset, .unset] [])) _
    exact X5.returnOut hx Bd.returns (hb hby d18_44) hr
  ·
    show Q18 Z va vd lw vsc vsg h0 n0 _ T5.heap _
    rw [e5]
    exact ⟨rfl, N5, K5, c6, c7, Fw5, c8, c9⟩
theorem own_ge0 {lw : Int64} (h : 0 ≤ lw.toInt) : ¬ lw < (0 : Int64) := by
  rw [Int64.lt_iff_toInt_lt]; have : (0 : Int64).toInt = 0 := rfl; omega
theorem own_pow {sg : Nat} (h : sg ≤ 4) : (10 : Int) ^ sg ≤ 10000 := by
  match sg, h with
  | 0, _ => decide
  | 1, _ => decide
  | 2, _ => decide
  | 3, _ => decide
  | 4, _ => decide
theorem own_lowb {lw : Int64} {sg : Nat} (h : lw.toInt < 10 ^ sg) (hs : sg ≤ 4) : lw < (100000000000000000 : Int64) := by
  rw [Int64.lt_iff_toInt_lt]
  have := own_pow hs
  have e : (100000000000000000 : Int64).toInt = 100000000000000000 := rfl
  omega
theorem own_low {lw : Int64} {sg : Nat} {cc : Int32} (h0 : 0 ≤ lw.toInt) (h1 : lw.toInt < 10 ^ sg) (d1 : ¬ cc < (48 : Int32)) (d2 : ¬ (57 : Int32) < cc) (hs : sg ≤ 4) : 0 ≤ (((10 : Int64) * lw) + ((cc - (48 : Int32)).toInt64)).toInt ∧ (((10 : Int64) * lw) + ((cc - (48 : Int32)).toInt64)).toInt < 10 ^ (sg + 1) := by
  have hp := own_pow hs
  rw [Int32.lt_iff_toInt_lt] at d1 d2
  have z1 : (48 : Int32).toInt = 48 := rfl
  have z2 : (57 : Int32).toInt = 57 := rfl
  have e1 : (cc - (48 : Int32)).toInt = cc.toInt - 48 := by
    rw [Int32.toInt_sub]; show (cc.toInt - 48).bmod _ = _; rw [Int.bmod_eq_of_le_mul_two] <;> omega
  have e2 : (cc - (48 : Int32)).toInt64.toInt = cc.toInt - 48 := by rw [Int32.toInt_toInt64, e1]
  have e3 : ((10 : Int64) * lw).toInt = 10 * lw.toInt := by
    rw [Int64.toInt_mul]; show (10 * lw.toInt).bmod _ = _; rw [Int.bmod_eq_of_le_mul_two] <;> omega
  have e4 : (((10 : Int64) * lw) + ((cc - (48 : Int32)).toInt64)).toInt = 10 * lw.toInt + (cc.toInt - 48) := by
    rw [Int64.toInt_add, e2, e3, Int.bmod_eq_of_le_mul_two] <;> omega
  rw [e4, Int.pow_succ]
  omega
theorem own_nat32 {i : Nat} (h : i < 2 ^ 31) : (Int32.ofNat i).toNatClampNeg = i := by
  show (Int32.ofNat i).toInt.toNat = i
  rw [Int32.toInt_ofNat_small h]; rfl
theorem own_lt32 {i j : Nat} (hi : i < 2 ^ 31) (hj : j < 2 ^ 31) : (Int32.ofNat i) < (Int32.ofNat j) ↔ i < j := by
  rw [Int32.lt_iff_toInt_lt, Int32.toInt_ofNat_small hi, Int32.toInt_ofNat_small hj]; omega
theorem own_eq0 {i : Nat} (hi : i < 2 ^ 31) : (Int32.ofNat i) = (0 : Int32) ↔ i = 0 := by
  rw [← Int32.toInt_inj, Int32.toInt_ofNat_small hi]
  show (i : Int) = 0 ↔ _
  omega
theorem own_one {i : Nat} : (Int32.ofNat i) + (1 : Int32) = Int32.ofNat (i + 1) := by rw [Int32.ofNat_add]; rfl
theorem own_os5 {z0 z1 z2 z3 z4 : Value} {s5 : Slot} {v : Int32} (h : One s5) : storeLocals #[.val z0, .val z1, .val z2, .val z3, .val z4, s5] 5 (.int v) = some #[.val z0, .val z1, .val z2, .val z3, .val z4, .val (.int v)] := by
  rcases h with rfl | ⟨w, rfl, hw⟩
  · rfl
  · cases w <;> first | rfl | (simp [Value.category] at hw)
def own_rdk (cs : List Int32) : Nat → Nat → Nat → Nat
  | 0, _, s => s
  | k + 1, i, s => if cs.getD i 0 = (46 : Int32) then own_rdk cs k (i + 1) s else if s = 0 ∧ cs.getD i 0 = (48 : Int32) then own_rdk cs k (i + 1) s else if 38 < s + 1 then s + 1 else own_rdk cs k (i + 1) (s + 1)
theorem d9_23 : decode prog_7_method_2_code 23 = .ok (.iload 4, 2) := by decide +kernel
theorem d9_25 : decode prog_7_method_2_code 25 = .ok (.iload_n 2, 1) := by decide +kernel
theorem d9_26 : decode prog_7_method_2_code 26 = .ok (.if_icmp .ge 70, 3) := by decide +kernel
theorem d9_96 : decode prog_7_method_2_code 96 = .ok (.return_, 1) := by decide +kernel
theorem d9_29 : decode prog_7_method_2_code 29 = .ok (.aload_n 1, 1) := by decide +kernel
theorem d9_30 : decode prog_7_method_2_code 30 = .ok (.iload 4, 2) := by decide +kernel
theorem pd_0 : parseMethodDescriptor "(I)C" = some ⟨[.int], some .char⟩ := by decide +kernel
theorem d9_32 : decode prog_7_method_2_code 32 = .ok (.invokevirtual 25, 3) := by decide +kernel
theorem d9_35 : decode prog_7_method_2_code 35 = .ok (.istore 5, 2) := by decide +kernel
theorem d9_37 : decode prog_7_method_2_code 37 = .ok (.iload 5, 2) := by decide +kernel
theorem d9_39 : decode prog_7_method_2_code 39 = .ok (.bipush 46, 2) := by decide +kernel
theorem d9_41 : decode prog_7_method_2_code 41 = .ok (.if_icmp .eq 49, 3) := by decide +kernel
theorem d9_90 : decode prog_7_method_2_code 90 = .ok (.iinc 4 1, 3) := by decide +kernel
theorem d9_93 : decode prog_7_method_2_code 93 = .ok (.goto (-70), 3) := by decide +kernel
theorem d9_44 : decode prog_7_method_2_code 44 = .ok (.aload_n 0, 1) := by decide +kernel
theorem d9_45 : decode prog_7_method_2_code 45 = .ok (.getfield 22, 3) := by decide +kernel
theorem d9_48 : decode prog_7_method_2_code 48 = .ok (.ifCond .ne 13, 3) := by decide +kernel
theorem d9_51 : decode prog_7_method_2_code 51 = .ok (.iload 5, 2) := by decide +kernel
theorem d9_53 : decode prog_7_method_2_code 53 = .ok (.bipush 48, 2) := by decide +kernel
theorem d9_55 : decode prog_7_method_2_code 55 = .ok (.if_icmp .ne 6, 3) := by decide +kernel
theorem d9_58 : decode prog_7_method_2_code 58 = .ok (.goto 32, 3) := by decide +kernel
theorem d9_61 : decode prog_7_method_2_code 61 = .ok (.aload_n 0, 1) := by decide +kernel
theorem d9_62 : decode prog_7_method_2_code 62 = .ok (.dup, 1) := by decide +kernel
theorem d9_63 : decode prog_7_method_2_code 63 = .ok (.getfield 22, 3) := by decide +kernel
theorem d9_66 : decode prog_7_method_2_code 66 = .ok (.iconst 1, 1) := by decide +kernel
theorem d9_67 : decode prog_7_method_2_code 67 = .ok (.iadd, 1) := by decide +kernel
theorem d9_68 : decode prog_7_method_2_code 68 = .ok (.putfield 22, 3) := by decide +kernel
theorem d9_71 : decode prog_7_method_2_code 71 = .ok (.aload_n 0, 1) := by decide +kernel
theorem d9_72 : decode prog_7_method_2_code 72 = .ok (.getfield 22, 3) := by decide +kernel
theorem d9_75 : decode prog_7_method_2_code 75 = .ok (.bipush 38, 2) := by decide +kernel
theorem d9_77 : decode prog_7_method_2_code 77 = .ok (.if_icmp .le 4, 3) := by decide +kernel
theorem d9_81 : decode prog_7_method_2_code 81 = .ok (.aload_n 0, 1) := by decide +kernel
theorem d9_82 : decode prog_7_method_2_code 82 = .ok (.iload 5, 2) := by decide +kernel
theorem d9_84 : decode prog_7_method_2_code 84 = .ok (.bipush 48, 2) := by decide +kernel
theorem d9_86 : decode prog_7_method_2_code 86 = .ok (.isub, 1) := by decide +kernel
theorem pd_1 : parseMethodDescriptor "(I)V" = some ⟨[.int], none⟩ := by decide +kernel
theorem d9_87 : decode prog_7_method_2_code 87 = .ok (.invokevirtual 31, 3) := by decide +kernel
set_option maxRecDepth 65536 in
set_option maxHeartbeats 40000000 in
theorem own_rloop {p : Program} {l : Launch} {e : Env} {s : State} {m : MethodId} {args : Array Value} {below : List Frame} {meth : Method} {c : Code} {Z : State} {a0 : Array Value} {n0 : Nat} (hx : p.tables.exec = Jvm.exec) (hZ : Z.Warmed39 s.vm) (hw : ∀ d ∈ tables_1, d.before a0 Z = true) (hby : c.code = prog_7_method_2_code) (hml : c.maxLocals = 6) (hown : s.vm.findClass "com/example/paniere/paniere/CompactDecimal$Digits" = some m.cls) (va vt vb : Addr) (kb : ClassId) (NN : Int32) (cs : List Int32) (vz : Int32) (fm : Value) (vsc : Int32) (ne : Nat) (hS : Heap) (EaS : Exa Z hS va "com/example/paniere/paniere/CompactDecimal$Digits") (Et : Exa Z hS vt "java/lang/String") (Ftv : Fld Z hS vt "java/lang/String" "value" "[B" (.ref vb)) (Ftc : Fld Z hS vt "java/lang/String" "coder" "B" (.int (0 : Int32))) (Vb : Arv Z hS vb kb .byte NN (List.map Value.int (List.map (fun c => c.toInt8.toInt32) cs)) (.int (0 : Int32))) (S_cs : Sta Z hS "java/lang/String" "COMPACT_STRINGS" "Z" (.int vz)) (S_fm : Sta Z hS "jdk/internal/util/Preconditions" "SIOOBE_FORMATTER" "Ljava/util/function/BiFunction;" fm) (g_va : n0 ≤ va) (nat_ : va ≠ vt) (nab_ : va ≠ vb) (hcd : StrChars.Road.CodA cs 0 NN (List.map Value.int (List.map (fun c => c.toInt8.toInt32) cs))) (hbd : ∀ c ∈ cs, ¬ c < 0 ∧ ¬ (65535 : Int32) < c) (hcs : ¬ vz = 0) (rfm : fm.isRef = true) (hl4 : cs.length ≤ 4000) (hnc : ne ≤ cs.length) (hne : ne ≤ 4) (hdg : ∀ (i : Nat) (x : Int32), x = cs.getD i 0 → ¬ x = (46 : Int32) → i < ne → ¬ x < (48 : Int32) ∧ ¬ (57 : Int32) < x) :
    ∀ (k : Nat) (i : Nat) (sg : Nat) (lw : Int64) (s5 : Slot) (T0 : State) (locs : List Loc) (h0 : Heap), Stand p l e ({ frames := 4, cells := 0, slots := 0, locals := 53 } : Room) s m args below meth c T0 locs 0 0 → T0.heap = h0 → Fr n0 locs → n0 ≤ h0.size → (i + k = ne) → (sg ≤ 38) → (sg ≤ i) → (0 ≤ lw.toInt) → (lw.toInt < 10 ^ sg) → (One s5) → (Keep hS h0 [va]) → (Exa Z h0 va "com/example/paniere/paniere/CompactDecimal$Digits") → (Fld Z h0 va "com/example/paniere/paniere/CompactDecimal$Digits" "high" "J" (.long (0 : Int64))) → (Fld Z h0 va "com/example/paniere/paniere/CompactDecimal$Digits" "low" "J" (.long lw)) → (Fld Z h0 va "com/example/paniere/paniere/CompactDecimal$Digits" "scale" "I" (.int vsc)) → (Fld Z h0 va "com/example/paniere/paniere/CompactDecimal$Digits" "significant" "I" (.int (Int32.ofNat sg))) → 
      ∃ (T' : State) (h' : Heap) (locs' : List Loc) (pcx : Nat) (Lx : Array Slot), Stand p l e ({ frames := 4, cells := 0, slots := 0, locals := 53 } : Room) s m args below meth c T' locs' 0 0 ∧ T'.heap = h' ∧ Fr n0 locs' ∧ Keep h0 h' [va] ∧ (Exa Z h' va "com/example/paniere/paniere/CompactDecimal$Digits") ∧ (∃ uh ul : Int64, Fld Z h' va "com/example/paniere/paniere/CompactDecimal$Digits" "high" "J" (.long uh) ∧ Fld Z h' va "com/example/paniere/paniere/CompactDecimal$Digits" "low" "J" (.long ul)) ∧ (Fld Z h' va "com/example/paniere/paniere/CompactDecimal$Digits" "scale" "I" (.int vsc)) ∧ (Fld Z h' va "com/example/paniere/paniere/CompactDecimal$Digits" "significant" "I" (.int (Int32.ofNat (own_rdk cs k i sg)))) ∧ (decode c.code pcx = .ok (.return_, 1)) ∧ ∀ t, Steps p.tables e below (T'.setTop (mkF m pcx Lx [])) t → Steps p.tables e below (T0.setTop (mkF m 23 #[.val (.ref va), .val (.ref vt), .val (.int (Int32.ofNat ne)), .val (.int vsc), .val (.int (Int32.ofNat i)), s5] [])) t := by
  intro k
  induction k with
  | zero =>
    intro i sg lw s5 T0 locs h0 X0 e0 N0 Z0 hik hsg hsi hl0 hl1 h5 KS Ea Fh Fl_ Fs Fg
    have pre0 : ∀ t, Steps p.tables e below (T0.setTop (mkF m 23 #[.val (.ref va), .val (.ref vt), .val (.int (Int32.ofNat ne)), .val (.int vsc), .val (.int (Int32.ofNat i)), s5] [])) t → Steps p.tables e below (T0.setTop (mkF m 23 #[.val (.ref va), .val (.ref vt), .val (.int (Int32.ofNat ne)), .val (.int vsc), .val (.int (Int32.ofNat i)), s5] [])) t := fun t k => k
    have pre1 : ∀ t, Steps p.tables e below (T0.setTop (mkF m 96 #[.val (.ref va), .val (.ref vt), .val (.int (Int32.ofNat ne)), .val (.int vsc), .val (.int (Int32.ofNat i)), s5] [])) t → Steps p.tables e below (T0.setTop (mkF m 23 #[.val (.ref va), .val (.ref vt), .val (.int (Int32.ofNat ne)), .val (.int vsc), .val (.int (Int32.ofNat i)), s5] [])) t := by
      intro t kt
      refine pre0 t ?_
      show Steps p.tables e below (T0.setTop (mkF m 23 #[.val (.ref va), .val (.ref vt), .val (.int (Int32.ofNat ne)), .val (.int vsc), .val (.int (Int32.ofNat i)), s5] [])) _
      refine XS.iload X0.here hx rfl (hb hby d9_23) rfl ?_
      show Steps p.tables e below (T0.setTop (mkF m 25 #[.val (.ref va), .val (.ref vt), .val (.int (Int32.ofNat ne)), .val (.int vsc), .val (.int (Int32.ofNat i)), s5] [(.int (Int32.ofNat i))])) _
      refine XS.iloadN X0.here hx rfl (hb hby d9_25) rfl ?_
      show Steps p.tables e below (T0.setTop (mkF m 26 #[.val (.ref va), .val (.ref vt), .val (.int (Int32.ofNat ne)), .val (.int vsc), .val (.int (Int32.ofNat i)), s5] [(.int (Int32.ofNat ne)), (.int (Int32.ofNat i))])) _
      refine XS.icmpYes X0.here hx rfl (pc0 := 26) (pc' := 96) rfl (hb hby d9_26) rfl (flt ((fun q => absurd ((own_lt32 (by omega) (by omega)).mp q) (by omega)) : ¬ ((Int32.ofNat i) < (Int32.ofNat ne)))).2.1 (by decide) (by decide) ?_
      exact kt
    exact ⟨T0, h0, _, (96), (_), X0, e0, N0, (Keep.refl h0 [va]), Ea, ⟨_, _, Fh, Fl_⟩, Fs, Fg, (hb hby d9_96), fun t kt => pre1 t kt⟩
  | succ k ih =>
    intro i sg lw s5 T0 locs h0 X0 e0 N0 Z0 hik hsg hsi hl0 hl1 h5 KS Ea Fh Fl_ Fs Fg
    have pre0 : ∀ t, Steps p.tables e below (T0.setTop (mkF m 23 #[.val (.ref va), .val (.ref vt), .val (.int (Int32.ofNat ne)), .val (.int vsc), .val (.int (Int32.ofNat i)), s5] [])) t → Steps p.tables e below (T0.setTop (mkF m 23 #[.val (.ref va), .val (.ref vt), .val (.int (Int32.ofNat ne)), .val (.int vsc), .val (.int (Int32.ofNat i)), s5] [])) t := fun t k => k
    have hch2 : ∀ d ∈ StrChars.Road.wordsChN, d.before a0 Z = true := fun d hd => hw d ((by decide +kernel : ∀ d ∈ StrChars.Road.wordsChN, d ∈ tables_1) d hd)
    obtain ⟨cq2, kq2, q2a, q2b, q2c⟩ := isOf hZ e0 (Et.keep (KS.trans (Keep.refl h0 [va]) (allS (Or.inl (List.mem_of_getElem? (i := 0) rfl)) all0)))
    obtain ⟨_, _, ⟨T2, L2, k2, n2⟩, -, X2, ⟨Lc2, hQ2, l2, y2, z2⟩, st2⟩ := X0.virtualBack hx (y := (⟨"java/lang/String", "charAt", "(I)C"⟩ : MethodName)) (z := (⟨"java/lang/String", "charAt", "(I)C"⟩ : MethodName)) hown (mvT hZ (hw _ (List.mem_of_getElem? (i := 62) rfl))) (mvT hZ (hw _ (List.mem_of_getElem? (i := 63) rfl))) (notFace_of_selects (args := #[]) (mvT hZ (hw _ (List.mem_of_getElem? (i := 65) rfl)))) (mvT hZ (hw _ (List.mem_of_getElem? (i := 65) rfl))) (mvT hZ (hw _ (List.mem_of_getElem? (i := 64) rfl))) (by decide) (StrChars.Road.chN (W := 0) hZ hch2 (kI := 4) (hw _ (List.mem_of_getElem? (i := 6) rfl)) (Et.keep (KS.trans (Keep.refl h0 [va]) (allS (Or.inl (List.mem_of_getElem? (i := 0) rfl)) all0))) (Ftv.keep (KS.trans (Keep.refl h0 [va]) (allS (Or.inl (List.mem_of_getElem? (i := 0) rfl)) all0)) (ninS (Ne.symm nat_) nin0)) (Ftc.keep (KS.trans (Keep.refl h0 [va]) (allS (Or.inl (List.mem_of_getElem? (i := 0) rfl)) all0)) (ninS (Ne.symm nat_) nin0)) (Vb.keep (KS.trans (Keep.refl h0 [va]) (allS (Or.inl (List.mem_of_getElem? (i := 0) rfl)) all0)) (ninS (Ne.symm nab_) nin0)) hcd hbd (own_sta_keepE S_cs (KS.trans (Keep.refl h0 [va]) (allS (Or.inl (List.mem_of_getElem? (i := 0) rfl)) all0)) (allS ⟨_, EaS⟩ all0)) hcs (own_sta_keepE S_fm (KS.trans (Keep.refl h0 [va]) (allS (Or.inl (List.mem_of_getElem? (i := 0) rfl)) all0)) (allS ⟨_, EaS⟩ all0)) rfm hl4 (i := i) (by omega) (j := (Int32.ofNat i)) rfl (by decide) (by decide)) q2a q2c (g := (mkF m 32 #[.val (.ref va), .val (.ref vt), .val (.int (Int32.ofNat ne)), .val (.int vsc), .val (.int (Int32.ofNat i)), s5] [(.int (Int32.ofNat i)), (.ref vt)])) rfl (by rw [hml]; rfl) (Steps.refl _) (argsL := [(.int (Int32.ofNat i))]) (rest := []) (lenOf pd_0 rfl) rfl (by show 2 * 0 + _ ≤ _; exact Nat.le_of_eq rfl) (hb hby d9_32) (fun _ _ => ⟨rfl, e0, (by decide : 0 + 0 ≤ _), (by decide : 0 + 0 ≤ _)⟩)
    dsimp only [Pt.U, Pt.locs, Pt.cells, Pt.slots] at X2 l2 y2 z2 st2 hQ2
    subst l2 y2 z2
    obtain ⟨rfl, rfl, e2q⟩ := hQ2
    have N2 := Fr.app N0 (Fr.nil n0)
    have pre3 : ∀ t, Steps p.tables e below (T2.setTop (mkF m 35 #[.val (.ref va), .val (.ref vt), .val (.int (Int32.ofNat ne)), .val (.int vsc), .val (.int (Int32.ofNat i)), s5] [(.int (cs.getD i 0))])) t → Steps p.tables e below (T0.setTop (mkF m 23 #[.val (.ref va), .val (.ref vt), .val (.int (Int32.ofNat ne)), .val (.int vsc), .val (.int (Int32.ofNat i)), s5] [])) t := by
      intro t kt
      refine pre0 t ?_
      show Steps p.tables e below (T0.setTop (mkF m 23 #[.val (.ref va), .val (.ref vt), .val (.int (Int32.ofNat ne)), .val (.int vsc), .val (.int (Int32.ofNat i)), s5] [])) _
      refine XS.iload X0.here hx rfl (hb hby d9_23) rfl ?_
      show Steps p.tables e below (T0.setTop (mkF m 25 #[.val (.ref va), .val (.ref vt), .val (.int (Int32.ofNat ne)), .val (.int vsc), .val (.int (Int32.ofNat i)), s5] [(.int (Int32.ofNat i))])) _
      refine XS.iloadN X0.here hx rfl (hb hby d9_25) rfl ?_
      show Steps p.tables e below (T0.setTop (mkF m 26 #[.val (.ref va), .val (.ref vt), .val (.int (Int32.ofNat ne)), .val (.int vsc), .val (.int (Int32.ofNat i)), s5] [(.int (Int32.ofNat ne)), (.int (Int32.ofNat i))])) _
      refine XS.icmpNo X0.here hx rfl (hb hby d9_26) rfl (tlt (((own_lt32 (by omega) (by omega)).mpr (by omega)) : (Int32.ofNat i) < (Int32.ofNat ne))).2.1 ?_
      show Steps p.tables e below (T0.setTop (mkF m 29 #[.val (.ref va), .val (.ref vt), .val (.int (Int32.ofNat ne)), .val (.int vsc), .val (.int (Int32.ofNat i)), s5] [])) _
      refine XS.aloadN X0.here hx rfl (hb hby d9_29) rfl rfl ?_
      show Steps p.tables e below (T0.setTop (mkF m 30 #[.val (.ref va), .val (.ref vt), .val (.int (Int32.ofNat ne)), .val (.int vsc), .val (.int (Int32.ofNat i)), s5] [(.ref vt)])) _
      refine XS.iload X0.here hx rfl (hb hby d9_30) rfl ?_
      show Steps p.tables e below (T0.setTop (mkF m 32 #[.val (.ref va), .val (.ref vt), .val (.int (Int32.ofNat ne)), .val (.int vsc), .val (.int (Int32.ofNat i)), s5] [(.int (Int32.ofNat i)), (.ref vt)])) _
      refine st2.trans ?_
      exact kt
    obtain ⟨cc, hcc⟩ : ∃ z : Int32, z = (cs.getD i 0) := ⟨_, rfl⟩
    rw [← hcc] at pre3
    have pre4 : ∀ t, Steps p.tables e below (T2.setTop (mkF m 41 #[.val (.ref va), .val (.ref vt), .val (.int (Int32.ofNat ne)), .val (.int vsc), .val (.int (Int32.ofNat i)), .val (.int cc)] [(.int (46 : Int32)), (.int cc)])) t → Steps p.tables e below (T0.setTop (mkF m 23 #[.val (.ref va), .val (.ref vt), .val (.int (Int32.ofNat ne)), .val (.int vsc), .val (.int (Int32.ofNat i)), s5] [])) t := by
      intro t kt
      refine pre3 t ?_
      show Steps p.tables e below (T2.setTop (mkF m 35 #[.val (.ref va), .val (.ref vt), .val (.int (Int32.ofNat ne)), .val (.int vsc), .val (.int (Int32.ofNat i)), s5] [(.int cc)])) _
      refine XS.istore X2.here hx rfl (hb hby d9_35) rfl (l' := #[.val (.ref va), .val (.ref vt), .val (.int (Int32.ofNat ne)), .val (.int vsc), .val (.int (Int32.ofNat i)), .val (.int cc)]) (own_os5 h5) ?_
      show Steps p.tables e below (T2.setTop (mkF m 37 #[.val (.ref va), .val (.ref vt), .val (.int (Int32.ofNat ne)), .val (.int vsc), .val (.int (Int32.ofNat i)), .val (.int cc)] [])) _
      refine XS.iload X2.here hx rfl (hb hby d9_37) rfl ?_
      show Steps p.tables e below (T2.setTop (mkF m 39 #[.val (.ref va), .val (.ref vt), .val (.int (Int32.ofNat ne)), .val (.int vsc), .val (.int (Int32.ofNat i)), .val (.int cc)] [(.int cc)])) _
      refine XS.bipush X2.here hx rfl (hb hby d9_39) ?_
      exact kt
    by_cases hc5 : cc = (46 : Int32)
    ·
      have pre6 : ∀ t, Steps p.tables e below (T2.setTop (mkF m 23 #[.val (.ref va), .val (.ref vt), .val (.int (Int32.ofNat ne)), .val (.int vsc), .val (.int ((Int32.ofNat i) + (1 : Int32))), .val (.int cc)] [])) t → Steps p.tables e below (T0.setTop (mkF m 23 #[.val (.ref va), .val (.ref vt), .val (.int (Int32.ofNat ne)), .val (.int vsc), .val (.int (Int32.ofNat i)), s5] [])) t := by
        intro t kt
        refine pre4 t ?_
        show Steps p.tables e below (T2.setTop (mkF m 41 #[.val (.ref va), .val (.ref vt), .val (.int (Int32.ofNat ne)), .val (.int vsc), .val (.int (Int32.ofNat i)), .val (.int cc)] [(.int (46 : Int32)), (.int cc)])) _
        refine XS.icmpYes X2.here hx rfl (pc0 := 41) (pc' := 90) rfl (hb hby d9_41) rfl (teq (hc5 : cc = (46 : Int32))).1 (by decide) (by decide) ?_
        show Steps p.tables e below (T2.setTop (mkF m 90 #[.val (.ref va), .val (.ref vt), .val (.int (Int32.ofNat ne)), .val (.int vsc), .val (.int (Int32.ofNat i)), .val (.int cc)] [])) _
        refine XS.iinc X2.here hx rfl (hb hby d9_90) rfl (l' := #[.val (.ref va), .val (.ref vt), .val (.int (Int32.ofNat ne)), .val (.int vsc), .val (.int ((Int32.ofNat i) + (1 : Int32))), .val (.int cc)]) rfl ?_
        show Steps p.tables e below (T2.setTop (mkF m 93 #[.val (.ref va), .val (.ref vt), .val (.int (Int32.ofNat ne)), .val (.int vsc), .val (.int ((Int32.ofNat i) + (1 : Int32))), .val (.int cc)] [])) _
        refine XS.goto X2.here hx rfl (pc0 := 93) (pc' := 23) rfl (hb hby d9_93) (by decide) (by decide) ?_
        exact kt
      rw [own_one] at pre6
      obtain ⟨T7, h7, locs7, pcx7, Lx7, X7, e7, N7, K7, po7_0, po7_1, po7_2, po7_3, po7_4, run7⟩ := ih (i + 1) (sg) (lw) (.val (.int cc)) T2 _ h0 X2 e2q N2 Z0 (by omega) (by omega) (by omega) hl0 hl1 (One.val rfl) (KS.trans (Keep.refl h0 [va]) (allS (Or.inl (List.mem_of_getElem? (i := 0) rfl)) all0)) Ea Fh Fl_ Fs Fg
      exact ⟨T7, h7, locs7, pcx7, Lx7, X7, e7, N7, (Keep.refl h0 [va]).trans K7 (allS (Or.inl (List.mem_of_getElem? (i := 0) rfl)) all0), po7_0, po7_1, po7_2, (by rw [own_rdk, if_pos (hcc ▸ hc5)]; exact po7_3), po7_4, fun t kt => pre6 t (run7 t kt)⟩
    ·
      obtain ⟨T8, X8, e8, st8⟩ := getF X2 hx hZ hown (host := "") (Or.inl (hw _ (List.mem_of_getElem? (i := 52) rfl))) Via.refl e2q Fg (g := (mkF m 45 #[.val (.ref va), .val (.ref vt), .val (.int (Int32.ofNat ne)), .val (.int vsc), .val (.int (Int32.ofNat i)), .val (.int cc)] [(.ref va)])) rfl rfl (hb hby d9_45)
      have pre9 : ∀ t, Steps p.tables e below (T8.setTop (mkF m 48 #[.val (.ref va), .val (.ref vt), .val (.int (Int32.ofNat ne)), .val (.int vsc), .val (.int (Int32.ofNat i)), .val (.int cc)] [(.int (Int32.ofNat sg))])) t → Steps p.tables e below (T0.setTop (mkF m 23 #[.val (.ref va), .val (.ref vt), .val (.int (Int32.ofNat ne)), .val (.int vsc), .val (.int (Int32.ofNat i)), s5] [])) t := by
        intro t kt
        refine pre4 t ?_
        show Steps p.tables e below (T2.setTop (mkF m 41 #[.val (.ref va), .val (.ref vt), .val (.int (Int32.ofNat ne)), .val (.int vsc), .val (.int (Int32.ofNat i)), .val (.int cc)] [(.int (46 : Int32)), (.int cc)])) _
        refine XS.icmpNo X2.here hx rfl (hb hby d9_41) rfl (feq (hc5 : ¬ (cc = (46 : Int32)))).1 ?_
        show Steps p.tables e below (T2.setTop (mkF m 44 #[.val (.ref va), .val (.ref vt), .val (.int (Int32.ofNat ne)), .val (.int vsc), .val (.int (Int32.ofNat i)), .val (.int cc)] [])) _
        refine XS.aloadN X2.here hx rfl (hb hby d9_44) rfl rfl ?_
        show Steps p.tables e below (T2.setTop (mkF m 45 #[.val (.ref va), .val (.ref vt), .val (.int (Int32.ofNat ne)), .val (.int vsc), .val (.int (Int32.ofNat i)), .val (.int cc)] [(.ref va)])) _
        refine st8 _ ?_
        exact kt
      by_cases hc10 : (Int32.ofNat sg) = (0 : Int32)
      ·
        have pre11 : ∀ t, Steps p.tables e below (T8.setTop (mkF m 55 #[.val (.ref va), .val (.ref vt), .val (.int (Int32.ofNat ne)), .val (.int vsc), .val (.int (Int32.ofNat i)), .val (.int cc)] [(.int (48 : Int32)), (.int cc)])) t → Steps p.tables e below (T0.setTop (mkF m 23 #[.val (.ref va), .val (.ref vt), .val (.int (Int32.ofNat ne)), .val (.int vsc), .val (.int (Int32.ofNat i)), s5] [])) t := by
          intro t kt
          refine pre9 t ?_
          show Steps p.tables e below (T8.setTop (mkF m 48 #[.val (.ref va), .val (.ref vt), .val (.int (Int32.ofNat ne)), .val (.int vsc), .val (.int (Int32.ofNat i)), .val (.int cc)] [(.int (Int32.ofNat sg))])) _
          refine XS.ifNo X8.here hx rfl (hb hby d9_48) rfl ((if0 _ _).trans (teq (hc10 : (Int32.ofNat sg) = (0 : Int32))).2) ?_
          show Steps p.tables e below (T8.setTop (mkF m 51 #[.val (.ref va), .val (.ref vt), .val (.int (Int32.ofNat ne)), .val (.int vsc), .val (.int (Int32.ofNat i)), .val (.int cc)] [])) _
          refine XS.iload X8.here hx rfl (hb hby d9_51) rfl ?_
          show Steps p.tables e below (T8.setTop (mkF m 53 #[.val (.ref va), .val (.ref vt), .val (.int (Int32.ofNat ne)), .val (.int vsc), .val (.int (Int32.ofNat i)), .val (.int cc)] [(.int cc)])) _
          refine XS.bipush X8.here hx rfl (hb hby d9_53) ?_
          exact kt
        by_cases hc12 : cc = (48 : Int32)
        ·
          have pre13 : ∀ t, Steps p.tables e below (T8.setTop (mkF m 23 #[.val (.ref va), .val (.ref vt), .val (.int (Int32.ofNat ne)), .val (.int vsc), .val (.int ((Int32.ofNat i) + (1 : Int32))), .val (.int cc)] [])) t → Steps p.tables e below (T0.setTop (mkF m 23 #[.val (.ref va), .val (.ref vt), .val (.int (Int32.ofNat ne)), .val (.int vsc), .val (.int (Int32.ofNat i)), s5] [])) t := by
            intro t kt
            refine pre11 t ?_
            show Steps p.tables e below (T8.setTop (mkF m 55 #[.val (.ref va), .val (.ref vt), .val (.int (Int32.ofNat ne)), .val (.int vsc), .val (.int (Int32.ofNat i)), .val (.int cc)] [(.int (48 : Int32)), (.int cc)])) _
            refine XS.icmpNo X8.here hx rfl (hb hby d9_55) rfl (teq (hc12 : cc = (48 : Int32))).2 ?_
            show Steps p.tables e below (T8.setTop (mkF m 58 #[.val (.ref va), .val (.ref vt), .val (.int (Int32.ofNat ne)), .val (.int vsc), .val (.int (Int32.ofNat i)), .val (.int cc)] [])) _
            refine XS.goto X8.here hx rfl (pc0 := 58) (pc' := 90) rfl (hb hby d9_58) (by decide) (by decide) ?_
            show Steps p.tables e below (T8.setTop (mkF m 90 #[.val (.ref va), .val (.ref vt), .val (.int (Int32.ofNat ne)), .val (.int vsc), .val (.int (Int32.ofNat i)), .val (.int cc)] [])) _
            refine XS.iinc X8.here hx rfl (hb hby d9_90) rfl (l' := #[.val (.ref va), .val (.ref vt), .val (.int (Int32.ofNat ne)), .val (.int vsc), .val (.int ((Int32.ofNat i) + (1 : Int32))), .val (.int cc)]) rfl ?_
            show Steps p.tables e below (T8.setTop (mkF m 93 #[.val (.ref va), .val (.ref vt), .val (.int (Int32.ofNat ne)), .val (.int vsc), .val (.int ((Int32.ofNat i) + (1 : Int32))), .val (.int cc)] [])) _
            refine XS.goto X8.here hx rfl (pc0 := 93) (pc' := 23) rfl (hb hby d9_93) (by decide) (by decide) ?_
            exact kt
          rw [own_one] at pre13
          obtain ⟨T14, h14, locs14, pcx14, Lx14, X14, e14, N14, K14, po14_0, po14_1, po14_2, po14_3, po14_4, run14⟩ := ih (i + 1) (sg) (lw) (.val (.int cc)) T8 _ h0 X8 e8 N2 Z0 (by omega) (by omega) (by omega) hl0 hl1 (One.val rfl) (KS.trans (Keep.refl h0 [va]) (allS (Or.inl (List.mem_of_getElem? (i := 0) rfl)) all0)) Ea Fh Fl_ Fs Fg
          exact ⟨T14, h14, locs14, pcx14, Lx14, X14, e14, N14, (Keep.refl h0 [va]).trans K14 (allS (Or.inl (List.mem_of_getElem? (i := 0) rfl)) all0), po14_0, po14_1, po14_2, (by rw [own_rdk, if_neg (fun q => hc5 (hcc.trans q)), if_pos ⟨(own_eq0 (by omega)).mp hc10, hcc ▸ hc12⟩]; exact po14_3), po14_4, fun t kt => pre13 t (run14 t kt)⟩
        ·
          obtain ⟨T15, X15, e15, st15⟩ := getF X8 hx hZ hown (host := "") (Or.inl (hw _ (List.mem_of_getElem? (i := 52) rfl))) Via.refl e8 Fg (g := (mkF m 63 #[.val (.ref va), .val (.ref vt), .val (.int (Int32.ofNat ne)), .val (.int vsc), .val (.int (Int32.ofNat i)), .val (.int cc)] [(.ref va), (.ref va)])) rfl rfl (hb hby d9_63)
          obtain ⟨T16, h16, X16, e16, W16, st16⟩ := putF X15 hx hZ hown (host := "") (Or.inl (hw _ (List.mem_of_getElem? (i := 52) rfl))) Via.refl e15 Fg Ea (Or.inl (hw _ (List.mem_of_getElem? (i := 53) rfl))) (hw _ (List.mem_of_getElem? (i := 35) rfl)) (ty := .int) (by decide) rfl rfl (g := (mkF m 68 #[.val (.ref va), .val (.ref vt), .val (.int (Int32.ofNat ne)), .val (.int vsc), .val (.int (Int32.ofNat i)), .val (.int cc)] [(.int ((Int32.ofNat sg) + (1 : Int32))), (.ref va)])) rfl rfl (hb hby d9_68)
          have Fw16 : Fld Z h16 va "com/example/paniere/paniere/CompactDecimal$Digits" "significant" "I" (.int ((Int32.ofNat sg) + (1 : Int32))) := Fg.same W16
          have c17 : Exa Z h16 va "com/example/paniere/paniere/CompactDecimal$Digits" := Ea.wr W16
          have c18 : Fld Z h16 va "com/example/paniere/paniere/CompactDecimal$Digits" "high" "J" (.long (0 : Int64)) := Fh.other W16 (Or.inr (slot_ne (Or.inl (hw _ (List.mem_of_getElem? (i := 47) rfl))) (Or.inl (hw _ (List.mem_of_getElem? (i := 53) rfl))) (by decide) (t := .long) (t' := .int) (by decide) (by decide)))
          have c19 : Fld Z h16 va "com/example/paniere/paniere/CompactDecimal$Digits" "low" "J" (.long lw) := Fl_.other W16 (Or.inr (slot_ne (Or.inl (hw _ (List.mem_of_getElem? (i := 49) rfl))) (Or.inl (hw _ (List.mem_of_getElem? (i := 53) rfl))) (by decide) (t := .long) (t' := .int) (by decide) (by decide)))
          have c20 : Fld Z h16 va "com/example/paniere/paniere/CompactDecimal$Digits" "scale" "I" (.int vsc) := Fs.other W16 (Or.inr (slot_ne (Or.inl (hw _ (List.mem_of_getElem? (i := 51) rfl))) (Or.inl (hw _ (List.mem_of_getElem? (i := 53) rfl))) (by decide) (t := .int) (t' := .int) (by decide) (by decide)))
          have Z16 : n0 ≤ h16.size := Nat.le_trans Z0 (Keep.of_wr W16).1
          have N16 := Fr.snoc X16 N2 g_va
          have K16 : Keep h0 h16 [va] := (Keep.refl h0 [va]).wr W16 (Or.inl (List.mem_of_getElem? (i := 0) rfl))
          have q21 : Fld Z h16 va "com/example/paniere/paniere/CompactDecimal$Digits" "significant" "I" (.int (Int32.ofNat (sg + 1))) := own_one ▸ Fw16
          obtain ⟨T22, X22, e22, st22⟩ := getF X16 hx hZ hown (host := "") (Or.inl (hw _ (List.mem_of_getElem? (i := 52) rfl))) Via.refl e16 q21 (g := (mkF m 72 #[.val (.ref va), .val (.ref vt), .val (.int (Int32.ofNat ne)), .val (.int vsc), .val (.int (Int32.ofNat i)), .val (.int cc)] [(.ref va)])) rfl rfl (hb hby d9_72)
          obtain ⟨hdig1, hdig2⟩ := hdg i cc hcc hc5 (by omega)
          have hnb := own_lowb hl1 (by omega)
          obtain ⟨cq23, q23, q23'⟩ := c17.cell
          obtain ⟨_, _, ⟨T23, L23, k23, n23⟩, -, X23, ⟨Lc23, hQ23, l23, y23, z23⟩, st23⟩ := X22.privateBack hx (y := (⟨"com/example/paniere/paniere/CompactDecimal$Digits", "appendDigit", "(I)V"⟩ : MethodName)) hown (mvT hZ (hw _ (List.mem_of_getElem? (i := 87) rfl))) (mvT hZ (hw _ (List.mem_of_getElem? (i := 88) rfl))) (own_selp (mvT hZ (hw _ (List.mem_of_getElem? (i := 35) rfl))) (Cond.privateMethod_at (mvP hZ (hw _ (List.mem_of_getElem? (i := 89) rfl)) (args := #[]))) (mvT hZ (hw _ (List.mem_of_getElem? (i := 88) rfl)))) (Cond.privateMethod_at (mvP hZ (hw _ (List.mem_of_getElem? (i := 89) rfl)) (args := #[]))) (mvT hZ (hw _ (List.mem_of_getElem? (i := 90) rfl))) (by decide) (backOf (W := 0) (rm18 l Z a0 hw [] va (cc - (48 : Int32)) lw vsc (Int32.ofNat (sg + 1)) h16 n0 Z16 c17 c18 c19 c20 q21 g_va (own_ge0 hl0) hnb) hZ (hw _ (List.mem_of_getElem? (i := 90) rfl)) (hw _ (List.mem_of_getElem? (i := 36) rfl)) (by decide) (by decide)) (g := (mkF m 87 #[.val (.ref va), .val (.ref vt), .val (.int (Int32.ofNat ne)), .val (.int vsc), .val (.int (Int32.ofNat i)), .val (.int cc)] [(.int (cc - (48 : Int32))), (.ref va)])) rfl (by rw [hml]; rfl) (Steps.refl _) (a := va) (by rw [e22]; exact q23) q23' (argsL := [(.int (cc - (48 : Int32)))]) (rest := []) (lenOf pd_1 rfl) rfl (by show 2 * 0 + _ ≤ _; exact Nat.le_of_eq rfl) (hb hby d9_87) (fun _ _ => ⟨rfl, e22, (by decide : 0 + 0 ≤ _), (by decide : 0 + 0 ≤ _)⟩)
          dsimp only [Pt.U, Pt.locs, Pt.cells, Pt.slots] at X23 l23 y23 z23 st23 hQ23
          subst l23 y23 z23
          obtain ⟨rfl, N23q, K23q, f23_0, f23_1, f23_2, f23_3, f23_4⟩ := hQ23
          have N23 := Fr.app N16 N23q
          have Z23 : n0 ≤ T23.heap.size := Nat.le_trans Z16 K23q.1
          have c24 : Exa Z T23.heap va "com/example/paniere/paniere/CompactDecimal$Digits" := c17.keep K23q
          have K23 : Keep h0 T23.heap [va] := K16.trans K23q (allS (Or.inl (List.mem_of_getElem? (i := 0) rfl)) all0)
          have pre25 : ∀ t, Steps p.tables e below (T23.setTop (mkF m 23 #[.val (.ref va), .val (.ref vt), .val (.int (Int32.ofNat ne)), .val (.int vsc), .val (.int ((Int32.ofNat i) + (1 : Int32))), .val (.int cc)] [])) t → Steps p.tables e below (T0.setTop (mkF m 23 #[.val (.ref va), .val (.ref vt), .val (.int (Int32.ofNat ne)), .val (.int vsc), .val (.int (Int32.ofNat i)), s5] [])) t := by
            intro t kt
            refine pre11 t ?_
            show Steps p.tables e below (T8.setTop (mkF m 55 #[.val (.ref va), .val (.ref vt), .val (.int (Int32.ofNat ne)), .val (.int vsc), .val (.int (Int32.ofNat i)), .val (.int cc)] [(.int (48 : Int32)), (.int cc)])) _
            refine XS.icmpYes X8.here hx rfl (pc0 := 55) (pc' := 61) rfl (hb hby d9_55) rfl (feq (hc12 : ¬ (cc = (48 : Int32)))).2 (by decide) (by decide) ?_
            show Steps p.tables e below (T8.setTop (mkF m 61 #[.val (.ref va), .val (.ref vt), .val (.int (Int32.ofNat ne)), .val (.int vsc), .val (.int (Int32.ofNat i)), .val (.int cc)] [])) _
            refine XS.aloadN X8.here hx rfl (hb hby d9_61) rfl rfl ?_
            show Steps p.tables e below (T8.setTop (mkF m 62 #[.val (.ref va), .val (.ref vt), .val (.int (Int32.ofNat ne)), .val (.int vsc), .val (.int (Int32.ofNat i)), .val (.int cc)] [(.ref va)])) _
            refine XS.dup X8.here hx rfl (hb hby d9_62) rfl rfl ?_
            show Steps p.tables e below (T8.setTop (mkF m 63 #[.val (.ref va), .val (.ref vt), .val (.int (Int32.ofNat ne)), .val (.int vsc), .val (.int (Int32.ofNat i)), .val (.int cc)] [(.ref va), (.ref va)])) _
            refine st15 _ ?_
            show Steps p.tables e below (T15.setTop (mkF m 66 #[.val (.ref va), .val (.ref vt), .val (.int (Int32.ofNat ne)), .val (.int vsc), .val (.int (Int32.ofNat i)), .val (.int cc)] [(.int (Int32.ofNat sg)), (.ref va)])) _
            refine XS.iconst X15.here hx rfl (hb hby d9_66) ?_
            show Steps p.tables e below (T15.setTop (mkF m 67 #[.val (.ref va), .val (.ref vt), .val (.int (Int32.ofNat ne)), .val (.int vsc), .val (.int (Int32.ofNat i)), .val (.int cc)] [(.int (1 : Int32)), (.int (Int32.ofNat sg)), (.ref va)])) _
            refine XS.iadd X15.here hx rfl (hb hby d9_67) rfl ?_
            show Steps p.tables e below (T15.setTop (mkF m 68 #[.val (.ref va), .val (.ref vt), .val (.int (Int32.ofNat ne)), .val (.int vsc), .val (.int (Int32.ofNat i)), .val (.int cc)] [(.int ((Int32.ofNat sg) + (1 : Int32))), (.ref va)])) _
            refine st16 _ ?_
            show Steps p.tables e below (T16.setTop (mkF m 71 #[.val (.ref va), .val (.ref vt), .val (.int (Int32.ofNat ne)), .val (.int vsc), .val (.int (Int32.ofNat i)), .val (.int cc)] [])) _
            refine XS.aloadN X16.here hx rfl (hb hby d9_71) rfl rfl ?_
            show Steps p.tables e below (T16.setTop (mkF m 72 #[.val (.ref va), .val (.ref vt), .val (.int (Int32.ofNat ne)), .val (.int vsc), .val (.int (Int32.ofNat i)), .val (.int cc)] [(.ref va)])) _
            refine st22 _ ?_
            show Steps p.tables e below (T22.setTop (mkF m 75 #[.val (.ref va), .val (.ref vt), .val (.int (Int32.ofNat ne)), .val (.int vsc), .val (.int (Int32.ofNat i)), .val (.int cc)] [(.int (Int32.ofNat (sg + 1)))])) _
            refine XS.bipush X22.here hx rfl (hb hby d9_75) ?_
            show Steps p.tables e below (T22.setTop (mkF m 77 #[.val (.ref va), .val (.ref vt), .val (.int (Int32.ofNat ne)), .val (.int vsc), .val (.int (Int32.ofNat i)), .val (.int cc)] [(.int (38 : Int32)), (.int (Int32.ofNat (sg + 1)))])) _
            refine XS.icmpYes X22.here hx rfl (pc0 := 77) (pc' := 81) rfl (hb hby d9_77) rfl (flt ((fun q => absurd ((own_lt32 (i := 38) (by omega) (by omega)).mp q) (by omega)) : ¬ ((38 : Int32) < (Int32.ofNat (sg + 1))))).2.2.2 (by decide) (by decide) ?_
            show Steps p.tables e below (T22.setTop (mkF m 81 #[.val (.ref va), .val (.ref vt), .val (.int (Int32.ofNat ne)), .val (.int vsc), .val (.int (Int32.ofNat i)), .val (.int cc)] [])) _
            refine XS.aloadN X22.here hx rfl (hb hby d9_81) rfl rfl ?_
            show Steps p.tables e below (T22.setTop (mkF m 82 #[.val (.ref va), .val (.ref vt), .val (.int (Int32.ofNat ne)), .val (.int vsc), .val (.int (Int32.ofNat i)), .val (.int cc)] [(.ref va)])) _
            refine XS.iload X22.here hx rfl (hb hby d9_82) rfl ?_
            show Steps p.tables e below (T22.setTop (mkF m 84 #[.val (.ref va), .val (.ref vt), .val (.int (Int32.ofNat ne)), .val (.int vsc), .val (.int (Int32.ofNat i)), .val (.int cc)] [(.int cc), (.ref va)])) _
            refine XS.bipush X22.here hx rfl (hb hby d9_84) ?_
            show Steps p.tables e below (T22.setTop (mkF m 86 #[.val (.ref va), .val (.ref vt), .val (.int (Int32.ofNat ne)), .val (.int vsc), .val (.int (Int32.ofNat i)), .val (.int cc)] [(.int (48 : Int32)), (.int cc), (.ref va)])) _
            refine XS.isub X22.here hx rfl (hb hby d9_86) rfl ?_
            show Steps p.tables e below (T22.setTop (mkF m 87 #[.val (.ref va), .val (.ref vt), .val (.int (Int32.ofNat ne)), .val (.int vsc), .val (.int (Int32.ofNat i)), .val (.int cc)] [(.int (cc - (48 : Int32))), (.ref va)])) _
            refine st23.trans ?_
            show Steps p.tables e below (T23.setTop (mkF m 90 #[.val (.ref va), .val (.ref vt), .val (.int (Int32.ofNat ne)), .val (.int vsc), .val (.int (Int32.ofNat i)), .val (.int cc)] [])) _
            refine XS.iinc X23.here hx rfl (hb hby d9_90) rfl (l' := #[.val (.ref va), .val (.ref vt), .val (.int (Int32.ofNat ne)), .val (.int vsc), .val (.int ((Int32.ofNat i) + (1 : Int32))), .val (.int cc)]) rfl ?_
            show Steps p.tables e below (T23.setTop (mkF m 93 #[.val (.ref va), .val (.ref vt), .val (.int (Int32.ofNat ne)), .val (.int vsc), .val (.int ((Int32.ofNat i) + (1 : Int32))), .val (.int cc)] [])) _
            refine XS.goto X23.here hx rfl (pc0 := 93) (pc' := 23) rfl (hb hby d9_93) (by decide) (by decide) ?_
            exact kt
          rw [own_one] at pre25
          have hnl := own_low hl0 hl1 hdig1 hdig2 (by omega)
          obtain ⟨T26, h26, locs26, pcx26, Lx26, X26, e26, N26, K26, po26_0, po26_1, po26_2, po26_3, po26_4, run26⟩ := ih (i + 1) (sg + 1) ((((10 : Int64) * lw) + ((cc - (48 : Int32)).toInt64))) (.val (.int cc)) T23 _ T23.heap X23 rfl N23 Z23 (by omega) (by omega) (by omega) hnl.1 hnl.2 (One.val rfl) (KS.trans K23 (allS (Or.inl (List.mem_of_getElem? (i := 0) rfl)) all0)) f23_0 f23_1 f23_2 f23_3 f23_4
          exact ⟨T26, h26, locs26, pcx26, Lx26, X26, e26, N26, K23.trans K26 (allS (Or.inl (List.mem_of_getElem? (i := 0) rfl)) all0), po26_0, po26_1, po26_2, (by rw [own_rdk, if_neg (fun q => hc5 (hcc.trans q)), if_neg (fun q => hc12 (hcc.trans q.2)), if_neg (by omega)]; exact po26_3), po26_4, fun t kt => pre25 t (run26 t kt)⟩
      ·
        obtain ⟨T27, X27, e27, st27⟩ := getF X8 hx hZ hown (host := "") (Or.inl (hw _ (List.mem_of_getElem? (i := 52) rfl))) Via.refl e8 Fg (g := (mkF m 63 #[.val (.ref va), .val (.ref vt), .val (.int (Int32.ofNat ne)), .val (.int vsc), .val (.int (Int32.ofNat i)), .val (.int cc)] [(.ref va), (.ref va)])) rfl rfl (hb hby d9_63)
        obtain ⟨T28, h28, X28, e28, W28, st28⟩ := putF X27 hx hZ hown (host := "") (Or.inl (hw _ (List.mem_of_getElem? (i := 52) rfl))) Via.refl e27 Fg Ea (Or.inl (hw _ (List.mem_of_getElem? (i := 53) rfl))) (hw _ (List.mem_of_getElem? (i := 35) rfl)) (ty := .int) (by decide) rfl rfl (g := (mkF m 68 #[.val (.ref va), .val (.ref vt), .val (.int (Int32.ofNat ne)), .val (.int vsc), .val (.int (Int32.ofNat i)), .val (.int cc)] [(.int ((Int32.ofNat sg) + (1 : Int32))), (.ref va)])) rfl rfl (hb hby d9_68)
        have Fw28 : Fld Z h28 va "com/example/paniere/paniere/CompactDecimal$Digits" "significant" "I" (.int ((Int32.ofNat sg) + (1 : Int32))) := Fg.same W28
        have c29 : Exa Z h28 va "com/example/paniere/paniere/CompactDecimal$Digits" := Ea.wr W28
        have c30 : Fld Z h28 va "com/example/paniere/paniere/CompactDecimal$Digits" "high" "J" (.long (0 : Int64)) := Fh.other W28 (Or.inr (slot_ne (Or.inl (hw _ (List.mem_of_getElem? (i := 47) rfl))) (Or.inl (hw _ (List.mem_of_getElem? (i := 53) rfl))) (by decide) (t := .long) (t' := .int) (by decide) (by decide)))
        have c31 : Fld Z h28 va "com/example/paniere/paniere/CompactDecimal$Digits" "low" "J" (.long lw) := Fl_.other W28 (Or.inr (slot_ne (Or.inl (hw _ (List.mem_of_getElem? (i := 49) rfl))) (Or.inl (hw _ (List.mem_of_getElem? (i := 53) rfl))) (by decide) (t := .long) (t' := .int) (by decide) (by decide)))
        have c32 : Fld Z h28 va "com/example/paniere/paniere/CompactDecimal$Digits" "scale" "I" (.int vsc) := Fs.other W28 (Or.inr (slot_ne (Or.inl (hw _ (List.mem_of_getElem? (i := 51) rfl))) (Or.inl (hw _ (List.mem_of_getElem? (i := 53) rfl))) (by decide) (t := .int) (t' := .int) (by decide) (by decide)))
        have Z28 : n0 ≤ h28.size := Nat.le_trans Z0 (Keep.of_wr W28).1
        have N28 := Fr.snoc X28 N2 g_va
        have K28 : Keep h0 h28 [va] := (Keep.refl h0 [va]).wr W28 (Or.inl (List.mem_of_getElem? (i := 0) rfl))
        have q33 : Fld Z h28 va "com/example/paniere/paniere/CompactDecimal$Digits" "significant" "I" (.int (Int32.ofNat (sg + 1))) := own_one ▸ Fw28
        obtain ⟨T34, X34, e34, st34⟩ := getF X28 hx hZ hown (host := "") (Or.inl (hw _ (List.mem_of_getElem? (i := 52) rfl))) Via.refl e28 q33 (g := (mkF m 72 #[.val (.ref va), .val (.ref vt), .val (.int (Int32.ofNat ne)), .val (.int vsc), .val (.int (Int32.ofNat i)), .val (.int cc)] [(.ref va)])) rfl rfl (hb hby d9_72)
        obtain ⟨hdig1, hdig2⟩ := hdg i cc hcc hc5 (by omega)
        have hnb := own_lowb hl1 (by omega)
        obtain ⟨cq35, q35, q35'⟩ := c29.cell
        obtain ⟨_, _, ⟨T35, L35, k35, n35⟩, -, X35, ⟨Lc35, hQ35, l35, y35, z35⟩, st35⟩ := X34.privateBack hx (y := (⟨"com/example/paniere/paniere/CompactDecimal$Digits", "appendDigit", "(I)V"⟩ : MethodName)) hown (mvT hZ (hw _ (List.mem_of_getElem? (i := 87) rfl))) (mvT hZ (hw _ (List.mem_of_getElem? (i := 88) rfl))) (own_selp (mvT hZ (hw _ (List.mem_of_getElem? (i := 35) rfl))) (Cond.privateMethod_at (mvP hZ (hw _ (List.mem_of_getElem? (i := 89) rfl)) (args := #[]))) (mvT hZ (hw _ (List.mem_of_getElem? (i := 88) rfl)))) (Cond.privateMethod_at (mvP hZ (hw _ (List.mem_of_getElem? (i := 89) rfl)) (args := #[]))) (mvT hZ (hw _ (List.mem_of_getElem? (i := 90) rfl))) (by decide) (backOf (W := 0) (rm18 l Z a0 hw [] va (cc - (48 : Int32)) lw vsc (Int32.ofNat (sg + 1)) h28 n0 Z28 c29 c30 c31 c32 q33 g_va (own_ge0 hl0) hnb) hZ (hw _ (List.mem_of_getElem? (i := 90) rfl)) (hw _ (List.mem_of_getElem? (i := 36) rfl)) (by decide) (by decide)) (g := (mkF m 87 #[.val (.ref va), .val (.ref vt), .val (.int (Int32.ofNat ne)), .val (.int vsc), .val (.int (Int32.ofNat i)), .val (.int cc)] [(.int (cc - (48 : Int32))), (.ref va)])) rfl (by rw [hml]; rfl) (Steps.refl _) (a := va) (by rw [e34]; exact q35) q35' (argsL := [(.int (cc - (48 : Int32)))]) (rest := []) (lenOf pd_1 rfl) rfl (by show 2 * 0 + _ ≤ _; exact Nat.le_of_eq rfl) (hb hby d9_87) (fun _ _ => ⟨rfl, e34, (by decide : 0 + 0 ≤ _), (by decide : 0 + 0 ≤ _)⟩)
        dsimp only [Pt.U, Pt.locs, Pt.cells, Pt.slots] at X35 l35 y35 z35 st35 hQ35
        subst l35 y35 z35
        obtain ⟨rfl, N35q, K35q, f35_0, f35_1, f35_2, f35_3, f35_4⟩ := hQ35
        have N35 := Fr.app N28 N35q
        have Z35 : n0 ≤ T35.heap.size := Nat.le_trans Z28 K35q.1
        have c36 : Exa Z T35.heap va "com/example/paniere/paniere/CompactDecimal$Digits" := c29.keep K35q
        have K35 : Keep h0 T35.heap [va] := K28.trans K35q (allS (Or.inl (List.mem_of_getElem? (i := 0) rfl)) all0)
        have pre37 : ∀ t, Steps p.tables e below (T35.setTop (mkF m 23 #[.val (.ref va), .val (.ref vt), .val (.int (Int32.ofNat ne)), .val (.int vsc), .val (.int ((Int32.ofNat i) + (1 : Int32))), .val (.int cc)] [])) t → Steps p.tables e below (T0.setTop (mkF m 23 #[.val (.ref va), .val (.ref vt), .val (.int (Int32.ofNat ne)), .val (.int vsc), .val (.int (Int32.ofNat i)), s5] [])) t := by
          intro t kt
          refine pre9 t ?_
          show Steps p.tables e below (T8.setTop (mkF m 48 #[.val (.ref va), .val (.ref vt), .val (.int (Int32.ofNat ne)), .val (.int vsc), .val (.int (Int32.ofNat i)), .val (.int cc)] [(.int (Int32.ofNat sg))])) _
          refine XS.ifYes X8.here hx rfl (pc0 := 48) (pc' := 61) rfl (hb hby d9_48) rfl ((if0 _ _).trans (feq (hc10 : ¬ ((Int32.ofNat sg) = (0 : Int32)))).2) (by decide) (by decide) ?_
          show Steps p.tables e below (T8.setTop (mkF m 61 #[.val (.ref va), .val (.ref vt), .val (.int (Int32.ofNat ne)), .val (.int vsc), .val (.int (Int32.ofNat i)), .val (.int cc)] [])) _
          refine XS.aloadN X8.here hx rfl (hb hby d9_61) rfl rfl ?_
          show Steps p.tables e below (T8.setTop (mkF m 62 #[.val (.ref va), .val (.ref vt), .val (.int (Int32.ofNat ne)), .val (.int vsc), .val (.int (Int32.ofNat i)), .val (.int cc)] [(.ref va)])) _
          refine XS.dup X8.here hx rfl (hb hby d9_62) rfl rfl ?_
          show Steps p.tables e below (T8.setTop (mkF m 63 #[.val (.ref va), .val (.ref vt), .val (.int (Int32.ofNat ne)), .val (.int vsc), .val (.int (Int32.ofNat i)), .val (.int cc)] [(.ref va), (.ref va)])) _
          refine st27 _ ?_
          show Steps p.tables e below (T27.setTop (mkF m 66 #[.val (.ref va), .val (.ref vt), .val (.int (Int32.ofNat ne)), .val (.int vsc), .val (.int (Int32.ofNat i)), .val (.int cc)] [(.int (Int32.ofNat sg)), (.ref va)])) _
          refine XS.iconst X27.here hx rfl (hb hby d9_66) ?_
          show Steps p.tables e below (T27.setTop (mkF m 67 #[.val (.ref va), .val (.ref vt), .val (.int (Int32.ofNat ne)), .val (.int vsc), .val (.int (Int32.ofNat i)), .val (.int cc)] [(.int (1 : Int32)), (.int (Int32.ofNat sg)), (.ref va)])) _
          refine XS.iadd X27.here hx rfl (hb hby d9_67) rfl ?_
          show Steps p.tables e below (T27.setTop (mkF m 68 #[.val (.ref va), .val (.ref vt), .val (.int (Int32.ofNat ne)), .val (.int vsc), .val (.int (Int32.ofNat i)), .val (.int cc)] [(.int ((Int32.ofNat sg) + (1 : Int32))), (.ref va)])) _
          refine st28 _ ?_
          show Steps p.tables e below (T28.setTop (mkF m 71 #[.val (.ref va), .val (.ref vt), .val (.int (Int32.ofNat ne)), .val (.int vsc), .val (.int (Int32.ofNat i)), .val (.int cc)] [])) _
          refine XS.aloadN X28.here hx rfl (hb hby d9_71) rfl rfl ?_
          show Steps p.tables e below (T28.setTop (mkF m 72 #[.val (.ref va), .val (.ref vt), .val (.int (Int32.ofNat ne)), .val (.int vsc), .val (.int (Int32.ofNat i)), .val (.int cc)] [(.ref va)])) _
          refine st34 _ ?_
          show Steps p.tables e below (T34.setTop (mkF m 75 #[.val (.ref va), .val (.ref vt), .val (.int (Int32.ofNat ne)), .val (.int vsc), .val (.int (Int32.ofNat i)), .val (.int cc)] [(.int (Int32.ofNat (sg + 1)))])) _
          refine XS.bipush X34.here hx rfl (hb hby d9_75) ?_
          show Steps p.tables e below (T34.setTop (mkF m 77 #[.val (.ref va), .val (.ref vt), .val (.int (Int32.ofNat ne)), .val (.int vsc), .val (.int (Int32.ofNat i)), .val (.int cc)] [(.int (38 : Int32)), (.int (Int32.ofNat (sg + 1)))])) _
          refine XS.icmpYes X34.here hx rfl (pc0 := 77) (pc' := 81) rfl (hb hby d9_77) rfl (flt ((fun q => absurd ((own_lt32 (i := 38) (by omega) (by omega)).mp q) (by omega)) : ¬ ((38 : Int32) < (Int32.ofNat (sg + 1))))).2.2.2 (by decide) (by decide) ?_
          show Steps p.tables e below (T34.setTop (mkF m 81 #[.val (.ref va), .val (.ref vt), .val (.int (Int32.ofNat ne)), .val (.int vsc), .val (.int (Int32.ofNat i)), .val (.int cc)] [])) _
          refine XS.aloadN X34.here hx rfl (hb hby d9_81) rfl rfl ?_
          show Steps p.tables e below (T34.setTop (mkF m 82 #[.val (.ref va), .val (.ref vt), .val (.int (Int32.ofNat ne)), .val (.int vsc), .val (.int (Int32.ofNat i)), .val (.int cc)] [(.ref va)])) _
          refine XS.iload X34.here hx rfl (hb hby d9_82) rfl ?_
          show Steps p.tables e below (T34.setTop (mkF m 84 #[.val (.ref va), .val (.ref vt), .val (.int (Int32.ofNat ne)), .val (.int vsc), .val (.int (Int32.ofNat i)), .val (.int cc)] [(.int cc), (.ref va)])) _
          refine XS.bipush X34.here hx rfl (hb hby d9_84) ?_
          show Steps p.tables e below (T34.setTop (mkF m 86 #[.val (.ref va), .val (.ref vt), .val (.int (Int32.ofNat ne)), .val (.int vsc), .val (.int (Int32.ofNat i)), .val (.int cc)] [(.int (48 : Int32)), (.int cc), (.ref va)])) _
          refine XS.isub X34.here hx rfl (hb hby d9_86) rfl ?_
          show Steps p.tables e below (T34.setTop (mkF m 87 #[.val (.ref va), .val (.ref vt), .val (.int (Int32.ofNat ne)), .val (.int vsc), .val (.int (Int32.ofNat i)), .val (.int cc)] [(.int (cc - (48 : Int32))), (.ref va)])) _
          refine st35.trans ?_
          show Steps p.tables e below (T35.setTop (mkF m 90 #[.val (.ref va), .val (.ref vt), .val (.int (Int32.ofNat ne)), .val (.int vsc), .val (.int (Int32.ofNat i)), .val (.int cc)] [])) _
          refine XS.iinc X35.here hx rfl (hb hby d9_90) rfl (l' := #[.val (.ref va), .val (.ref vt), .val (.int (Int32.ofNat ne)), .val (.int vsc), .val (.int ((Int32.ofNat i) + (1 : Int32))), .val (.int cc)]) rfl ?_
          show Steps p.tables e below (T35.setTop (mkF m 93 #[.val (.ref va), .val (.ref vt), .val (.int (Int32.ofNat ne)), .val (.int vsc), .val (.int ((Int32.ofNat i) + (1 : Int32))), .val (.int cc)] [])) _
          refine XS.goto X35.here hx rfl (pc0 := 93) (pc' := 23) rfl (hb hby d9_93) (by decide) (by decide) ?_
          exact kt
        rw [own_one] at pre37
        have hnl := own_low hl0 hl1 hdig1 hdig2 (by omega)
        obtain ⟨T38, h38, locs38, pcx38, Lx38, X38, e38, N38, K38, po38_0, po38_1, po38_2, po38_3, po38_4, run38⟩ := ih (i + 1) (sg + 1) ((((10 : Int64) * lw) + ((cc - (48 : Int32)).toInt64))) (.val (.int cc)) T35 _ T35.heap X35 rfl N35 Z35 (by omega) (by omega) (by omega) hnl.1 hnl.2 (One.val rfl) (KS.trans K35 (allS (Or.inl (List.mem_of_getElem? (i := 0) rfl)) all0)) f35_0 f35_1 f35_2 f35_3 f35_4
        exact ⟨T38, h38, locs38, pcx38, Lx38, X38, e38, N38, K35.trans K38 (allS (Or.inl (List.mem_of_getElem? (i := 0) rfl)) all0), po38_0, po38_1, po38_2, (by rw [own_rdk, if_neg (fun q => hc5 (hcc.trans q)), if_neg (fun q => hc10 ((own_eq0 (by omega)).mpr q.1)), if_neg (by omega)]; exact po38_3), po38_4, fun t kt => pre37 t (run38 t kt)⟩
theorem d9_0 : decode prog_7_method_2_code 0 = .ok (.aload_n 0, 1) := by decide +kernel
theorem d9_1 : decode prog_7_method_2_code 1 = .ok (.lconst 0, 1) := by decide +kernel
theorem d9_2 : decode prog_7_method_2_code 2 = .ok (.putfield 9, 3) := by decide +kernel
theorem d9_5 : decode prog_7_method_2_code 5 = .ok (.aload_n 0, 1) := by decide +kernel
theorem d9_6 : decode prog_7_method_2_code 6 = .ok (.lconst 0, 1) := by decide +kernel
theorem d9_7 : decode prog_7_method_2_code 7 = .ok (.putfield 15, 3) := by decide +kernel
theorem d9_10 : decode prog_7_method_2_code 10 = .ok (.aload_n 0, 1) := by decide +kernel
theorem d9_11 : decode prog_7_method_2_code 11 = .ok (.iload_n 3, 1) := by decide +kernel
theorem d9_12 : decode prog_7_method_2_code 12 = .ok (.putfield 18, 3) := by decide +kernel
theorem d9_15 : decode prog_7_method_2_code 15 = .ok (.aload_n 0, 1) := by decide +kernel
theorem d9_16 : decode prog_7_method_2_code 16 = .ok (.iconst 0, 1) := by decide +kernel
theorem d9_17 : decode prog_7_method_2_code 17 = .ok (.putfield 22, 3) := by decide +kernel
theorem d9_20 : decode prog_7_method_2_code 20 = .ok (.iconst 0, 1) := by decide +kernel
theorem d9_21 : decode prog_7_method_2_code 21 = .ok (.istore 4, 2) := by decide +kernel
theorem ef_rm9 (m : MethodId) (x0 : Addr) (x1 : Addr) (x2 : Int32) (x3 : Int32) : entryFrame m #[(.ref x0), (.ref x1), (.int x2), (.int x3)] 6 = mkF m 0 #[.val (.ref x0), .val (.ref x1), .val (.int x2), .val (.int x3), .unset, .unset] [] := by first | (simp [entryFrame, mkF, argsToLocals, Value.category]; done) | rfl
def Q9 (Z : State) (va : Addr) (vt : Addr) (vsc : Int32) (vb : Addr) (kb : ClassId) (NN : Int32) (cs : List Int32) (vz : Int32) (fm : Value) (ne : Nat) (u0 u1 u2 u3 : Value) (h0 : Heap) (n0 : Nat) (v : Option Value) (h : Heap) (L : List Loc) : Prop := v = none ∧ Fr n0 L ∧ Keep h0 h [va] ∧ Exa Z h va "com/example/paniere/paniere/CompactDecimal$Digits" ∧ ∃ uh ul : Int64, Fld Z h va "com/example/paniere/paniere/CompactDecimal$Digits" "high" "J" (.long uh) ∧ Fld Z h va "com/example/paniere/paniere/CompactDecimal$Digits" "low" "J" (.long ul) ∧ Fld Z h va "com/example/paniere/paniere/CompactDecimal$Digits" "scale" "I" (.int vsc) ∧ Fld Z h va "com/example/paniere/paniere/CompactDecimal$Digits" "significant" "I" (.int (Int32.ofNat (own_rdk cs ne 0 0)))
set_option maxRecDepth 65536 in
set_option maxHeartbeats 40000000 in
theorem rm9 (l : Launch) (Z : State) (a0 : Array Value) (hw : ∀ d ∈ tables_1, d.before a0 Z = true) (ws : List Jvm.Cond) (va : Addr) (vt : Addr) (vsc : Int32) (vb : Addr) (kb : ClassId) (NN : Int32) (cs : List Int32) (vz : Int32) (fm : Value) (ne : Nat) (u0 u1 u2 u3 : Value) (h0 : Heap) (n0 : Nat) (Z0 : n0 ≤ h0.size) (Ea : Exa Z h0 va "com/example/paniere/paniere/CompactDecimal$Digits") (Fu0 : Fld Z h0 va "com/example/paniere/paniere/CompactDecimal$Digits" "high" "J" u0) (Fu1 : Fld Z h0 va "com/example/paniere/paniere/CompactDecimal$Digits" "low" "J" u1) (Fu2 : Fld Z h0 va "com/example/paniere/paniere/CompactDecimal$Digits" "scale" "I" u2) (Fu3 : Fld Z h0 va "com/example/paniere/paniere/CompactDecimal$Digits" "significant" "I" u3) (Et : Exa Z h0 vt "java/lang/String") (Ftv : Fld Z h0 vt "java/lang/String" "value" "[B" (.ref vb)) (Ftc : Fld Z h0 vt "java/lang/String" "coder" "B" (.int (0 : Int32))) (Vb : Arv Z h0 vb kb .byte NN (List.map Value.int (List.map (fun c => c.toInt8.toInt32) cs)) (.int (0 : Int32))) (S_cs : Sta Z h0 "java/lang/String" "COMPACT_STRINGS" "Z" (.int vz)) (S_fm : Sta Z h0 "jdk/internal/util/Preconditions" "SIOOBE_FORMATTER" "Ljava/util/function/BiFunction;" fm) (g_va : n0 ≤ va) (nat_ : va ≠ vt) (nab_ : va ≠ vb) (hcd : StrChars.Road.CodA cs 0 NN (List.map Value.int (List.map (fun c => c.toInt8.toInt32) cs))) (hbd : ∀ c ∈ cs, ¬ c < 0 ∧ ¬ (65535 : Int32) < c) (hcs : ¬ vz = 0) (rfm : fm.isRef = true) (hl4 : cs.length ≤ 4000) (hnc : ne ≤ cs.length) (hne : ne ≤ 4) (hdg : ∀ (i : Nat) (x : Int32), x = cs.getD i 0 → ¬ x = (46 : Int32) → i < ne → ¬ x < (48 : Int32) ∧ ¬ (57 : Int32) < x) :
    MetFree l (⟨"com/example/paniere/paniere/CompactDecimal$Digits", "read", "(Ljava/lang/String;II)V"⟩ : MethodName) (head1 (Jvm.Cond.code (⟨"com/example/paniere/paniere/CompactDecimal$Digits", "read", "(Ljava/lang/String;II)V"⟩ : MethodName) prog_7_method_2_code 6 none :: ws) ({ frames := 4, cells := 0, slots := 0, locals := 53 } : Room)) (fun a U => a = #[(.ref va), (.ref vt), (.int (Int32.ofNat ne)), (.int vsc)] ∧ Z.Warmed39 U.vm ∧ U.heap = h0) (fun _ _ _ _ _ => True) (fun _ U o U' => ∃ v L, o = .returned v ∧ Q9 Z va vt vsc vb kb NN cs vz fm ne u0 u1 u2 u3 h0 n0 v U'.heap L ∧ FrameEnd U o U' L ({ frames := 4, cells := 0, slots := 0, locals := 53 } : Room).cells ({ frames := 4, cells := 0, slots := 0, locals := 53 } : Room).slots) := by
  refine MetFree.of_bodySF (plainFor_of_name pn_29) hisR ?_
  intro p e s m args below meth c s₁ Bd hml0 hP hK
  obtain ⟨rfl, hZ, hh⟩ := hP
  have hx := Bd.exec
  have hby := Bd.bytes
  have hml : c.maxLocals = 6 := hml0
  have hown : s.vm.findClass "com/example/paniere/paniere/CompactDecimal$Digits" = some m.cls := findClass_of_methodNamed Bd.named
  have hnm := (name_of_methodNamed Bd.named Bd.method).1
  have X0 : Stand p l e ({ frames := 4, cells := 0, slots := 0, locals := 53 } : Room) s m #[(.ref va), (.ref vt), (.int (Int32.ofNat ne)), (.int vsc)] below meth c s₁ [] 0 0 := Stand.of_body Bd
  have e0 : s₁.heap = h0 := by rw [← hh, Bd.state]; rfl
  have N0 := Fr.nil n0
  have pre0 : ∀ t, Steps p.tables e below (s₁.setTop (mkF m 0 #[.val (.ref va), .val (.ref vt), .val (.int (Int32.ofNat ne)), .val (.int vsc), .unset, .unset] [])) t → Steps p.tables e below (s₁.setTop (entryFrame m #[(.ref va), (.ref vt), (.int (Int32.ofNat ne)), (.int vsc)] 6)) t := fun t k => castTop (ef_rm9 m va vt (Int32.ofNat ne) vsc) k
  obtain ⟨T1, h1, X1, e1, W1, st1⟩ := putF X0 hx hZ hown (host := "") (Or.inl (hw _ (List.mem_of_getElem? (i := 46) rfl))) Via.refl e0 Fu0 Ea (Or.inl (hw _ (List.mem_of_getElem? (i := 47) rfl))) (hw _ (List.mem_of_getElem? (i := 35) rfl)) (ty := .long) (by decide) rfl rfl (g := (mkF m 2 #[.val (.ref va), .val (.ref vt), .val (.int (Int32.ofNat ne)), .val (.int vsc), .unset, .unset] [(.long (0 : Int64)), (.ref va)])) rfl rfl (hb hby d9_2)
  have Fw1 : Fld Z h1 va "com/example/paniere/paniere/CompactDecimal$Digits" "high" "J" (.long (0 : Int64)) := Fu0.same W1
  have c2 : Exa Z h1 va "com/example/paniere/paniere/CompactDecimal$Digits" := Ea.wr W1
  have c3 : Fld Z h1 va "com/example/paniere/paniere/CompactDecimal$Digits" "low" "J" u1 := Fu1.other W1 (Or.inr (slot_ne (Or.inl (hw _ (List.mem_of_getElem? (i := 49) rfl))) (Or.inl (hw _ (List.mem_of_getElem? (i := 47) rfl))) (by decide) (t := .long) (t' := .long) (by decide) (by decide)))
  have c4 : Fld Z h1 va "com/example/paniere/paniere/CompactDecimal$Digits" "scale" "I" u2 := Fu2.other W1 (Or.inr (slot_ne (Or.inl (hw _ (List.mem_of_getElem? (i := 51) rfl))) (Or.inl (hw _ (List.mem_of_getElem? (i := 47) rfl))) (by decide) (t := .int) (t' := .long) (by decide) (by decide)))
  have c5 : Fld Z h1 va "com/example/paniere/paniere/CompactDecimal$Digits" "significant" "I" u3 := Fu3.other W1 (Or.inr (slot_ne (Or.inl (hw _ (List.mem_of_getElem? (i := 53) rfl))) (Or.inl (hw _ (List.mem_of_getElem? (i := 47) rfl))) (by decide) (t := .int) (t' := .long) (by decide) (by decide)))
  have c6 : Exa Z h1 vt "java/lang/String" := Et.wr W1
  have c7 : Fld Z h1 vt "java/lang/String" "value" "[B" (.ref vb) := Ftv.other W1 (Or.inl (Ne.symm nat_))
  have c8 : Fld Z h1 vt "java/lang/String" "coder" "B" (.int (0 : Int32)) := Ftc.other W1 (Or.inl (Ne.symm nat_))
  have c9 : Arv Z h1 vb kb .byte NN (List.map Value.int (List.map (fun c => c.toInt8.toInt32) cs)) (.int (0 : Int32)) := Vb.other W1 (Ne.symm nab_)
  have c10 : Sta Z h1 "java/lang/String" "COMPACT_STRINGS" "Z" (.int vz) := S_cs.wr W1
  have c11 : Sta Z h1 "jdk/internal/util/Preconditions" "SIOOBE_FORMATTER" "Ljava/util/function/BiFunction;" fm := S_fm.wr W1
  have Z1 : n0 ≤ h1.size := Nat.le_trans Z0 (Keep.of_wr W1).1
  have N1 := Fr.snoc X1 N0 g_va
  have K1 : Keep h0 h1 [va] := (Keep.refl h0 [va]).wr W1 (Or.inl (List.mem_of_getElem? (i := 0) rfl))
  obtain ⟨T12, h12, X12, e12, W12, st12⟩ := putF X1 hx hZ hown (host := "") (Or.inl (hw _ (List.mem_of_getElem? (i := 48) rfl))) Via.refl e1 c3 c2 (Or.inl (hw _ (List.mem_of_getElem? (i := 49) rfl))) (hw _ (List.mem_of_getElem? (i := 35) rfl)) (ty := .long) (by decide) rfl rfl (g := (mkF m 7 #[.val (.ref va), .val (.ref vt), .val (.int (Int32.ofNat ne)), .val (.int vsc), .unset, .unset] [(.long (0 : Int64)), (.ref va)])) rfl rfl (hb hby d9_7)
  have Fw12 : Fld Z h12 va "com/example/paniere/paniere/CompactDecimal$Digits" "low" "J" (.long (0 : Int64)) := c3.same W12
  have c13 : Exa Z h12 va "com/example/paniere/paniere/CompactDecimal$Digits" := c2.wr W12
  have c14 : Fld Z h12 va "com/example/paniere/paniere/CompactDecimal$Digits" "high" "J" (.long (0 : Int64)) := Fw1.other W12 (Or.inr (slot_ne (Or.inl (hw _ (List.mem_of_getElem? (i := 47) rfl))) (Or.inl (hw _ (List.mem_of_getElem? (i := 49) rfl))) (by decide) (t := .long) (t' := .long) (by decide) (by decide)))
  have c15 : Fld Z h12 va "com/example/paniere/paniere/CompactDecimal$Digits" "scale" "I" u2 := c4.other W12 (Or.inr (slot_ne (Or.inl (hw _ (List.mem_of_getElem? (i := 51) rfl))) (Or.inl (hw _ (List.mem_of_getElem? (i := 49) rfl))) (by decide) (t := .int) (t' := .long) (by decide) (by decide)))
  have c16 : Fld Z h12 va "com/example/paniere/paniere/CompactDecimal$Digits" "significant" "I" u3 := c5.other W12 (Or.inr (slot_ne (Or.inl (hw _ (List.mem_of_getElem? (i := 53) rfl))) (Or.inl (hw _ (List.mem_of_getElem? (i := 49) rfl))) (by decide) (t := .int) (t' := .long) (by decide) (by decide)))
  have c17 : Exa Z h12 vt "java/lang/String" := c6.wr W12
  have c18 : Fld Z h12 vt "java/lang/String" "value" "[B" (.ref vb) := c7.other W12 (Or.inl (Ne.symm nat_))
  have c19 : Fld Z h12 vt "java/lang/String" "coder" "B" (.int (0 : Int32)) := c8.other W12 (Or.inl (Ne.symm nat_))
  have c20 : Arv Z h12 vb kb .byte NN (List.map Value.int (List.map (fun c => c.toInt8.toInt32) cs)) (.int (0 : Int32)) := c9.other W12 (Ne.symm nab_)
  have c21 : Sta Z h12 "java/lang/String" "COMPACT_STRINGS" "Z" (.int vz) := c10.wr W12
  have c22 : Sta Z h12 "jdk/internal/util/Preconditions" "SIOOBE_FORMATTER" "Ljava/util/function/BiFunction;" fm := c11.wr W12
  have Z12 : n0 ≤ h12.size := Nat.le_trans Z1 (Keep.of_wr W12).1
  have N12 := Fr.snoc X12 N1 g_va
  have K12 : Keep h0 h12 [va] := K1.wr W12 (Or.inl (List.mem_of_getElem? (i := 0) rfl))
  obtain ⟨T23, h23, X23, e23, W23, st23⟩ := putF X12 hx hZ hown (host := "") (Or.inl (hw _ (List.mem_of_getElem? (i := 50) rfl))) Via.refl e12 c15 c13 (Or.inl (hw _ (List.mem_of_getElem? (i := 51) rfl))) (hw _ (List.mem_of_getElem? (i := 35) rfl)) (ty := .int) (by decide) rfl rfl (g := (mkF m 12 #[.val (.ref va), .val (.ref vt), .val (.int (Int32.ofNat ne)), .val (.int vsc), .unset, .unset] [(.int vsc), (.ref va)])) rfl rfl (hb hby d9_12)
  have Fw23 : Fld Z h23 va "com/example/paniere/paniere/CompactDecimal$Digits" "scale" "I" (.int vsc) := c15.same W23
  have c24 : Exa Z h23 va "com/example/paniere/paniere/CompactDecimal$Digits" := c13.wr W23
  have c25 : Fld Z h23 va "com/example/paniere/paniere/CompactDecimal$Digits" "high" "J" (.long (0 : Int64)) := c14.other W23 (Or.inr (slot_ne (Or.inl (hw _ (List.mem_of_getElem? (i := 47) rfl))) (Or.inl (hw _ (List.mem_of_getElem? (i := 51) rfl))) (by decide) (t := .long) (t' := .int) (by decide) (by decide)))
  have c26 : Fld Z h23 va "com/example/paniere/paniere/CompactDecimal$Digits" "low" "J" (.long (0 : Int64)) := Fw12.other W23 (Or.inr (slot_ne (Or.inl (hw _ (List.mem_of_getElem? (i := 49) rfl))) (Or.inl (hw _ (List.mem_of_getElem? (i := 51) rfl))) (by decide) (t := .long) (t' := .int) (by decide) (by decide)))
  have c27 : Fld Z h23 va "com/example/paniere/paniere/CompactDecimal$Digits" "significant" "I" u3 := c16.other W23 (Or.inr (slot_ne (Or.inl (hw _ (List.mem_of_getElem? (i := 53) rfl))) (Or.inl (hw _ (List.mem_of_getElem? (i := 51) rfl))) (by decide) (t := .int) (t' := .int) (by decide) (by decide)))
  have c28 : Exa Z h23 vt "java/lang/String" := c17.wr W23
  have c29 : Fld Z h23 vt "java/lang/String" "value" "[B" (.ref vb) := c18.other W23 (Or.inl (Ne.symm nat_))
  have c30 : Fld Z h23 vt "java/lang/String" "coder" "B" (.int (0 : Int32)) := c19.other W23 (Or.inl (Ne.symm nat_))
  have c31 : Arv Z h23 vb kb .byte NN (List.map Value.int (List.map (fun c => c.toInt8.toInt32) cs)) (.int (0 : Int32)) := c20.other W23 (Ne.symm nab_)
  have c32 : Sta Z h23 "java/lang/String" "COMPACT_STRINGS" "Z" (.int vz) := c21.wr W23
  have c33 : Sta Z h23 "jdk/internal/util/Preconditions" "SIOOBE_FORMATTER" "Ljava/util/function/BiFunction;" fm := c22.wr W23
  have Z23 : n0 ≤ h23.size := Nat.le_trans Z12 (Keep.of_wr W23).1
  have N23 := Fr.snoc X23 N12 g_va
  have K23 : Keep h0 h23 [va] := K12.wr W23 (Or.inl (List.mem_of_getElem? (i := 0) rfl))
  obtain ⟨T34, h34, X34, e34, W34, st34⟩ := putF X23 hx hZ hown (host := "") (Or.inl (hw _ (List.mem_of_getElem? (i := 52) rfl))) Via.refl e23 c27 c24 (Or.inl (hw _ (List.mem_of_getElem? (i := 53) rfl))) (hw _ (List.mem_of_getElem? (i := 35) rfl)) (ty := .int) (by decide) rfl rfl (g := (mkF m 17 #[.val (.ref va), .val (.ref vt), .val (.int (Int32.ofNat ne)), .val (.int vsc), .unset, .unset] [(.int (0 : Int32)), (.ref va)])) rfl rfl (hb hby d9_17)
  have Fw34 : Fld Z h34 va "com/example/paniere/paniere/CompactDecimal$Digits" "significant" "I" (.int (0 : Int32)) := c27.same W34
  have c35 : Exa Z h34 va "com/example/paniere/paniere/CompactDecimal$Digits" := c24.wr W34
  have c36 : Fld Z h34 va "com/example/paniere/paniere/CompactDecimal$Digits" "high" "J" (.long (0 : Int64)) := c25.other W34 (Or.inr (slot_ne (Or.inl (hw _ (List.mem_of_getElem? (i := 47) rfl))) (Or.inl (hw _ (List.mem_of_getElem? (i := 53) rfl))) (by decide) (t := .long) (t' := .int) (by decide) (by decide)))
  have c37 : Fld Z h34 va "com/example/paniere/paniere/CompactDecimal$Digits" "low" "J" (.long (0 : Int64)) := c26.other W34 (Or.inr (slot_ne (Or.inl (hw _ (List.mem_of_getElem? (i := 49) rfl))) (Or.inl (hw _ (List.mem_of_getElem? (i := 53) rfl))) (by decide) (t := .long) (t' := .int) (by decide) (by decide)))
  have c38 : Fld Z h34 va "com/example/paniere/paniere/CompactDecimal$Digits" "scale" "I" (.int vsc) := Fw23.other W34 (Or.inr (slot_ne (Or.inl (hw _ (List.mem_of_getElem? (i := 51) rfl))) (Or.inl (hw _ (List.mem_of_getElem? (i := 53) rfl))) (by decide) (t := .int) (t' := .int) (by decide) (by decide)))
  have c39 : Exa Z h34 vt "java/lang/String" := c28.wr W34
  have c40 : Fld Z h34 vt "java/lang/String" "value" "[B" (.ref vb) := c29.other W34 (Or.inl (Ne.symm nat_))
  have c41 : Fld Z h34 vt "java/lang/String" "coder" "B" (.int (0 : Int32)) := c30.other W34 (Or.inl (Ne.symm nat_))
  have c42 : Arv Z h34 vb kb .byte NN (List.map Value.int (List.map (fun c => c.toInt8.toInt32) cs)) (.int (0 : Int32)) := c31.other W34 (Ne.symm nab_)
  have c43 : Sta Z h34 "java/lang/String" "COMPACT_STRINGS" "Z" (.int vz) := c32.wr W34
  have c44 : Sta Z h34 "jdk/internal/util/Preconditions" "SIOOBE_FORMATTER" "Ljava/util/function/BiFunction;" fm := c33.wr W34
  have Z34 : n0 ≤ h34.size := Nat.le_trans Z23 (Keep.of_wr W34).1
  have N34 := Fr.snoc X34 N23 g_va
  have K34 : Keep h0 h34 [va] := K23.wr W34 (Or.inl (List.mem_of_getElem? (i := 0) rfl))
  have pre45 : ∀ t, Steps p.tables e below (T34.setTop (mkF m 23 #[.val (.ref va), .val (.ref vt), .val (.int (Int32.ofNat ne)), .val (.int vsc), .val (.int (0 : Int32)), .unset] [])) t → Steps p.tables e below (s₁.setTop (entryFrame m #[(.ref va), (.ref vt), (.int (Int32.ofNat ne)), (.int vsc)] 6)) t := by
    intro t kt
    refine pre0 t ?_
    show Steps p.tables e below (s₁.setTop (mkF m 0 #[.val (.ref va), .val (.ref vt), .val (.int (Int32.ofNat ne)), .val (.int vsc), .unset, .unset] [])) _
    refine XS.aloadN X0.here hx rfl (hb hby d9_0) rfl rfl ?_
    show Steps p.tables e below (s₁.setTop (mkF m 1 #[.val (.ref va), .val (.ref vt), .val (.int (Int32.ofNat ne)), .val (.int vsc), .unset, .unset] [(.ref va)])) _
    refine XS.lconst X0.here hx rfl (hb hby d9_1) ?_
    show Steps p.tables e below (s₁.setTop (mkF m 2 #[.val (.ref va), .val (.ref vt), .val (.int (Int32.ofNat ne)), .val (.int vsc), .unset, .unset] [(.long (0 : Int64)), (.ref va)])) _
    refine st1 _ ?_
    show Steps p.tables e below (T1.setTop (mkF m 5 #[.val (.ref va), .val (.ref vt), .val (.int (Int32.ofNat ne)), .val (.int vsc), .unset, .unset] [])) _
    refine XS.aloadN X1.here hx rfl (hb hby d9_5) rfl rfl ?_
    show Steps p.tables e below (T1.setTop (mkF m 6 #[.val (.ref va), .val (.ref vt), .val (.int (Int32.ofNat ne)), .val (.int vsc), .unset, .unset] [(.ref va)])) _
    refine XS.lconst X1.here hx rfl (hb hby d9_6) ?_
    show Steps p.tables e below (T1.setTop (mkF m 7 #[.val (.ref va), .val (.ref vt), .val (.int (Int32.ofNat ne)), .val (.int vsc), .unset, .unset] [(.long (0 : Int64)), (.ref va)])) _
    refine st12 _ ?_
    show Steps p.tables e below (T12.setTop (mkF m 10 #[.val (.ref va), .val (.ref vt), .val (.int (Int32.ofNat ne)), .val (.int vsc), .unset, .unset] [])) _
    refine XS.aloadN X12.here hx rfl (hb hby d9_10) rfl rfl ?_
    show Steps p.tables e below (T12.setTop (mkF m 11 #[.val (.ref va), .val (.ref vt), .val (.int (Int32.ofNat ne)), .val (.int vsc), .unset, .unset] [(.ref va)])) _
    refine XS.iloadN X12.here hx rfl (hb hby d9_11) rfl ?_
    show Steps p.tables e below (T12.setTop (mkF m 12 #[.val (.ref va), .val (.ref vt), .val (.int (Int32.ofNat ne)), .val (.int vsc), .unset, .unset] [(.int vsc), (.ref va)])) _
    refine st23 _ ?_
    show Steps p.tables e below (T23.setTop (mkF m 15 #[.val (.ref va), .val (.ref vt), .val (.int (Int32.ofNat ne)), .val (.int vsc), .unset, .unset] [])) _
    refine XS.aloadN X23.here hx rfl (hb hby d9_15) rfl rfl ?_
    show Steps p.tables e below (T23.setTop (mkF m 16 #[.val (.ref va), .val (.ref vt), .val (.int (Int32.ofNat ne)), .val (.int vsc), .unset, .unset] [(.ref va)])) _
    refine XS.iconst X23.here hx rfl (hb hby d9_16) ?_
    show Steps p.tables e below (T23.setTop (mkF m 17 #[.val (.ref va), .val (.ref vt), .val (.int (Int32.ofNat ne)), .val (.int vsc), .unset, .unset] [(.int (0 : Int32)), (.ref va)])) _
    refine st34 _ ?_
    show Steps p.tables e below (T34.setTop (mkF m 20 #[.val (.ref va), .val (.ref vt), .val (.int (Int32.ofNat ne)), .val (.int vsc), .unset, .unset] [])) _
    refine XS.iconst X34.here hx rfl (hb hby d9_20) ?_
    show Steps p.tables e below (T34.setTop (mkF m 21 #[.val (.ref va), .val (.ref vt), .val (.int (Int32.ofNat ne)), .val (.int vsc), .unset, .unset] [(.int (0 : Int32))])) _
    refine XS.istore X34.here hx rfl (hb hby d9_21) rfl (l' := #[.val (.ref va), .val (.ref vt), .val (.int (Int32.ofNat ne)), .val (.int vsc), .val (.int (0 : Int32)), .unset]) rfl ?_
    exact kt
  obtain ⟨T46, h46, L46, pcx, Lx, X46, e46, N46, K46, pE46, ⟨uh, ul, pH46, pL46⟩, pS46, pG46, hd46, run46⟩ := own_rloop hx hZ hw hby hml hown va vt vb kb NN cs vz fm vsc ne h34 c35 c39 c40 c41 c42 c43 c44  g_va nat_ nab_ hcd hbd hcs rfm hl4 hnc hne hdg ne 0 0 (0 : Int64) .unset T34 _ h34 X34 e34 N34 Z34 (by omega) (by omega) (by omega) (by decide) (by decide) One.u (Keep.refl _ _) c35 c36 c37 c38 Fw34
  have KK46 : Keep h0 h46 [va] := K34.trans K46 (allS (Or.inl (List.mem_of_getElem? (i := 0) rfl)) all0)
  obtain ⟨fs, hr, hrun, hended, hW, hsame⟩ := X46.leave (v := none) (fun _ => rfl)
  refine ⟨_, _, pre45 _ ?_, hrun, hended, _, _, rfl, ?_, ⟨_, rfl⟩, hW, hsame.mono (by decide) (by decide)⟩
  ·
    show Steps p.tables e below (T34.setTop (mkF m 23 #[.val (.ref va), .val (.ref vt), .val (.int (Int32.ofNat ne)), .val (.int vsc), .val (.int (0 : Int32)), .unset] [])) _
    refine run46 _ ?_
    exact X46.returnOut hx Bd.returns hd46 hr
  ·
    show Q9 Z va vt vsc vb kb NN cs vz fm ne u0 u1 u2 u3 h0 n0 _ T46.heap _
    rw [e46]
    exact ⟨rfl, N46, KK46, pE46, uh, ul, pH46, pL46, pS46, pG46⟩
theorem d10_0 : decode prog_7_method_3_code 0 = .ok (.aload_n 0, 1) := by decide +kernel
theorem d10_1 : decode prog_7_method_3_code 1 = .ok (.getfield 22, 3) := by decide +kernel
theorem d10_4 : decode prog_7_method_3_code 4 = .ok (.ifCond .ne 7, 3) := by decide +kernel
theorem d10_7 : decode prog_7_method_3_code 7 = .ok (.iconst 1, 1) := by decide +kernel
theorem d10_8 : decode prog_7_method_3_code 8 = .ok (.goto 4, 3) := by decide +kernel
theorem d10_12 : decode prog_7_method_3_code 12 = .ok (.ireturn, 1) := by decide +kernel
theorem d10_11 : decode prog_7_method_3_code 11 = .ok (.iconst 0, 1) := by decide +kernel
theorem ef_rm10 (m : MethodId) (x0 : Addr) : entryFrame m #[(.ref x0)] 1 = mkF m 0 #[.val (.ref x0)] [] := by first | (simp [entryFrame, mkF, argsToLocals, Value.category]; done) | rfl
def own_z (va : Addr) (vg : Int32) : Int32 := (if vg = (0 : Int32) then (1 : Int32) else (0 : Int32))
def Q10 (Z : State) (va : Addr) (vg : Int32) (h0 : Heap) (n0 : Nat) (v : Option Value) (h : Heap) (L : List Loc) : Prop := v = some (.int (own_z va vg)) ∧ Fr n0 L ∧ h = h0
set_option maxRecDepth 65536 in
set_option maxHeartbeats 40000000 in
theorem rm10 (l : Launch) (Z : State) (a0 : Array Value) (hw : ∀ d ∈ tables_1, d.before a0 Z = true) (ws : List Jvm.Cond) (va : Addr) (vg : Int32) (h0 : Heap) (n0 : Nat) (Z0 : n0 ≤ h0.size) (Fg : Fld Z h0 va "com/example/paniere/paniere/CompactDecimal$Digits" "significant" "I" (.int vg)) :
    MetFree l (⟨"com/example/paniere/paniere/CompactDecimal$Digits", "isZero", "()Z"⟩ : MethodName) (head1 (Jvm.Cond.code (⟨"com/example/paniere/paniere/CompactDecimal$Digits", "isZero", "()Z"⟩ : MethodName) prog_7_method_3_code 1 (some .boolean) :: ws) ({ frames := 0, cells := 0, slots := 0, locals := 0 } : Room)) (fun a U => a = #[(.ref va)] ∧ Z.Warmed39 U.vm ∧ U.heap = h0) (fun _ _ _ _ _ => True) (fun _ U o U' => ∃ v L, o = .returned v ∧ Q10 Z va vg h0 n0 v U'.heap L ∧ FrameEnd U o U' L ({ frames := 0, cells := 0, slots := 0, locals := 0 } : Room).cells ({ frames := 0, cells := 0, slots := 0, locals := 0 } : Room).slots) := by
  refine MetFree.of_bodySF (plainFor_of_name pn_29) hisR ?_
  intro p e s m args below meth c s₁ Bd hml0 hP hK
  obtain ⟨rfl, hZ, hh⟩ := hP
  have hx := Bd.exec
  have hby := Bd.bytes
  have hml : c.maxLocals = 1 := hml0
  have hown : s.vm.findClass "com/example/paniere/paniere/CompactDecimal$Digits" = some m.cls := findClass_of_methodNamed Bd.named
  have hnm := (name_of_methodNamed Bd.named Bd.method).1
  have X0 : Stand p l e ({ frames := 0, cells := 0, slots := 0, locals := 0 } : Room) s m #[(.ref va)] below meth c s₁ [] 0 0 := Stand.of_body Bd
  have e0 : s₁.heap = h0 := by rw [← hh, Bd.state]; rfl
  have N0 := Fr.nil n0
  have pre0 : ∀ t, Steps p.tables e below (s₁.setTop (mkF m 0 #[.val (.ref va)] [])) t → Steps p.tables e below (s₁.setTop (entryFrame m #[(.ref va)] 1)) t := fun t k => castTop (ef_rm10 m va) k
  obtain ⟨T1, X1, e1, st1⟩ := getF X0 hx hZ hown (host := "") (Or.inl (hw _ (List.mem_of_getElem? (i := 52) rfl))) Via.refl e0 Fg (g := (mkF m 1 #[.val (.ref va)] [(.ref va)])) rfl rfl (hb hby d10_1)
  have pre2 : ∀ t, Steps p.tables e below (T1.setTop (mkF m 4 #[.val (.ref va)] [(.int vg)])) t → Steps p.tables e below (s₁.setTop (entryFrame m #[(.ref va)] 1)) t := by
    intro t kt
    refine pre0 t ?_
    show Steps p.tables e below (s₁.setTop (mkF m 0 #[.val (.ref va)] [])) _
    refine XS.aloadN X0.here hx rfl (hb hby d10_0) rfl rfl ?_
    show Steps p.tables e below (s₁.setTop (mkF m 1 #[.val (.ref va)] [(.ref va)])) _
    refine st1 _ ?_
    exact kt
  by_cases hc3 : vg = (0 : Int32)
  ·
    obtain ⟨fs, hr, hrun, hended, hW, hsame⟩ := X1.leave (v := some (.int (1 : Int32))) (fun h => by rw [Bd.returns] at h; cases h)
    refine ⟨_, _, pre2 _ ?_, hrun, hended, _, _, rfl, ?_, ⟨_, rfl⟩, hW, hsame.mono (by decide) (by decide)⟩
    ·
      show Steps p.tables e below (T1.setTop (mkF m 4 #[.val (.ref va)] [(.int vg)])) _
      refine XS.ifNo X1.here hx rfl (hb hby d10_4) rfl ((if0 _ _).trans (teq (hc3 : vg = (0 : Int32))).2) ?_
      show Steps p.tables e below (T1.setTop (mkF m 7 #[.val (.ref va)] [])) _
      refine XS.iconst X1.here hx rfl (hb hby d10_7) ?_
      show Steps p.tables e below (T1.setTop (mkF m 8 #[.val (.ref va)] [(.int (1 : Int32))])) _
      refine XS.goto X1.here hx rfl (pc0 := 8) (pc' := 12) rfl (hb hby d10_8) (by decide) (by decide) ?_
      show Steps p.tables e below (T1.setTop (mkF m 12 #[.val (.ref va)] [(.int (1 : Int32))])) _
      exact retN X1 hx (t := .boolean) Bd.returns (by simp) (hb hby d10_12) hr
    ·
      show Q10 Z va vg h0 n0 _ T1.heap _
      rw [e1]
      have hv : (1 : Int32) = (own_z va vg) := by rw [own_z, if_pos hc3]
      exact ⟨(congrArg (fun z => some (Value.int z)) hv), N0, rfl⟩
  ·
    obtain ⟨fs, hr, hrun, hended, hW, hsame⟩ := X1.leave (v := some (.int (0 : Int32))) (fun h => by rw [Bd.returns] at h; cases h)
    refine ⟨_, _, pre2 _ ?_, hrun, hended, _, _, rfl, ?_, ⟨_, rfl⟩, hW, hsame.mono (by decide) (by decide)⟩
    ·
      show Steps p.tables e below (T1.setTop (mkF m 4 #[.val (.ref va)] [(.int vg)])) _
      refine XS.ifYes X1.here hx rfl (pc0 := 4) (pc' := 11) rfl (hb hby d10_4) rfl ((if0 _ _).trans (feq (hc3 : ¬ (vg = (0 : Int32)))).2) (by decide) (by decide) ?_
      show Steps p.tables e below (T1.setTop (mkF m 11 #[.val (.ref va)] [])) _
      refine XS.iconst X1.here hx rfl (hb hby d10_11) ?_
      show Steps p.tables e below (T1.setTop (mkF m 12 #[.val (.ref va)] [(.int (0 : Int32))])) _
      exact retN X1 hx (t := .boolean) Bd.returns (by simp) (hb hby d10_12) hr
    ·
      show Q10 Z va vg h0 n0 _ T1.heap _
      rw [e1]
      have hv : (0 : Int32) = (own_z va vg) := by rw [own_z, if_neg hc3]
      exact ⟨(congrArg (fun z => some (Value.int z)) hv), N0, rfl⟩
theorem d11_0 : decode method_5_code 0 = .ok (.iload_n 1, 1) := by decide +kernel
theorem d11_1 : decode method_5_code 1 = .ok (.iconst 1, 1) := by decide +kernel
theorem d11_2 : decode method_5_code 2 = .ok (.if_icmp .lt 12, 3) := by decide +kernel
theorem d11_14 : decode method_5_code 14 = .ok (.iload_n 1, 1) := by decide +kernel
theorem d11_15 : decode method_5_code 15 = .ok (.iconst 2, 1) := by decide +kernel
theorem d11_16 : decode method_5_code 16 = .ok (.if_icmp .lt 12, 3) := by decide +kernel
theorem d11_28 : decode method_5_code 28 = .ok (.iload_n 1, 1) := by decide +kernel
theorem d11_29 : decode method_5_code 29 = .ok (.iconst 3, 1) := by decide +kernel
theorem d11_30 : decode method_5_code 30 = .ok (.if_icmp .lt 12, 3) := by decide +kernel
theorem d11_42 : decode method_5_code 42 = .ok (.iload_n 1, 1) := by decide +kernel
theorem d11_43 : decode method_5_code 43 = .ok (.iconst 4, 1) := by decide +kernel
theorem d11_44 : decode method_5_code 44 = .ok (.if_icmp .lt 12, 3) := by decide +kernel
theorem d11_56 : decode method_5_code 56 = .ok (.iconst 1, 1) := by decide +kernel
theorem d11_57 : decode method_5_code 57 = .ok (.goto 4, 3) := by decide +kernel
theorem d11_61 : decode method_5_code 61 = .ok (.ireturn, 1) := by decide +kernel
theorem d11_47 : decode method_5_code 47 = .ok (.aload_n 0, 1) := by decide +kernel
theorem d11_48 : decode method_5_code 48 = .ok (.iconst 3, 1) := by decide +kernel
theorem d11_49 : decode method_5_code 49 = .ok (.caload, 1) := by decide +kernel
theorem pd_2 : parseMethodDescriptor "(C)Z" = some ⟨[.char], some .boolean⟩ := by decide +kernel
theorem d11_50 : decode method_5_code 50 = .ok (.invokestatic 33, 3) := by decide +kernel
theorem d11_53 : decode method_5_code 53 = .ok (.ifCond .eq 7, 3) := by decide +kernel
theorem d11_60 : decode method_5_code 60 = .ok (.iconst 0, 1) := by decide +kernel
theorem d11_33 : decode method_5_code 33 = .ok (.aload_n 0, 1) := by decide +kernel
theorem d11_34 : decode method_5_code 34 = .ok (.iconst 2, 1) := by decide +kernel
theorem d11_35 : decode method_5_code 35 = .ok (.caload, 1) := by decide +kernel
theorem d11_36 : decode method_5_code 36 = .ok (.invokestatic 33, 3) := by decide +kernel
theorem d11_39 : decode method_5_code 39 = .ok (.ifCond .eq 21, 3) := by decide +kernel
theorem d11_19 : decode method_5_code 19 = .ok (.aload_n 0, 1) := by decide +kernel
theorem d11_20 : decode method_5_code 20 = .ok (.iconst 1, 1) := by decide +kernel
theorem d11_21 : decode method_5_code 21 = .ok (.caload, 1) := by decide +kernel
theorem d11_22 : decode method_5_code 22 = .ok (.invokestatic 33, 3) := by decide +kernel
theorem d11_25 : decode method_5_code 25 = .ok (.ifCond .eq 35, 3) := by decide +kernel
theorem d11_5 : decode method_5_code 5 = .ok (.aload_n 0, 1) := by decide +kernel
theorem d11_6 : decode method_5_code 6 = .ok (.iconst 0, 1) := by decide +kernel
theorem d11_7 : decode method_5_code 7 = .ok (.caload, 1) := by decide +kernel
theorem d11_8 : decode method_5_code 8 = .ok (.invokestatic 33, 3) := by decide +kernel
theorem d11_11 : decode method_5_code 11 = .ok (.ifCond .eq 49, 3) := by decide +kernel
theorem ef_rm11 (m : MethodId) (x0 : Addr) (x1 : Int32) : entryFrame m #[(.ref x0), (.int x1)] 2 = mkF m 0 #[.val (.ref x0), .val (.int x1)] [] := by first | (simp [entryFrame, mkF, argsToLocals, Value.category]; done) | rfl
def own_ex (va : Addr) (ve : Int32) (x0 : Int32) (x1 : Int32) (x2 : Int32) (x3 : Int32) : Int32 := (if ve < (1 : Int32) then (if ve < (2 : Int32) then (if ve < (3 : Int32) then (if ve < (4 : Int32) then (1 : Int32) else (if (own_zo x3) = (0 : Int32) then (0 : Int32) else (1 : Int32))) else (if (own_zo x2) = (0 : Int32) then (0 : Int32) else (if ve < (4 : Int32) then (1 : Int32) else (if (own_zo x3) = (0 : Int32) then (0 : Int32) else (1 : Int32))))) else (if (own_zo x1) = (0 : Int32) then (0 : Int32) else (if ve < (3 : Int32) then (if ve < (4 : Int32) then (1 : Int32) else (if (own_zo x3) = (0 : Int32) then (0 : Int32) else (1 : Int32))) else (if (own_zo x2) = (0 : Int32) then (0 : Int32) else (if ve < (4 : Int32) then (1 : Int32) else (if (own_zo x3) = (0 : Int32) then (0 : Int32) else (1 : Int32))))))) else (if (own_zo x0) = (0 : Int32) then (0 : Int32) else (if ve < (2 : Int32) then (if ve < (3 : Int32) then (if ve < (4 : Int32) then (1 : Int32) else (if (own_zo x3) = (0 : Int32) then (0 : Int32) else (1 : Int32))) else (if (own_zo x2) = (0 : Int32) then (0 : Int32) else (if ve < (4 : Int32) then (1 : Int32) else (if (own_zo x3) = (0 : Int32) then (0 : Int32) else (1 : Int32))))) else (if (own_zo x1) = (0 : Int32) then (0 : Int32) else (if ve < (3 : Int32) then (if ve < (4 : Int32) then (1 : Int32) else (if (own_zo x3) = (0 : Int32) then (0 : Int32) else (1 : Int32))) else (if (own_zo x2) = (0 : Int32) then (0 : Int32) else (if ve < (4 : Int32) then (1 : Int32) else (if (own_zo x3) = (0 : Int32) then (0 : Int32) else (1 : Int32)))))))))
def Q11 (Z : State) (va : Addr) (ve : Int32) (x0 : Int32) (x1 : Int32) (x2 : Int32) (x3 : Int32) (kb : ClassId) (h0 : Heap) (n0 : Nat) (v : Option Value) (h : Heap) (L : List Loc) : Prop := v = some (.int (own_ex va ve x0 x1 x2 x3)) ∧ Fr n0 L ∧ h = h0
set_option maxRecDepth 65536 in
set_option maxHeartbeats 40000000 in
theorem rm11 (l : Launch) (Z : State) (a0 : Array Value) (hw : ∀ d ∈ tables_1, d.before a0 Z = true) (ws : List Jvm.Cond) (va : Addr) (ve : Int32) (x0 : Int32) (x1 : Int32) (x2 : Int32) (x3 : Int32) (kb : ClassId) (h0 : Heap) (n0 : Nat) (Z0 : n0 ≤ h0.size) (Va : Arv Z h0 va kb .char (4 : Int32) [(.int x0), (.int x1), (.int x2), (.int x3)] (.int (0 : Int32))) :
    MetFree l (⟨"com/example/paniere/paniere/DigitsIsZeroPinLaw", "expected", "([CI)Z"⟩ : MethodName) (head1 (Jvm.Cond.code (⟨"com/example/paniere/paniere/DigitsIsZeroPinLaw", "expected", "([CI)Z"⟩ : MethodName) method_5_code 2 (some .boolean) :: ws) ({ frames := 1, cells := 0, slots := 0, locals := 12 } : Room)) (fun a U => a = #[(.ref va), (.int ve)] ∧ Z.Warmed39 U.vm ∧ U.heap = h0) (fun _ _ _ _ _ => True) (fun _ U o U' => ∃ v L, o = .returned v ∧ Q11 Z va ve x0 x1 x2 x3 kb h0 n0 v U'.heap L ∧ FrameEnd U o U' L ({ frames := 1, cells := 0, slots := 0, locals := 12 } : Room).cells ({ frames := 1, cells := 0, slots := 0, locals := 12 } : Room).slots) := by
  refine MetFree.of_bodySF (plainFor_of_name pn_15) hisR ?_
  intro p e s m args below meth c s₁ Bd hml0 hP hK
  obtain ⟨rfl, hZ, hh⟩ := hP
  have hx := Bd.exec
  have hby := Bd.bytes
  have hml : c.maxLocals = 2 := hml0
  have hown : s.vm.findClass "com/example/paniere/paniere/DigitsIsZeroPinLaw" = some m.cls := findClass_of_methodNamed Bd.named
  have hnm := (name_of_methodNamed Bd.named Bd.method).1
  have X0 : Stand p l e ({ frames := 1, cells := 0, slots := 0, locals := 12 } : Room) s m #[(.ref va), (.int ve)] below meth c s₁ [] 0 0 := Stand.of_body Bd
  have e0 : s₁.heap = h0 := by rw [← hh, Bd.state]; rfl
  have N0 := Fr.nil n0
  have pre0 : ∀ t, Steps p.tables e below (s₁.setTop (mkF m 0 #[.val (.ref va), .val (.int ve)] [])) t → Steps p.tables e below (s₁.setTop (entryFrame m #[(.ref va), (.int ve)] 2)) t := fun t k => castTop (ef_rm11 m va ve) k
  have pre1 : ∀ t, Steps p.tables e below (s₁.setTop (mkF m 2 #[.val (.ref va), .val (.int ve)] [(.int (1 : Int32)), (.int ve)])) t → Steps p.tables e below (s₁.setTop (entryFrame m #[(.ref va), (.int ve)] 2)) t := by
    intro t kt
    refine pre0 t ?_
    show Steps p.tables e below (s₁.setTop (mkF m 0 #[.val (.ref va), .val (.int ve)] [])) _
    refine XS.iloadN X0.here hx rfl (hb hby d11_0) rfl ?_
    show Steps p.tables e below (s₁.setTop (mkF m 1 #[.val (.ref va), .val (.int ve)] [(.int ve)])) _
    refine XS.iconst X0.here hx rfl (hb hby d11_1) ?_
    exact kt
  by_cases hc2 : ve < (1 : Int32)
  ·
    have pre3 : ∀ t, Steps p.tables e below (s₁.setTop (mkF m 16 #[.val (.ref va), .val (.int ve)] [(.int (2 : Int32)), (.int ve)])) t → Steps p.tables e below (s₁.setTop (entryFrame m #[(.ref va), (.int ve)] 2)) t := by
      intro t kt
      refine pre1 t ?_
      show Steps p.tables e below (s₁.setTop (mkF m 2 #[.val (.ref va), .val (.int ve)] [(.int (1 : Int32)), (.int ve)])) _
      refine XS.icmpYes X0.here hx rfl (pc0 := 2) (pc' := 14) rfl (hb hby d11_2) rfl (tlt (hc2 : ve < (1 : Int32))).1 (by decide) (by decide) ?_
      show Steps p.tables e below (s₁.setTop (mkF m 14 #[.val (.ref va), .val (.int ve)] [])) _
      refine XS.iloadN X0.here hx rfl (hb hby d11_14) rfl ?_
      show Steps p.tables e below (s₁.setTop (mkF m 15 #[.val (.ref va), .val (.int ve)] [(.int ve)])) _
      refine XS.iconst X0.here hx rfl (hb hby d11_15) ?_
      exact kt
    by_cases hc4 : ve < (2 : Int32)
    ·
      have pre5 : ∀ t, Steps p.tables e below (s₁.setTop (mkF m 30 #[.val (.ref va), .val (.int ve)] [(.int (3 : Int32)), (.int ve)])) t → Steps p.tables e below (s₁.setTop (entryFrame m #[(.ref va), (.int ve)] 2)) t := by
        intro t kt
        refine pre3 t ?_
        show Steps p.tables e below (s₁.setTop (mkF m 16 #[.val (.ref va), .val (.int ve)] [(.int (2 : Int32)), (.int ve)])) _
        refine XS.icmpYes X0.here hx rfl (pc0 := 16) (pc' := 28) rfl (hb hby d11_16) rfl (tlt (hc4 : ve < (2 : Int32))).1 (by decide) (by decide) ?_
        show Steps p.tables e below (s₁.setTop (mkF m 28 #[.val (.ref va), .val (.int ve)] [])) _
        refine XS.iloadN X0.here hx rfl (hb hby d11_28) rfl ?_
        show Steps p.tables e below (s₁.setTop (mkF m 29 #[.val (.ref va), .val (.int ve)] [(.int ve)])) _
        refine XS.iconst X0.here hx rfl (hb hby d11_29) ?_
        exact kt
      by_cases hc6 : ve < (3 : Int32)
      ·
        have pre7 : ∀ t, Steps p.tables e below (s₁.setTop (mkF m 44 #[.val (.ref va), .val (.int ve)] [(.int (4 : Int32)), (.int ve)])) t → Steps p.tables e below (s₁.setTop (entryFrame m #[(.ref va), (.int ve)] 2)) t := by
          intro t kt
          refine pre5 t ?_
          show Steps p.tables e below (s₁.setTop (mkF m 30 #[.val (.ref va), .val (.int ve)] [(.int (3 : Int32)), (.int ve)])) _
          refine XS.icmpYes X0.here hx rfl (pc0 := 30) (pc' := 42) rfl (hb hby d11_30) rfl (tlt (hc6 : ve < (3 : Int32))).1 (by decide) (by decide) ?_
          show Steps p.tables e below (s₁.setTop (mkF m 42 #[.val (.ref va), .val (.int ve)] [])) _
          refine XS.iloadN X0.here hx rfl (hb hby d11_42) rfl ?_
          show Steps p.tables e below (s₁.setTop (mkF m 43 #[.val (.ref va), .val (.int ve)] [(.int ve)])) _
          refine XS.iconst X0.here hx rfl (hb hby d11_43) ?_
          exact kt
        by_cases hc8 : ve < (4 : Int32)
        ·
          obtain ⟨fs, hr, hrun, hended, hW, hsame⟩ := X0.leave (v := some (.int (1 : Int32))) (fun h => by rw [Bd.returns] at h; cases h)
          refine ⟨_, _, pre7 _ ?_, hrun, hended, _, _, rfl, ?_, ⟨_, rfl⟩, hW, hsame.mono (by decide) (by decide)⟩
          ·
            show Steps p.tables e below (s₁.setTop (mkF m 44 #[.val (.ref va), .val (.int ve)] [(.int (4 : Int32)), (.int ve)])) _
            refine XS.icmpYes X0.here hx rfl (pc0 := 44) (pc' := 56) rfl (hb hby d11_44) rfl (tlt (hc8 : ve < (4 : Int32))).1 (by decide) (by decide) ?_
            show Steps p.tables e below (s₁.setTop (mkF m 56 #[.val (.ref va), .val (.int ve)] [])) _
            refine XS.iconst X0.here hx rfl (hb hby d11_56) ?_
            show Steps p.tables e below (s₁.setTop (mkF m 57 #[.val (.ref va), .val (.int ve)] [(.int (1 : Int32))])) _
            refine XS.goto X0.here hx rfl (pc0 := 57) (pc' := 61) rfl (hb hby d11_57) (by decide) (by decide) ?_
            show Steps p.tables e below (s₁.setTop (mkF m 61 #[.val (.ref va), .val (.int ve)] [(.int (1 : Int32))])) _
            exact retN X0 hx (t := .boolean) Bd.returns (by simp) (hb hby d11_61) hr
          ·
            show Q11 Z va ve x0 x1 x2 x3 kb h0 n0 _ s₁.heap _
            rw [e0]
            have hv : (1 : Int32) = (own_ex va ve x0 x1 x2 x3) := by rw [own_ex, if_pos hc2, if_pos hc4, if_pos hc6, if_pos hc8]
            exact ⟨(congrArg (fun z => some (Value.int z)) hv), N0, rfl⟩
        ·
          obtain ⟨cl9, Ar9, q9, S9, NN9, HH9, GG9⟩ := id Va
          have hin9 : ¬ ((3 : Int32) < 0 ∨ cl9.slots.size ≤ ((3 : Int32)).toNatClampNeg) := inb_of S9 ⟨by decide, by decide⟩
          have hat9 : cl9.slots[((3 : Int32)).toNatClampNeg]? = some (.int x3) := HH9.at hin9 rfl
          obtain ⟨_, _, ⟨T10, L10, k10, n10⟩, -, X10, ⟨Lc10, hQ10, l10, y10, z10⟩, st10⟩ := Jvm.LawKit.callS X0 hx (y := (⟨"com/example/paniere/paniere/DigitsIsZeroPinLaw", "zeroish", "(C)Z"⟩ : MethodName)) hown (mvT hZ (hw _ (List.mem_of_getElem? (i := 84) rfl))) (mvT hZ (hw _ (List.mem_of_getElem? (i := 85) rfl))) (mvT hZ (hw _ (List.mem_of_getElem? (i := 3) rfl))) (mvT hZ (hw _ (List.mem_of_getElem? (i := 86) rfl))) (by decide) (backOf (W := 0) (rm17 l Z a0 hw [] x3  h0 n0 Z0 ) hZ (hw _ (List.mem_of_getElem? (i := 86) rfl)) (hw _ (List.mem_of_getElem? (i := 3) rfl)) (by decide) (by decide)) (g := (mkF m 50 #[.val (.ref va), .val (.int ve)] [(.int x3)])) rfl (by rw [hml]; rfl) (argsL := [(.int x3)]) (rest := []) (lenOf pd_2 rfl) rfl (by show 2 * 0 + _ ≤ _; exact Nat.le_of_eq rfl) (hb hby d11_50) (fun _ _ => ⟨rfl, e0, (by decide : 0 + 0 ≤ _), (by decide : 0 + 0 ≤ _)⟩)
          dsimp only [Pt.U, Pt.locs, Pt.cells, Pt.slots] at X10 l10 y10 z10 st10 hQ10
          subst l10 y10 z10
          obtain ⟨rfl, N10q, e10q⟩ := hQ10
          have N10 := Fr.app N0 N10q
          have pre11 : ∀ t, Steps p.tables e below (T10.setTop (mkF m 53 #[.val (.ref va), .val (.int ve)] [(.int (own_zo x3))])) t → Steps p.tables e below (s₁.setTop (entryFrame m #[(.ref va), (.int ve)] 2)) t := by
            intro t kt
            refine pre7 t ?_
            show Steps p.tables e below (s₁.setTop (mkF m 44 #[.val (.ref va), .val (.int ve)] [(.int (4 : Int32)), (.int ve)])) _
            refine XS.icmpNo X0.here hx rfl (hb hby d11_44) rfl (flt (hc8 : ¬ (ve < (4 : Int32)))).1 ?_
            show Steps p.tables e below (s₁.setTop (mkF m 47 #[.val (.ref va), .val (.int ve)] [])) _
            refine XS.aloadN X0.here hx rfl (hb hby d11_47) rfl rfl ?_
            show Steps p.tables e below (s₁.setTop (mkF m 48 #[.val (.ref va), .val (.int ve)] [(.ref va)])) _
            refine XS.iconst X0.here hx rfl (hb hby d11_48) ?_
            show Steps p.tables e below (s₁.setTop (mkF m 49 #[.val (.ref va), .val (.int ve)] [(.int (3 : Int32)), (.ref va)])) _
            refine X0.caload hx (j := (3 : Int32)) (v := (.int x3)) (by rw [e0]; exact Ar9.1) (State.isArrayOf_alike hZ.alike Ar9.2.1) Ar9.2.2 hin9 hat9 (g := (mkF m 49 #[.val (.ref va), .val (.int ve)] [(.int (3 : Int32)), (.ref va)])) rfl rfl (hb hby d11_49) _ ?_
            show Steps p.tables e below (s₁.setTop (mkF m 50 #[.val (.ref va), .val (.int ve)] [(.int x3)])) _
            refine st10 _ ?_
            exact kt
          by_cases hc12 : (own_zo x3) = (0 : Int32)
          ·
            obtain ⟨fs, hr, hrun, hended, hW, hsame⟩ := X10.leave (v := some (.int (0 : Int32))) (fun h => by rw [Bd.returns] at h; cases h)
            refine ⟨_, _, pre11 _ ?_, hrun, hended, _, _, rfl, ?_, ⟨_, rfl⟩, hW, hsame.mono (by decide) (by decide)⟩
            ·
              show Steps p.tables e below (T10.setTop (mkF m 53 #[.val (.ref va), .val (.int ve)] [(.int (own_zo x3))])) _
              refine XS.ifYes X10.here hx rfl (pc0 := 53) (pc' := 60) rfl (hb hby d11_53) rfl ((if0 _ _).trans (teq (hc12 : (own_zo x3) = (0 : Int32))).1) (by decide) (by decide) ?_
              show Steps p.tables e below (T10.setTop (mkF m 60 #[.val (.ref va), .val (.int ve)] [])) _
              refine XS.iconst X10.here hx rfl (hb hby d11_60) ?_
              show Steps p.tables e below (T10.setTop (mkF m 61 #[.val (.ref va), .val (.int ve)] [(.int (0 : Int32))])) _
              exact retN X10 hx (t := .boolean) Bd.returns (by simp) (hb hby d11_61) hr
            ·
              show Q11 Z va ve x0 x1 x2 x3 kb h0 n0 _ T10.heap _
              rw [e10q]
              have hv : (0 : Int32) = (own_ex va ve x0 x1 x2 x3) := by rw [own_ex, if_pos hc2, if_pos hc4, if_pos hc6, if_neg hc8, if_pos hc12]
              exact ⟨(congrArg (fun z => some (Value.int z)) hv), N10, rfl⟩
          ·
            obtain ⟨fs, hr, hrun, hended, hW, hsame⟩ := X10.leave (v := some (.int (1 : Int32))) (fun h => by rw [Bd.returns] at h; cases h)
            refine ⟨_, _, pre11 _ ?_, hrun, hended, _, _, rfl, ?_, ⟨_, rfl⟩, hW, hsame.mono (by decide) (by decide)⟩
            ·
              show Steps p.tables e below (T10.setTop (mkF m 53 #[.val (.ref va), .val (.int ve)] [(.int (own_zo x3))])) _
              refine XS.ifNo X10.here hx rfl (hb hby d11_53) rfl ((if0 _ _).trans (feq (hc12 : ¬ ((own_zo x3) = (0 : Int32)))).1) ?_
              show Steps p.tables e below (T10.setTop (mkF m 56 #[.val (.ref va), .val (.int ve)] [])) _
              refine XS.iconst X10.here hx rfl (hb hby d11_56) ?_
              show Steps p.tables e below (T10.setTop (mkF m 57 #[.val (.ref va), .val (.int ve)] [(.int (1 : Int32))])) _
              refine XS.goto X10.here hx rfl (pc0 := 57) (pc' := 61) rfl (hb hby d11_57) (by decide) (by decide) ?_
              show Steps p.tables e below (T10.setTop (mkF m 61 #[.val (.ref va), .val (.int ve)] [(.int (1 : Int32))])) _
              exact retN X10 hx (t := .boolean) Bd.returns (by simp) (hb hby d11_61) hr
            ·
              show Q11 Z va ve x0 x1 x2 x3 kb h0 n0 _ T10.heap _
              rw [e10q]
              have hv : (1 : Int32) = (own_ex va ve x0 x1 x2 x3) := by rw [own_ex, if_pos hc2, if_pos hc4, if_pos hc6, if_neg hc8, if_neg hc12]
              exact ⟨(congrArg (fun z => some (Value.int z)) hv), N10, rfl⟩
      ·
        obtain ⟨cl13, Ar13, q13, S13, NN13, HH13, GG13⟩ := id Va
        have hin13 : ¬ ((2 : Int32) < 0 ∨ cl13.slots.size ≤ ((2 : Int32)).toNatClampNeg) := inb_of S13 ⟨by decide, by decide⟩
        have hat13 : cl13.slots[((2 : Int32)).toNatClampNeg]? = some (.int x2) := HH13.at hin13 rfl
        obtain ⟨_, _, ⟨T14, L14, k14, n14⟩, -, X14, ⟨Lc14, hQ14, l14, y14, z14⟩, st14⟩ := Jvm.LawKit.callS X0 hx (y := (⟨"com/example/paniere/paniere/DigitsIsZeroPinLaw", "zeroish", "(C)Z"⟩ : MethodName)) hown (mvT hZ (hw _ (List.mem_of_getElem? (i := 84) rfl))) (mvT hZ (hw _ (List.mem_of_getElem? (i := 85) rfl))) (mvT hZ (hw _ (List.mem_of_getElem? (i := 3) rfl))) (mvT hZ (hw _ (List.mem_of_getElem? (i := 86) rfl))) (by decide) (backOf (W := 0) (rm17 l Z a0 hw [] x2  h0 n0 Z0 ) hZ (hw _ (List.mem_of_getElem? (i := 86) rfl)) (hw _ (List.mem_of_getElem? (i := 3) rfl)) (by decide) (by decide)) (g := (mkF m 36 #[.val (.ref va), .val (.int ve)] [(.int x2)])) rfl (by rw [hml]; rfl) (argsL := [(.int x2)]) (rest := []) (lenOf pd_2 rfl) rfl (by show 2 * 0 + _ ≤ _; exact Nat.le_of_eq rfl) (hb hby d11_36) (fun _ _ => ⟨rfl, e0, (by decide : 0 + 0 ≤ _), (by decide : 0 + 0 ≤ _)⟩)
        dsimp only [Pt.U, Pt.locs, Pt.cells, Pt.slots] at X14 l14 y14 z14 st14 hQ14
        subst l14 y14 z14
        obtain ⟨rfl, N14q, e14q⟩ := hQ14
        have N14 := Fr.app N0 N14q
        have pre15 : ∀ t, Steps p.tables e below (T14.setTop (mkF m 39 #[.val (.ref va), .val (.int ve)] [(.int (own_zo x2))])) t → Steps p.tables e below (s₁.setTop (entryFrame m #[(.ref va), (.int ve)] 2)) t := by
          intro t kt
          refine pre5 t ?_
          show Steps p.tables e below (s₁.setTop (mkF m 30 #[.val (.ref va), .val (.int ve)] [(.int (3 : Int32)), (.int ve)])) _
          refine XS.icmpNo X0.here hx rfl (hb hby d11_30) rfl (flt (hc6 : ¬ (ve < (3 : Int32)))).1 ?_
          show Steps p.tables e below (s₁.setTop (mkF m 33 #[.val (.ref va), .val (.int ve)] [])) _
          refine XS.aloadN X0.here hx rfl (hb hby d11_33) rfl rfl ?_
          show Steps p.tables e below (s₁.setTop (mkF m 34 #[.val (.ref va), .val (.int ve)] [(.ref va)])) _
          refine XS.iconst X0.here hx rfl (hb hby d11_34) ?_
          show Steps p.tables e below (s₁.setTop (mkF m 35 #[.val (.ref va), .val (.int ve)] [(.int (2 : Int32)), (.ref va)])) _
          refine X0.caload hx (j := (2 : Int32)) (v := (.int x2)) (by rw [e0]; exact Ar13.1) (State.isArrayOf_alike hZ.alike Ar13.2.1) Ar13.2.2 hin13 hat13 (g := (mkF m 35 #[.val (.ref va), .val (.int ve)] [(.int (2 : Int32)), (.ref va)])) rfl rfl (hb hby d11_35) _ ?_
          show Steps p.tables e below (s₁.setTop (mkF m 36 #[.val (.ref va), .val (.int ve)] [(.int x2)])) _
          refine st14 _ ?_
          exact kt
        by_cases hc16 : (own_zo x2) = (0 : Int32)
        ·
          obtain ⟨fs, hr, hrun, hended, hW, hsame⟩ := X14.leave (v := some (.int (0 : Int32))) (fun h => by rw [Bd.returns] at h; cases h)
          refine ⟨_, _, pre15 _ ?_, hrun, hended, _, _, rfl, ?_, ⟨_, rfl⟩, hW, hsame.mono (by decide) (by decide)⟩
          ·
            show Steps p.tables e below (T14.setTop (mkF m 39 #[.val (.ref va), .val (.int ve)] [(.int (own_zo x2))])) _
            refine XS.ifYes X14.here hx rfl (pc0 := 39) (pc' := 60) rfl (hb hby d11_39) rfl ((if0 _ _).trans (teq (hc16 : (own_zo x2) = (0 : Int32))).1) (by decide) (by decide) ?_
            show Steps p.tables e below (T14.setTop (mkF m 60 #[.val (.ref va), .val (.int ve)] [])) _
            refine XS.iconst X14.here hx rfl (hb hby d11_60) ?_
            show Steps p.tables e below (T14.setTop (mkF m 61 #[.val (.ref va), .val (.int ve)] [(.int (0 : Int32))])) _
            exact retN X14 hx (t := .boolean) Bd.returns (by simp) (hb hby d11_61) hr
          ·
            show Q11 Z va ve x0 x1 x2 x3 kb h0 n0 _ T14.heap _
            rw [e14q]
            have hv : (0 : Int32) = (own_ex va ve x0 x1 x2 x3) := by rw [own_ex, if_pos hc2, if_pos hc4, if_neg hc6, if_pos hc16]
            exact ⟨(congrArg (fun z => some (Value.int z)) hv), N14, rfl⟩
        ·
          have pre17 : ∀ t, Steps p.tables e below (T14.setTop (mkF m 44 #[.val (.ref va), .val (.int ve)] [(.int (4 : Int32)), (.int ve)])) t → Steps p.tables e below (s₁.setTop (entryFrame m #[(.ref va), (.int ve)] 2)) t := by
            intro t kt
            refine pre15 t ?_
            show Steps p.tables e below (T14.setTop (mkF m 39 #[.val (.ref va), .val (.int ve)] [(.int (own_zo x2))])) _
            refine XS.ifNo X14.here hx rfl (hb hby d11_39) rfl ((if0 _ _).trans (feq (hc16 : ¬ ((own_zo x2) = (0 : Int32)))).1) ?_
            show Steps p.tables e below (T14.setTop (mkF m 42 #[.val (.ref va), .val (.int ve)] [])) _
            refine XS.iloadN X14.here hx rfl (hb hby d11_42) rfl ?_
            show Steps p.tables e below (T14.setTop (mkF m 43 #[.val (.ref va), .val (.int ve)] [(.int ve)])) _
            refine XS.iconst X14.here hx rfl (hb hby d11_43) ?_
            exact kt
          by_cases hc18 : ve < (4 : Int32)
          ·
            obtain ⟨fs, hr, hrun, hended, hW, hsame⟩ := X14.leave (v := some (.int (1 : Int32))) (fun h => by rw [Bd.returns] at h; cases h)
            refine ⟨_, _, pre17 _ ?_, hrun, hended, _, _, rfl, ?_, ⟨_, rfl⟩, hW, hsame.mono (by decide) (by decide)⟩
            ·
              show Steps p.tables e below (T14.setTop (mkF m 44 #[.val (.ref va), .val (.int ve)] [(.int (4 : Int32)), (.int ve)])) _
              refine XS.icmpYes X14.here hx rfl (pc0 := 44) (pc' := 56) rfl (hb hby d11_44) rfl (tlt (hc18 : ve < (4 : Int32))).1 (by decide) (by decide) ?_
              show Steps p.tables e below (T14.setTop (mkF m 56 #[.val (.ref va), .val (.int ve)] [])) _
              refine XS.iconst X14.here hx rfl (hb hby d11_56) ?_
              show Steps p.tables e below (T14.setTop (mkF m 57 #[.val (.ref va), .val (.int ve)] [(.int (1 : Int32))])) _
              refine XS.goto X14.here hx rfl (pc0 := 57) (pc' := 61) rfl (hb hby d11_57) (by decide) (by decide) ?_
              show Steps p.tables e below (T14.setTop (mkF m 61 #[.val (.ref va), .val (.int ve)] [(.int (1 : Int32))])) _
              exact retN X14 hx (t := .boolean) Bd.returns (by simp) (hb hby d11_61) hr
            ·
              show Q11 Z va ve x0 x1 x2 x3 kb h0 n0 _ T14.heap _
              rw [e14q]
              have hv : (1 : Int32) = (own_ex va ve x0 x1 x2 x3) := by rw [own_ex, if_pos hc2, if_pos hc4, if_neg hc6, if_neg hc16, if_pos hc18]
              exact ⟨(congrArg (fun z => some (Value.int z)) hv), N14, rfl⟩
          ·
            obtain ⟨cl19, Ar19, q19, S19, NN19, HH19, GG19⟩ := id Va
            have hin19 : ¬ ((3 : Int32) < 0 ∨ cl19.slots.size ≤ ((3 : Int32)).toNatClampNeg) := inb_of S19 ⟨by decide, by decide⟩
            have hat19 : cl19.slots[((3 : Int32)).toNatClampNeg]? = some (.int x3) := HH19.at hin19 rfl
            obtain ⟨_, _, ⟨T20, L20, k20, n20⟩, -, X20, ⟨Lc20, hQ20, l20, y20, z20⟩, st20⟩ := Jvm.LawKit.callS X14 hx (y := (⟨"com/example/paniere/paniere/DigitsIsZeroPinLaw", "zeroish", "(C)Z"⟩ : MethodName)) hown (mvT hZ (hw _ (List.mem_of_getElem? (i := 84) rfl))) (mvT hZ (hw _ (List.mem_of_getElem? (i := 85) rfl))) (mvT hZ (hw _ (List.mem_of_getElem? (i := 3) rfl))) (mvT hZ (hw _ (List.mem_of_getElem? (i := 86) rfl))) (by decide) (backOf (W := 0) (rm17 l Z a0 hw [] x3  h0 n0 Z0 ) hZ (hw _ (List.mem_of_getElem? (i := 86) rfl)) (hw _ (List.mem_of_getElem? (i := 3) rfl)) (by decide) (by decide)) (g := (mkF m 50 #[.val (.ref va), .val (.int ve)] [(.int x3)])) rfl (by rw [hml]; rfl) (argsL := [(.int x3)]) (rest := []) (lenOf pd_2 rfl) rfl (by show 2 * 0 + _ ≤ _; exact Nat.le_of_eq rfl) (hb hby d11_50) (fun _ _ => ⟨rfl, e14q, (by decide : 0 + 0 ≤ _), (by decide : 0 + 0 ≤ _)⟩)
            dsimp only [Pt.U, Pt.locs, Pt.cells, Pt.slots] at X20 l20 y20 z20 st20 hQ20
            subst l20 y20 z20
            obtain ⟨rfl, N20q, e20q⟩ := hQ20
            have N20 := Fr.app N14 N20q
            have pre21 : ∀ t, Steps p.tables e below (T20.setTop (mkF m 53 #[.val (.ref va), .val (.int ve)] [(.int (own_zo x3))])) t → Steps p.tables e below (s₁.setTop (entryFrame m #[(.ref va), (.int ve)] 2)) t := by
              intro t kt
              refine pre17 t ?_
              show Steps p.tables e below (T14.setTop (mkF m 44 #[.val (.ref va), .val (.int ve)] [(.int (4 : Int32)), (.int ve)])) _
              refine XS.icmpNo X14.here hx rfl (hb hby d11_44) rfl (flt (hc18 : ¬ (ve < (4 : Int32)))).1 ?_
              show Steps p.tables e below (T14.setTop (mkF m 47 #[.val (.ref va), .val (.int ve)] [])) _
              refine XS.aloadN X14.here hx rfl (hb hby d11_47) rfl rfl ?_
              show Steps p.tables e below (T14.setTop (mkF m 48 #[.val (.ref va), .val (.int ve)] [(.ref va)])) _
              refine XS.iconst X14.here hx rfl (hb hby d11_48) ?_
              show Steps p.tables e below (T14.setTop (mkF m 49 #[.val (.ref va), .val (.int ve)] [(.int (3 : Int32)), (.ref va)])) _
              refine X14.caload hx (j := (3 : Int32)) (v := (.int x3)) (by rw [e14q]; exact Ar19.1) (State.isArrayOf_alike hZ.alike Ar19.2.1) Ar19.2.2 hin19 hat19 (g := (mkF m 49 #[.val (.ref va), .val (.int ve)] [(.int (3 : Int32)), (.ref va)])) rfl rfl (hb hby d11_49) _ ?_
              show Steps p.tables e below (T14.setTop (mkF m 50 #[.val (.ref va), .val (.int ve)] [(.int x3)])) _
              refine st20 _ ?_
              exact kt
            by_cases hc22 : (own_zo x3) = (0 : Int32)
            ·
              obtain ⟨fs, hr, hrun, hended, hW, hsame⟩ := X20.leave (v := some (.int (0 : Int32))) (fun h => by rw [Bd.returns] at h; cases h)
              refine ⟨_, _, pre21 _ ?_, hrun, hended, _, _, rfl, ?_, ⟨_, rfl⟩, hW, hsame.mono (by decide) (by decide)⟩
              ·
                show Steps p.tables e below (T20.setTop (mkF m 53 #[.val (.ref va), .val (.int ve)] [(.int (own_zo x3))])) _
                refine XS.ifYes X20.here hx rfl (pc0 := 53) (pc' := 60) rfl (hb hby d11_53) rfl ((if0 _ _).trans (teq (hc22 : (own_zo x3) = (0 : Int32))).1) (by decide) (by decide) ?_
                show Steps p.tables e below (T20.setTop (mkF m 60 #[.val (.ref va), .val (.int ve)] [])) _
                refine XS.iconst X20.here hx rfl (hb hby d11_60) ?_
                show Steps p.tables e below (T20.setTop (mkF m 61 #[.val (.ref va), .val (.int ve)] [(.int (0 : Int32))])) _
                exact retN X20 hx (t := .boolean) Bd.returns (by simp) (hb hby d11_61) hr
              ·
                show Q11 Z va ve x0 x1 x2 x3 kb h0 n0 _ T20.heap _
                rw [e20q]
                have hv : (0 : Int32) = (own_ex va ve x0 x1 x2 x3) := by rw [own_ex, if_pos hc2, if_pos hc4, if_neg hc6, if_neg hc16, if_neg hc18, if_pos hc22]
                exact ⟨(congrArg (fun z => some (Value.int z)) hv), N20, rfl⟩
            ·
              obtain ⟨fs, hr, hrun, hended, hW, hsame⟩ := X20.leave (v := some (.int (1 : Int32))) (fun h => by rw [Bd.returns] at h; cases h)
              refine ⟨_, _, pre21 _ ?_, hrun, hended, _, _, rfl, ?_, ⟨_, rfl⟩, hW, hsame.mono (by decide) (by decide)⟩
              ·
                show Steps p.tables e below (T20.setTop (mkF m 53 #[.val (.ref va), .val (.int ve)] [(.int (own_zo x3))])) _
                refine XS.ifNo X20.here hx rfl (hb hby d11_53) rfl ((if0 _ _).trans (feq (hc22 : ¬ ((own_zo x3) = (0 : Int32)))).1) ?_
                show Steps p.tables e below (T20.setTop (mkF m 56 #[.val (.ref va), .val (.int ve)] [])) _
                refine XS.iconst X20.here hx rfl (hb hby d11_56) ?_
                show Steps p.tables e below (T20.setTop (mkF m 57 #[.val (.ref va), .val (.int ve)] [(.int (1 : Int32))])) _
                refine XS.goto X20.here hx rfl (pc0 := 57) (pc' := 61) rfl (hb hby d11_57) (by decide) (by decide) ?_
                show Steps p.tables e below (T20.setTop (mkF m 61 #[.val (.ref va), .val (.int ve)] [(.int (1 : Int32))])) _
                exact retN X20 hx (t := .boolean) Bd.returns (by simp) (hb hby d11_61) hr
              ·
                show Q11 Z va ve x0 x1 x2 x3 kb h0 n0 _ T20.heap _
                rw [e20q]
                have hv : (1 : Int32) = (own_ex va ve x0 x1 x2 x3) := by rw [own_ex, if_pos hc2, if_pos hc4, if_neg hc6, if_neg hc16, if_neg hc18, if_neg hc22]
                exact ⟨(congrArg (fun z => some (Value.int z)) hv), N20, rfl⟩
    ·
      obtain ⟨cl23, Ar23, q23, S23, NN23, HH23, GG23⟩ := id Va
      have hin23 : ¬ ((1 : Int32) < 0 ∨ cl23.slots.size ≤ ((1 : Int32)).toNatClampNeg) := inb_of S23 ⟨by decide, by decide⟩
      have hat23 : cl23.slots[((1 : Int32)).toNatClampNeg]? = some (.int x1) := HH23.at hin23 rfl
      obtain ⟨_, _, ⟨T24, L24, k24, n24⟩, -, X24, ⟨Lc24, hQ24, l24, y24, z24⟩, st24⟩ := Jvm.LawKit.callS X0 hx (y := (⟨"com/example/paniere/paniere/DigitsIsZeroPinLaw", "zeroish", "(C)Z"⟩ : MethodName)) hown (mvT hZ (hw _ (List.mem_of_getElem? (i := 84) rfl))) (mvT hZ (hw _ (List.mem_of_getElem? (i := 85) rfl))) (mvT hZ (hw _ (List.mem_of_getElem? (i := 3) rfl))) (mvT hZ (hw _ (List.mem_of_getElem? (i := 86) rfl))) (by decide) (backOf (W := 0) (rm17 l Z a0 hw [] x1  h0 n0 Z0 ) hZ (hw _ (List.mem_of_getElem? (i := 86) rfl)) (hw _ (List.mem_of_getElem? (i := 3) rfl)) (by decide) (by decide)) (g := (mkF m 22 #[.val (.ref va), .val (.int ve)] [(.int x1)])) rfl (by rw [hml]; rfl) (argsL := [(.int x1)]) (rest := []) (lenOf pd_2 rfl) rfl (by show 2 * 0 + _ ≤ _; exact Nat.le_of_eq rfl) (hb hby d11_22) (fun _ _ => ⟨rfl, e0, (by decide : 0 + 0 ≤ _), (by decide : 0 + 0 ≤ _)⟩)
      dsimp only [Pt.U, Pt.locs, Pt.cells, Pt.slots] at X24 l24 y24 z24 st24 hQ24
      subst l24 y24 z24
      obtain ⟨rfl, N24q, e24q⟩ := hQ24
      have N24 := Fr.app N0 N24q
      have pre25 : ∀ t, Steps p.tables e below (T24.setTop (mkF m 25 #[.val (.ref va), .val (.int ve)] [(.int (own_zo x1))])) t → Steps p.tables e below (s₁.setTop (entryFrame m #[(.ref va), (.int ve)] 2)) t := by
        intro t kt
        refine pre3 t ?_
        show Steps p.tables e below (s₁.setTop (mkF m 16 #[.val (.ref va), .val (.int ve)] [(.int (2 : Int32)), (.int ve)])) _
        refine XS.icmpNo X0.here hx rfl (hb hby d11_16) rfl (flt (hc4 : ¬ (ve < (2 : Int32)))).1 ?_
        show Steps p.tables e below (s₁.setTop (mkF m 19 #[.val (.ref va), .val (.int ve)] [])) _
        refine XS.aloadN X0.here hx rfl (hb hby d11_19) rfl rfl ?_
        show Steps p.tables e below (s₁.setTop (mkF m 20 #[.val (.ref va), .val (.int ve)] [(.ref va)])) _
        refine XS.iconst X0.here hx rfl (hb hby d11_20) ?_
        show Steps p.tables e below (s₁.setTop (mkF m 21 #[.val (.ref va), .val (.int ve)] [(.int (1 : Int32)), (.ref va)])) _
        refine X0.caload hx (j := (1 : Int32)) (v := (.int x1)) (by rw [e0]; exact Ar23.1) (State.isArrayOf_alike hZ.alike Ar23.2.1) Ar23.2.2 hin23 hat23 (g := (mkF m 21 #[.val (.ref va), .val (.int ve)] [(.int (1 : Int32)), (.ref va)])) rfl rfl (hb hby d11_21) _ ?_
        show Steps p.tables e below (s₁.setTop (mkF m 22 #[.val (.ref va), .val (.int ve)] [(.int x1)])) _
        refine st24 _ ?_
        exact kt
      by_cases hc26 : (own_zo x1) = (0 : Int32)
      ·
        obtain ⟨fs, hr, hrun, hended, hW, hsame⟩ := X24.leave (v := some (.int (0 : Int32))) (fun h => by rw [Bd.returns] at h; cases h)
        refine ⟨_, _, pre25 _ ?_, hrun, hended, _, _, rfl, ?_, ⟨_, rfl⟩, hW, hsame.mono (by decide) (by decide)⟩
        ·
          show Steps p.tables e below (T24.setTop (mkF m 25 #[.val (.ref va), .val (.int ve)] [(.int (own_zo x1))])) _
          refine XS.ifYes X24.here hx rfl (pc0 := 25) (pc' := 60) rfl (hb hby d11_25) rfl ((if0 _ _).trans (teq (hc26 : (own_zo x1) = (0 : Int32))).1) (by decide) (by decide) ?_
          show Steps p.tables e below (T24.setTop (mkF m 60 #[.val (.ref va), .val (.int ve)] [])) _
          refine XS.iconst X24.here hx rfl (hb hby d11_60) ?_
          show Steps p.tables e below (T24.setTop (mkF m 61 #[.val (.ref va), .val (.int ve)] [(.int (0 : Int32))])) _
          exact retN X24 hx (t := .boolean) Bd.returns (by simp) (hb hby d11_61) hr
        ·
          show Q11 Z va ve x0 x1 x2 x3 kb h0 n0 _ T24.heap _
          rw [e24q]
          have hv : (0 : Int32) = (own_ex va ve x0 x1 x2 x3) := by rw [own_ex, if_pos hc2, if_neg hc4, if_pos hc26]
          exact ⟨(congrArg (fun z => some (Value.int z)) hv), N24, rfl⟩
      ·
        have pre27 : ∀ t, Steps p.tables e below (T24.setTop (mkF m 30 #[.val (.ref va), .val (.int ve)] [(.int (3 : Int32)), (.int ve)])) t → Steps p.tables e below (s₁.setTop (entryFrame m #[(.ref va), (.int ve)] 2)) t := by
          intro t kt
          refine pre25 t ?_
          show Steps p.tables e below (T24.setTop (mkF m 25 #[.val (.ref va), .val (.int ve)] [(.int (own_zo x1))])) _
          refine XS.ifNo X24.here hx rfl (hb hby d11_25) rfl ((if0 _ _).trans (feq (hc26 : ¬ ((own_zo x1) = (0 : Int32)))).1) ?_
          show Steps p.tables e below (T24.setTop (mkF m 28 #[.val (.ref va), .val (.int ve)] [])) _
          refine XS.iloadN X24.here hx rfl (hb hby d11_28) rfl ?_
          show Steps p.tables e below (T24.setTop (mkF m 29 #[.val (.ref va), .val (.int ve)] [(.int ve)])) _
          refine XS.iconst X24.here hx rfl (hb hby d11_29) ?_
          exact kt
        by_cases hc28 : ve < (3 : Int32)
        ·
          have pre29 : ∀ t, Steps p.tables e below (T24.setTop (mkF m 44 #[.val (.ref va), .val (.int ve)] [(.int (4 : Int32)), (.int ve)])) t → Steps p.tables e below (s₁.setTop (entryFrame m #[(.ref va), (.int ve)] 2)) t := by
            intro t kt
            refine pre27 t ?_
            show Steps p.tables e below (T24.setTop (mkF m 30 #[.val (.ref va), .val (.int ve)] [(.int (3 : Int32)), (.int ve)])) _
            refine XS.icmpYes X24.here hx rfl (pc0 := 30) (pc' := 42) rfl (hb hby d11_30) rfl (tlt (hc28 : ve < (3 : Int32))).1 (by decide) (by decide) ?_
            show Steps p.tables e below (T24.setTop (mkF m 42 #[.val (.ref va), .val (.int ve)] [])) _
            refine XS.iloadN X24.here hx rfl (hb hby d11_42) rfl ?_
            show Steps p.tables e below (T24.setTop (mkF m 43 #[.val (.ref va), .val (.int ve)] [(.int ve)])) _
            refine XS.iconst X24.here hx rfl (hb hby d11_43) ?_
            exact kt
          by_cases hc30 : ve < (4 : Int32)
          ·
            obtain ⟨fs, hr, hrun, hended, hW, hsame⟩ := X24.leave (v := some (.int (1 : Int32))) (fun h => by rw [Bd.returns] at h; cases h)
            refine ⟨_, _, pre29 _ ?_, hrun, hended, _, _, rfl, ?_, ⟨_, rfl⟩, hW, hsame.mono (by decide) (by decide)⟩
            ·
              show Steps p.tables e below (T24.setTop (mkF m 44 #[.val (.ref va), .val (.int ve)] [(.int (4 : Int32)), (.int ve)])) _
              refine XS.icmpYes X24.here hx rfl (pc0 := 44) (pc' := 56) rfl (hb hby d11_44) rfl (tlt (hc30 : ve < (4 : Int32))).1 (by decide) (by decide) ?_
              show Steps p.tables e below (T24.setTop (mkF m 56 #[.val (.ref va), .val (.int ve)] [])) _
              refine XS.iconst X24.here hx rfl (hb hby d11_56) ?_
              show Steps p.tables e below (T24.setTop (mkF m 57 #[.val (.ref va), .val (.int ve)] [(.int (1 : Int32))])) _
              refine XS.goto X24.here hx rfl (pc0 := 57) (pc' := 61) rfl (hb hby d11_57) (by decide) (by decide) ?_
              show Steps p.tables e below (T24.setTop (mkF m 61 #[.val (.ref va), .val (.int ve)] [(.int (1 : Int32))])) _
              exact retN X24 hx (t := .boolean) Bd.returns (by simp) (hb hby d11_61) hr
            ·
              show Q11 Z va ve x0 x1 x2 x3 kb h0 n0 _ T24.heap _
              rw [e24q]
              have hv : (1 : Int32) = (own_ex va ve x0 x1 x2 x3) := by rw [own_ex, if_pos hc2, if_neg hc4, if_neg hc26, if_pos hc28, if_pos hc30]
              exact ⟨(congrArg (fun z => some (Value.int z)) hv), N24, rfl⟩
          ·
            obtain ⟨cl31, Ar31, q31, S31, NN31, HH31, GG31⟩ := id Va
            have hin31 : ¬ ((3 : Int32) < 0 ∨ cl31.slots.size ≤ ((3 : Int32)).toNatClampNeg) := inb_of S31 ⟨by decide, by decide⟩
            have hat31 : cl31.slots[((3 : Int32)).toNatClampNeg]? = some (.int x3) := HH31.at hin31 rfl
            obtain ⟨_, _, ⟨T32, L32, k32, n32⟩, -, X32, ⟨Lc32, hQ32, l32, y32, z32⟩, st32⟩ := Jvm.LawKit.callS X24 hx (y := (⟨"com/example/paniere/paniere/DigitsIsZeroPinLaw", "zeroish", "(C)Z"⟩ : MethodName)) hown (mvT hZ (hw _ (List.mem_of_getElem? (i := 84) rfl))) (mvT hZ (hw _ (List.mem_of_getElem? (i := 85) rfl))) (mvT hZ (hw _ (List.mem_of_getElem? (i := 3) rfl))) (mvT hZ (hw _ (List.mem_of_getElem? (i := 86) rfl))) (by decide) (backOf (W := 0) (rm17 l Z a0 hw [] x3  h0 n0 Z0 ) hZ (hw _ (List.mem_of_getElem? (i := 86) rfl)) (hw _ (List.mem_of_getElem? (i := 3) rfl)) (by decide) (by decide)) (g := (mkF m 50 #[.val (.ref va), .val (.int ve)] [(.int x3)])) rfl (by rw [hml]; rfl) (argsL := [(.int x3)]) (rest := []) (lenOf pd_2 rfl) rfl (by show 2 * 0 + _ ≤ _; exact Nat.le_of_eq rfl) (hb hby d11_50) (fun _ _ => ⟨rfl, e24q, (by decide : 0 + 0 ≤ _), (by decide : 0 + 0 ≤ _)⟩)
            dsimp only [Pt.U, Pt.locs, Pt.cells, Pt.slots] at X32 l32 y32 z32 st32 hQ32
            subst l32 y32 z32
            obtain ⟨rfl, N32q, e32q⟩ := hQ32
            have N32 := Fr.app N24 N32q
            have pre33 : ∀ t, Steps p.tables e below (T32.setTop (mkF m 53 #[.val (.ref va), .val (.int ve)] [(.int (own_zo x3))])) t → Steps p.tables e below (s₁.setTop (entryFrame m #[(.ref va), (.int ve)] 2)) t := by
              intro t kt
              refine pre29 t ?_
              show Steps p.tables e below (T24.setTop (mkF m 44 #[.val (.ref va), .val (.int ve)] [(.int (4 : Int32)), (.int ve)])) _
              refine XS.icmpNo X24.here hx rfl (hb hby d11_44) rfl (flt (hc30 : ¬ (ve < (4 : Int32)))).1 ?_
              show Steps p.tables e below (T24.setTop (mkF m 47 #[.val (.ref va), .val (.int ve)] [])) _
              refine XS.aloadN X24.here hx rfl (hb hby d11_47) rfl rfl ?_
              show Steps p.tables e below (T24.setTop (mkF m 48 #[.val (.ref va), .val (.int ve)] [(.ref va)])) _
              refine XS.iconst X24.here hx rfl (hb hby d11_48) ?_
              show Steps p.tables e below (T24.setTop (mkF m 49 #[.val (.ref va), .val (.int ve)] [(.int (3 : Int32)), (.ref va)])) _
              refine X24.caload hx (j := (3 : Int32)) (v := (.int x3)) (by rw [e24q]; exact Ar31.1) (State.isArrayOf_alike hZ.alike Ar31.2.1) Ar31.2.2 hin31 hat31 (g := (mkF m 49 #[.val (.ref va), .val (.int ve)] [(.int (3 : Int32)), (.ref va)])) rfl rfl (hb hby d11_49) _ ?_
              show Steps p.tables e below (T24.setTop (mkF m 50 #[.val (.ref va), .val (.int ve)] [(.int x3)])) _
              refine st32 _ ?_
              exact kt
            by_cases hc34 : (own_zo x3) = (0 : Int32)
            ·
              obtain ⟨fs, hr, hrun, hended, hW, hsame⟩ := X32.leave (v := some (.int (0 : Int32))) (fun h => by rw [Bd.returns] at h; cases h)
              refine ⟨_, _, pre33 _ ?_, hrun, hended, _, _, rfl, ?_, ⟨_, rfl⟩, hW, hsame.mono (by decide) (by decide)⟩
              ·
                show Steps p.tables e below (T32.setTop (mkF m 53 #[.val (.ref va), .val (.int ve)] [(.int (own_zo x3))])) _
                refine XS.ifYes X32.here hx rfl (pc0 := 53) (pc' := 60) rfl (hb hby d11_53) rfl ((if0 _ _).trans (teq (hc34 : (own_zo x3) = (0 : Int32))).1) (by decide) (by decide) ?_
                show Steps p.tables e below (T32.setTop (mkF m 60 #[.val (.ref va), .val (.int ve)] [])) _
                refine XS.iconst X32.here hx rfl (hb hby d11_60) ?_
                show Steps p.tables e below (T32.setTop (mkF m 61 #[.val (.ref va), .val (.int ve)] [(.int (0 : Int32))])) _
                exact retN X32 hx (t := .boolean) Bd.returns (by simp) (hb hby d11_61) hr
              ·
                show Q11 Z va ve x0 x1 x2 x3 kb h0 n0 _ T32.heap _
                rw [e32q]
                have hv : (0 : Int32) = (own_ex va ve x0 x1 x2 x3) := by rw [own_ex, if_pos hc2, if_neg hc4, if_neg hc26, if_pos hc28, if_neg hc30, if_pos hc34]
                exact ⟨(congrArg (fun z => some (Value.int z)) hv), N32, rfl⟩
            ·
              obtain ⟨fs, hr, hrun, hended, hW, hsame⟩ := X32.leave (v := some (.int (1 : Int32))) (fun h => by rw [Bd.returns] at h; cases h)
              refine ⟨_, _, pre33 _ ?_, hrun, hended, _, _, rfl, ?_, ⟨_, rfl⟩, hW, hsame.mono (by decide) (by decide)⟩
              ·
                show Steps p.tables e below (T32.setTop (mkF m 53 #[.val (.ref va), .val (.int ve)] [(.int (own_zo x3))])) _
                refine XS.ifNo X32.here hx rfl (hb hby d11_53) rfl ((if0 _ _).trans (feq (hc34 : ¬ ((own_zo x3) = (0 : Int32)))).1) ?_
                show Steps p.tables e below (T32.setTop (mkF m 56 #[.val (.ref va), .val (.int ve)] [])) _
                refine XS.iconst X32.here hx rfl (hb hby d11_56) ?_
                show Steps p.tables e below (T32.setTop (mkF m 57 #[.val (.ref va), .val (.int ve)] [(.int (1 : Int32))])) _
                refine XS.goto X32.here hx rfl (pc0 := 57) (pc' := 61) rfl (hb hby d11_57) (by decide) (by decide) ?_
                show Steps p.tables e below (T32.setTop (mkF m 61 #[.val (.ref va), .val (.int ve)] [(.int (1 : Int32))])) _
                exact retN X32 hx (t := .boolean) Bd.returns (by simp) (hb hby d11_61) hr
              ·
                show Q11 Z va ve x0 x1 x2 x3 kb h0 n0 _ T32.heap _
                rw [e32q]
                have hv : (1 : Int32) = (own_ex va ve x0 x1 x2 x3) := by rw [own_ex, if_pos hc2, if_neg hc4, if_neg hc26, if_pos hc28, if_neg hc30, if_neg hc34]
                exact ⟨(congrArg (fun z => some (Value.int z)) hv), N32, rfl⟩
        ·
          obtain ⟨cl35, Ar35, q35, S35, NN35, HH35, GG35⟩ := id Va
          have hin35 : ¬ ((2 : Int32) < 0 ∨ cl35.slots.size ≤ ((2 : Int32)).toNatClampNeg) := inb_of S35 ⟨by decide, by decide⟩
          have hat35 : cl35.slots[((2 : Int32)).toNatClampNeg]? = some (.int x2) := HH35.at hin35 rfl
          obtain ⟨_, _, ⟨T36, L36, k36, n36⟩, -, X36, ⟨Lc36, hQ36, l36, y36, z36⟩, st36⟩ := Jvm.LawKit.callS X24 hx (y := (⟨"com/example/paniere/paniere/DigitsIsZeroPinLaw", "zeroish", "(C)Z"⟩ : MethodName)) hown (mvT hZ (hw _ (List.mem_of_getElem? (i := 84) rfl))) (mvT hZ (hw _ (List.mem_of_getElem? (i := 85) rfl))) (mvT hZ (hw _ (List.mem_of_getElem? (i := 3) rfl))) (mvT hZ (hw _ (List.mem_of_getElem? (i := 86) rfl))) (by decide) (backOf (W := 0) (rm17 l Z a0 hw [] x2  h0 n0 Z0 ) hZ (hw _ (List.mem_of_getElem? (i := 86) rfl)) (hw _ (List.mem_of_getElem? (i := 3) rfl)) (by decide) (by decide)) (g := (mkF m 36 #[.val (.ref va), .val (.int ve)] [(.int x2)])) rfl (by rw [hml]; rfl) (argsL := [(.int x2)]) (rest := []) (lenOf pd_2 rfl) rfl (by show 2 * 0 + _ ≤ _; exact Nat.le_of_eq rfl) (hb hby d11_36) (fun _ _ => ⟨rfl, e24q, (by decide : 0 + 0 ≤ _), (by decide : 0 + 0 ≤ _)⟩)
          dsimp only [Pt.U, Pt.locs, Pt.cells, Pt.slots] at X36 l36 y36 z36 st36 hQ36
          subst l36 y36 z36
          obtain ⟨rfl, N36q, e36q⟩ := hQ36
          have N36 := Fr.app N24 N36q
          have pre37 : ∀ t, Steps p.tables e below (T36.setTop (mkF m 39 #[.val (.ref va), .val (.int ve)] [(.int (own_zo x2))])) t → Steps p.tables e below (s₁.setTop (entryFrame m #[(.ref va), (.int ve)] 2)) t := by
            intro t kt
            refine pre27 t ?_
            show Steps p.tables e below (T24.setTop (mkF m 30 #[.val (.ref va), .val (.int ve)] [(.int (3 : Int32)), (.int ve)])) _
            refine XS.icmpNo X24.here hx rfl (hb hby d11_30) rfl (flt (hc28 : ¬ (ve < (3 : Int32)))).1 ?_
            show Steps p.tables e below (T24.setTop (mkF m 33 #[.val (.ref va), .val (.int ve)] [])) _
            refine XS.aloadN X24.here hx rfl (hb hby d11_33) rfl rfl ?_
            show Steps p.tables e below (T24.setTop (mkF m 34 #[.val (.ref va), .val (.int ve)] [(.ref va)])) _
            refine XS.iconst X24.here hx rfl (hb hby d11_34) ?_
            show Steps p.tables e below (T24.setTop (mkF m 35 #[.val (.ref va), .val (.int ve)] [(.int (2 : Int32)), (.ref va)])) _
            refine X24.caload hx (j := (2 : Int32)) (v := (.int x2)) (by rw [e24q]; exact Ar35.1) (State.isArrayOf_alike hZ.alike Ar35.2.1) Ar35.2.2 hin35 hat35 (g := (mkF m 35 #[.val (.ref va), .val (.int ve)] [(.int (2 : Int32)), (.ref va)])) rfl rfl (hb hby d11_35) _ ?_
            show Steps p.tables e below (T24.setTop (mkF m 36 #[.val (.ref va), .val (.int ve)] [(.int x2)])) _
            refine st36 _ ?_
            exact kt
          by_cases hc38 : (own_zo x2) = (0 : Int32)
          ·
            obtain ⟨fs, hr, hrun, hended, hW, hsame⟩ := X36.leave (v := some (.int (0 : Int32))) (fun h => by rw [Bd.returns] at h; cases h)
            refine ⟨_, _, pre37 _ ?_, hrun, hended, _, _, rfl, ?_, ⟨_, rfl⟩, hW, hsame.mono (by decide) (by decide)⟩
            ·
              show Steps p.tables e below (T36.setTop (mkF m 39 #[.val (.ref va), .val (.int ve)] [(.int (own_zo x2))])) _
              refine XS.ifYes X36.here hx rfl (pc0 := 39) (pc' := 60) rfl (hb hby d11_39) rfl ((if0 _ _).trans (teq (hc38 : (own_zo x2) = (0 : Int32))).1) (by decide) (by decide) ?_
              show Steps p.tables e below (T36.setTop (mkF m 60 #[.val (.ref va), .val (.int ve)] [])) _
              refine XS.iconst X36.here hx rfl (hb hby d11_60) ?_
              show Steps p.tables e below (T36.setTop (mkF m 61 #[.val (.ref va), .val (.int ve)] [(.int (0 : Int32))])) _
              exact retN X36 hx (t := .boolean) Bd.returns (by simp) (hb hby d11_61) hr
            ·
              show Q11 Z va ve x0 x1 x2 x3 kb h0 n0 _ T36.heap _
              rw [e36q]
              have hv : (0 : Int32) = (own_ex va ve x0 x1 x2 x3) := by rw [own_ex, if_pos hc2, if_neg hc4, if_neg hc26, if_neg hc28, if_pos hc38]
              exact ⟨(congrArg (fun z => some (Value.int z)) hv), N36, rfl⟩
          ·
            have pre39 : ∀ t, Steps p.tables e below (T36.setTop (mkF m 44 #[.val (.ref va), .val (.int ve)] [(.int (4 : Int32)), (.int ve)])) t → Steps p.tables e below (s₁.setTop (entryFrame m #[(.ref va), (.int ve)] 2)) t := by
              intro t kt
              refine pre37 t ?_
              show Steps p.tables e below (T36.setTop (mkF m 39 #[.val (.ref va), .val (.int ve)] [(.int (own_zo x2))])) _
              refine XS.ifNo X36.here hx rfl (hb hby d11_39) rfl ((if0 _ _).trans (feq (hc38 : ¬ ((own_zo x2) = (0 : Int32)))).1) ?_
              show Steps p.tables e below (T36.setTop (mkF m 42 #[.val (.ref va), .val (.int ve)] [])) _
              refine XS.iloadN X36.here hx rfl (hb hby d11_42) rfl ?_
              show Steps p.tables e below (T36.setTop (mkF m 43 #[.val (.ref va), .val (.int ve)] [(.int ve)])) _
              refine XS.iconst X36.here hx rfl (hb hby d11_43) ?_
              exact kt
            by_cases hc40 : ve < (4 : Int32)
            ·
              obtain ⟨fs, hr, hrun, hended, hW, hsame⟩ := X36.leave (v := some (.int (1 : Int32))) (fun h => by rw [Bd.returns] at h; cases h)
              refine ⟨_, _, pre39 _ ?_, hrun, hended, _, _, rfl, ?_, ⟨_, rfl⟩, hW, hsame.mono (by decide) (by decide)⟩
              ·
                show Steps p.tables e below (T36.setTop (mkF m 44 #[.val (.ref va), .val (.int ve)] [(.int (4 : Int32)), (.int ve)])) _
                refine XS.icmpYes X36.here hx rfl (pc0 := 44) (pc' := 56) rfl (hb hby d11_44) rfl (tlt (hc40 : ve < (4 : Int32))).1 (by decide) (by decide) ?_
                show Steps p.tables e below (T36.setTop (mkF m 56 #[.val (.ref va), .val (.int ve)] [])) _
                refine XS.iconst X36.here hx rfl (hb hby d11_56) ?_
                show Steps p.tables e below (T36.setTop (mkF m 57 #[.val (.ref va), .val (.int ve)] [(.int (1 : Int32))])) _
                refine XS.goto X36.here hx rfl (pc0 := 57) (pc' := 61) rfl (hb hby d11_57) (by decide) (by decide) ?_
                show Steps p.tables e below (T36.setTop (mkF m 61 #[.val (.ref va), .val (.int ve)] [(.int (1 : Int32))])) _
                exact retN X36 hx (t := .boolean) Bd.returns (by simp) (hb hby d11_61) hr
              ·
                show Q11 Z va ve x0 x1 x2 x3 kb h0 n0 _ T36.heap _
                rw [e36q]
                have hv : (1 : Int32) = (own_ex va ve x0 x1 x2 x3) := by rw [own_ex, if_pos hc2, if_neg hc4, if_neg hc26, if_neg hc28, if_neg hc38, if_pos hc40]
                exact ⟨(congrArg (fun z => some (Value.int z)) hv), N36, rfl⟩
            ·
              obtain ⟨cl41, Ar41, q41, S41, NN41, HH41, GG41⟩ := id Va
              have hin41 : ¬ ((3 : Int32) < 0 ∨ cl41.slots.size ≤ ((3 : Int32)).toNatClampNeg) := inb_of S41 ⟨by decide, by decide⟩
              have hat41 : cl41.slots[((3 : Int32)).toNatClampNeg]? = some (.int x3) := HH41.at hin41 rfl
              obtain ⟨_, _, ⟨T42, L42, k42, n42⟩, -, X42, ⟨Lc42, hQ42, l42, y42, z42⟩, st42⟩ := Jvm.LawKit.callS X36 hx (y := (⟨"com/example/paniere/paniere/DigitsIsZeroPinLaw", "zeroish", "(C)Z"⟩ : MethodName)) hown (mvT hZ (hw _ (List.mem_of_getElem? (i := 84) rfl))) (mvT hZ (hw _ (List.mem_of_getElem? (i := 85) rfl))) (mvT hZ (hw _ (List.mem_of_getElem? (i := 3) rfl))) (mvT hZ (hw _ (List.mem_of_getElem? (i := 86) rfl))) (by decide) (backOf (W := 0) (rm17 l Z a0 hw [] x3  h0 n0 Z0 ) hZ (hw _ (List.mem_of_getElem? (i := 86) rfl)) (hw _ (List.mem_of_getElem? (i := 3) rfl)) (by decide) (by decide)) (g := (mkF m 50 #[.val (.ref va), .val (.int ve)] [(.int x3)])) rfl (by rw [hml]; rfl) (argsL := [(.int x3)]) (rest := []) (lenOf pd_2 rfl) rfl (by show 2 * 0 + _ ≤ _; exact Nat.le_of_eq rfl) (hb hby d11_50) (fun _ _ => ⟨rfl, e36q, (by decide : 0 + 0 ≤ _), (by decide : 0 + 0 ≤ _)⟩)
              dsimp only [Pt.U, Pt.locs, Pt.cells, Pt.slots] at X42 l42 y42 z42 st42 hQ42
              subst l42 y42 z42
              obtain ⟨rfl, N42q, e42q⟩ := hQ42
              have N42 := Fr.app N36 N42q
              have pre43 : ∀ t, Steps p.tables e below (T42.setTop (mkF m 53 #[.val (.ref va), .val (.int ve)] [(.int (own_zo x3))])) t → Steps p.tables e below (s₁.setTop (entryFrame m #[(.ref va), (.int ve)] 2)) t := by
                intro t kt
                refine pre39 t ?_
                show Steps p.tables e below (T36.setTop (mkF m 44 #[.val (.ref va), .val (.int ve)] [(.int (4 : Int32)), (.int ve)])) _
                refine XS.icmpNo X36.here hx rfl (hb hby d11_44) rfl (flt (hc40 : ¬ (ve < (4 : Int32)))).1 ?_
                show Steps p.tables e below (T36.setTop (mkF m 47 #[.val (.ref va), .val (.int ve)] [])) _
                refine XS.aloadN X36.here hx rfl (hb hby d11_47) rfl rfl ?_
                show Steps p.tables e below (T36.setTop (mkF m 48 #[.val (.ref va), .val (.int ve)] [(.ref va)])) _
                refine XS.iconst X36.here hx rfl (hb hby d11_48) ?_
                show Steps p.tables e below (T36.setTop (mkF m 49 #[.val (.ref va), .val (.int ve)] [(.int (3 : Int32)), (.ref va)])) _
                refine X36.caload hx (j := (3 : Int32)) (v := (.int x3)) (by rw [e36q]; exact Ar41.1) (State.isArrayOf_alike hZ.alike Ar41.2.1) Ar41.2.2 hin41 hat41 (g := (mkF m 49 #[.val (.ref va), .val (.int ve)] [(.int (3 : Int32)), (.ref va)])) rfl rfl (hb hby d11_49) _ ?_
                show Steps p.tables e below (T36.setTop (mkF m 50 #[.val (.ref va), .val (.int ve)] [(.int x3)])) _
                refine st42 _ ?_
                exact kt
              by_cases hc44 : (own_zo x3) = (0 : Int32)
              ·
                obtain ⟨fs, hr, hrun, hended, hW, hsame⟩ := X42.leave (v := some (.int (0 : Int32))) (fun h => by rw [Bd.returns] at h; cases h)
                refine ⟨_, _, pre43 _ ?_, hrun, hended, _, _, rfl, ?_, ⟨_, rfl⟩, hW, hsame.mono (by decide) (by decide)⟩
                ·
                  show Steps p.tables e below (T42.setTop (mkF m 53 #[.val (.ref va), .val (.int ve)] [(.int (own_zo x3))])) _
                  refine XS.ifYes X42.here hx rfl (pc0 := 53) (pc' := 60) rfl (hb hby d11_53) rfl ((if0 _ _).trans (teq (hc44 : (own_zo x3) = (0 : Int32))).1) (by decide) (by decide) ?_
                  show Steps p.tables e below (T42.setTop (mkF m 60 #[.val (.ref va), .val (.int ve)] [])) _
                  refine XS.iconst X42.here hx rfl (hb hby d11_60) ?_
                  show Steps p.tables e below (T42.setTop (mkF m 61 #[.val (.ref va), .val (.int ve)] [(.int (0 : Int32))])) _
                  exact retN X42 hx (t := .boolean) Bd.returns (by simp) (hb hby d11_61) hr
                ·
                  show Q11 Z va ve x0 x1 x2 x3 kb h0 n0 _ T42.heap _
                  rw [e42q]
                  have hv : (0 : Int32) = (own_ex va ve x0 x1 x2 x3) := by rw [own_ex, if_pos hc2, if_neg hc4, if_neg hc26, if_neg hc28, if_neg hc38, if_neg hc40, if_pos hc44]
                  exact ⟨(congrArg (fun z => some (Value.int z)) hv), N42, rfl⟩
              ·
                obtain ⟨fs, hr, hrun, hended, hW, hsame⟩ := X42.leave (v := some (.int (1 : Int32))) (fun h => by rw [Bd.returns] at h; cases h)
                refine ⟨_, _, pre43 _ ?_, hrun, hended, _, _, rfl, ?_, ⟨_, rfl⟩, hW, hsame.mono (by decide) (by decide)⟩
                ·
                  show Steps p.tables e below (T42.setTop (mkF m 53 #[.val (.ref va), .val (.int ve)] [(.int (own_zo x3))])) _
                  refine XS.ifNo X42.here hx rfl (hb hby d11_53) rfl ((if0 _ _).trans (feq (hc44 : ¬ ((own_zo x3) = (0 : Int32)))).1) ?_
                  show Steps p.tables e below (T42.setTop (mkF m 56 #[.val (.ref va), .val (.int ve)] [])) _
                  refine XS.iconst X42.here hx rfl (hb hby d11_56) ?_
                  show Steps p.tables e below (T42.setTop (mkF m 57 #[.val (.ref va), .val (.int ve)] [(.int (1 : Int32))])) _
                  refine XS.goto X42.here hx rfl (pc0 := 57) (pc' := 61) rfl (hb hby d11_57) (by decide) (by decide) ?_
                  show Steps p.tables e below (T42.setTop (mkF m 61 #[.val (.ref va), .val (.int ve)] [(.int (1 : Int32))])) _
                  exact retN X42 hx (t := .boolean) Bd.returns (by simp) (hb hby d11_61) hr
                ·
                  show Q11 Z va ve x0 x1 x2 x3 kb h0 n0 _ T42.heap _
                  rw [e42q]
                  have hv : (1 : Int32) = (own_ex va ve x0 x1 x2 x3) := by rw [own_ex, if_pos hc2, if_neg hc4, if_neg hc26, if_neg hc28, if_neg hc38, if_neg hc40, if_neg hc44]
                  exact ⟨(congrArg (fun z => some (Value.int z)) hv), N42, rfl⟩
  ·
    obtain ⟨cl45, Ar45, q45, S45, NN45, HH45, GG45⟩ := id Va
    have hin45 : ¬ ((0 : Int32) < 0 ∨ cl45.slots.size ≤ ((0 : Int32)).toNatClampNeg) := inb_of S45 ⟨by decide, by decide⟩
    have hat45 : cl45.slots[((0 : Int32)).toNatClampNeg]? = some (.int x0) := HH45.at hin45 rfl
    obtain ⟨_, _, ⟨T46, L46, k46, n46⟩, -, X46, ⟨Lc46, hQ46, l46, y46, z46⟩, st46⟩ := Jvm.LawKit.callS X0 hx (y := (⟨"com/example/paniere/paniere/DigitsIsZeroPinLaw", "zeroish", "(C)Z"⟩ : MethodName)) hown (mvT hZ (hw _ (List.mem_of_getElem? (i := 84) rfl))) (mvT hZ (hw _ (List.mem_of_getElem? (i := 85) rfl))) (mvT hZ (hw _ (List.mem_of_getElem? (i := 3) rfl))) (mvT hZ (hw _ (List.mem_of_getElem? (i := 86) rfl))) (by decide) (backOf (W := 0) (rm17 l Z a0 hw [] x0  h0 n0 Z0 ) hZ (hw _ (List.mem_of_getElem? (i := 86) rfl)) (hw _ (List.mem_of_getElem? (i := 3) rfl)) (by decide) (by decide)) (g := (mkF m 8 #[.val (.ref va), .val (.int ve)] [(.int x0)])) rfl (by rw [hml]; rfl) (argsL := [(.int x0)]) (rest := []) (lenOf pd_2 rfl) rfl (by show 2 * 0 + _ ≤ _; exact Nat.le_of_eq rfl) (hb hby d11_8) (fun _ _ => ⟨rfl, e0, (by decide : 0 + 0 ≤ _), (by decide : 0 + 0 ≤ _)⟩)
    dsimp only [Pt.U, Pt.locs, Pt.cells, Pt.slots] at X46 l46 y46 z46 st46 hQ46
    subst l46 y46 z46
    obtain ⟨rfl, N46q, e46q⟩ := hQ46
    have N46 := Fr.app N0 N46q
    have pre47 : ∀ t, Steps p.tables e below (T46.setTop (mkF m 11 #[.val (.ref va), .val (.int ve)] [(.int (own_zo x0))])) t → Steps p.tables e below (s₁.setTop (entryFrame m #[(.ref va), (.int ve)] 2)) t := by
      intro t kt
      refine pre1 t ?_
      show Steps p.tables e below (s₁.setTop (mkF m 2 #[.val (.ref va), .val (.int ve)] [(.int (1 : Int32)), (.int ve)])) _
      refine XS.icmpNo X0.here hx rfl (hb hby d11_2) rfl (flt (hc2 : ¬ (ve < (1 : Int32)))).1 ?_
      show Steps p.tables e below (s₁.setTop (mkF m 5 #[.val (.ref va), .val (.int ve)] [])) _
      refine XS.aloadN X0.here hx rfl (hb hby d11_5) rfl rfl ?_
      show Steps p.tables e below (s₁.setTop (mkF m 6 #[.val (.ref va), .val (.int ve)] [(.ref va)])) _
      refine XS.iconst X0.here hx rfl (hb hby d11_6) ?_
      show Steps p.tables e below (s₁.setTop (mkF m 7 #[.val (.ref va), .val (.int ve)] [(.int (0 : Int32)), (.ref va)])) _
      refine X0.caload hx (j := (0 : Int32)) (v := (.int x0)) (by rw [e0]; exact Ar45.1) (State.isArrayOf_alike hZ.alike Ar45.2.1) Ar45.2.2 hin45 hat45 (g := (mkF m 7 #[.val (.ref va), .val (.int ve)] [(.int (0 : Int32)), (.ref va)])) rfl rfl (hb hby d11_7) _ ?_
      show Steps p.tables e below (s₁.setTop (mkF m 8 #[.val (.ref va), .val (.int ve)] [(.int x0)])) _
      refine st46 _ ?_
      exact kt
    by_cases hc48 : (own_zo x0) = (0 : Int32)
    ·
      obtain ⟨fs, hr, hrun, hended, hW, hsame⟩ := X46.leave (v := some (.int (0 : Int32))) (fun h => by rw [Bd.returns] at h; cases h)
      refine ⟨_, _, pre47 _ ?_, hrun, hended, _, _, rfl, ?_, ⟨_, rfl⟩, hW, hsame.mono (by decide) (by decide)⟩
      ·
        show Steps p.tables e below (T46.setTop (mkF m 11 #[.val (.ref va), .val (.int ve)] [(.int (own_zo x0))])) _
        refine XS.ifYes X46.here hx rfl (pc0 := 11) (pc' := 60) rfl (hb hby d11_11) rfl ((if0 _ _).trans (teq (hc48 : (own_zo x0) = (0 : Int32))).1) (by decide) (by decide) ?_
        show Steps p.tables e below (T46.setTop (mkF m 60 #[.val (.ref va), .val (.int ve)] [])) _
        refine XS.iconst X46.here hx rfl (hb hby d11_60) ?_
        show Steps p.tables e below (T46.setTop (mkF m 61 #[.val (.ref va), .val (.int ve)] [(.int (0 : Int32))])) _
        exact retN X46 hx (t := .boolean) Bd.returns (by simp) (hb hby d11_61) hr
      ·
        show Q11 Z va ve x0 x1 x2 x3 kb h0 n0 _ T46.heap _
        rw [e46q]
        have hv : (0 : Int32) = (own_ex va ve x0 x1 x2 x3) := by rw [own_ex, if_neg hc2, if_pos hc48]
        exact ⟨(congrArg (fun z => some (Value.int z)) hv), N46, rfl⟩
    ·
      have pre49 : ∀ t, Steps p.tables e below (T46.setTop (mkF m 16 #[.val (.ref va), .val (.int ve)] [(.int (2 : Int32)), (.int ve)])) t → Steps p.tables e below (s₁.setTop (entryFrame m #[(.ref va), (.int ve)] 2)) t := by
        intro t kt
        refine pre47 t ?_
        show Steps p.tables e below (T46.setTop (mkF m 11 #[.val (.ref va), .val (.int ve)] [(.int (own_zo x0))])) _
        refine XS.ifNo X46.here hx rfl (hb hby d11_11) rfl ((if0 _ _).trans (feq (hc48 : ¬ ((own_zo x0) = (0 : Int32)))).1) ?_
        show Steps p.tables e below (T46.setTop (mkF m 14 #[.val (.ref va), .val (.int ve)] [])) _
        refine XS.iloadN X46.here hx rfl (hb hby d11_14) rfl ?_
        show Steps p.tables e below (T46.setTop (mkF m 15 #[.val (.ref va), .val (.int ve)] [(.int ve)])) _
        refine XS.iconst X46.here hx rfl (hb hby d11_15) ?_
        exact kt
      by_cases hc50 : ve < (2 : Int32)
      ·
        have pre51 : ∀ t, Steps p.tables e below (T46.setTop (mkF m 30 #[.val (.ref va), .val (.int ve)] [(.int (3 : Int32)), (.int ve)])) t → Steps p.tables e below (s₁.setTop (entryFrame m #[(.ref va), (.int ve)] 2)) t := by
          intro t kt
          refine pre49 t ?_
          show Steps p.tables e below (T46.setTop (mkF m 16 #[.val (.ref va), .val (.int ve)] [(.int (2 : Int32)), (.int ve)])) _
          refine XS.icmpYes X46.here hx rfl (pc0 := 16) (pc' := 28) rfl (hb hby d11_16) rfl (tlt (hc50 : ve < (2 : Int32))).1 (by decide) (by decide) ?_
          show Steps p.tables e below (T46.setTop (mkF m 28 #[.val (.ref va), .val (.int ve)] [])) _
          refine XS.iloadN X46.here hx rfl (hb hby d11_28) rfl ?_
          show Steps p.tables e below (T46.setTop (mkF m 29 #[.val (.ref va), .val (.int ve)] [(.int ve)])) _
          refine XS.iconst X46.here hx rfl (hb hby d11_29) ?_
          exact kt
        by_cases hc52 : ve < (3 : Int32)
        ·
          have pre53 : ∀ t, Steps p.tables e below (T46.setTop (mkF m 44 #[.val (.ref va), .val (.int ve)] [(.int (4 : Int32)), (.int ve)])) t → Steps p.tables e below (s₁.setTop (entryFrame m #[(.ref va), (.int ve)] 2)) t := by
            intro t kt
            refine pre51 t ?_
            show Steps p.tables e below (T46.setTop (mkF m 30 #[.val (.ref va), .val (.int ve)] [(.int (3 : Int32)), (.int ve)])) _
            refine XS.icmpYes X46.here hx rfl (pc0 := 30) (pc' := 42) rfl (hb hby d11_30) rfl (tlt (hc52 : ve < (3 : Int32))).1 (by decide) (by decide) ?_
            show Steps p.tables e below (T46.setTop (mkF m 42 #[.val (.ref va), .val (.int ve)] [])) _
            refine XS.iloadN X46.here hx rfl (hb hby d11_42) rfl ?_
            show Steps p.tables e below (T46.setTop (mkF m 43 #[.val (.ref va), .val (.int ve)] [(.int ve)])) _
            refine XS.iconst X46.here hx rfl (hb hby d11_43) ?_
            exact kt
          by_cases hc54 : ve < (4 : Int32)
          ·
            obtain ⟨fs, hr, hrun, hended, hW, hsame⟩ := X46.leave (v := some (.int (1 : Int32))) (fun h => by rw [Bd.returns] at h; cases h)
            refine ⟨_, _, pre53 _ ?_, hrun, hended, _, _, rfl, ?_, ⟨_, rfl⟩, hW, hsame.mono (by decide) (by decide)⟩
            ·
              show Steps p.tables e below (T46.setTop (mkF m 44 #[.val (.ref va), .val (.int ve)] [(.int (4 : Int32)), (.int ve)])) _
              refine XS.icmpYes X46.here hx rfl (pc0 := 44) (pc' := 56) rfl (hb hby d11_44) rfl (tlt (hc54 : ve < (4 : Int32))).1 (by decide) (by decide) ?_
              show Steps p.tables e below (T46.setTop (mkF m 56 #[.val (.ref va), .val (.int ve)] [])) _
              refine XS.iconst X46.here hx rfl (hb hby d11_56) ?_
              show Steps p.tables e below (T46.setTop (mkF m 57 #[.val (.ref va), .val (.int ve)] [(.int (1 : Int32))])) _
              refine XS.goto X46.here hx rfl (pc0 := 57) (pc' := 61) rfl (hb hby d11_57) (by decide) (by decide) ?_
              show Steps p.tables e below (T46.setTop (mkF m 61 #[.val (.ref va), .val (.int ve)] [(.int (1 : Int32))])) _
              exact retN X46 hx (t := .boolean) Bd.returns (by simp) (hb hby d11_61) hr
            ·
              show Q11 Z va ve x0 x1 x2 x3 kb h0 n0 _ T46.heap _
              rw [e46q]
              have hv : (1 : Int32) = (own_ex va ve x0 x1 x2 x3) := by rw [own_ex, if_neg hc2, if_neg hc48, if_pos hc50, if_pos hc52, if_pos hc54]
              exact ⟨(congrArg (fun z => some (Value.int z)) hv), N46, rfl⟩
          ·
            obtain ⟨cl55, Ar55, q55, S55, NN55, HH55, GG55⟩ := id Va
            have hin55 : ¬ ((3 : Int32) < 0 ∨ cl55.slots.size ≤ ((3 : Int32)).toNatClampNeg) := inb_of S55 ⟨by decide, by decide⟩
            have hat55 : cl55.slots[((3 : Int32)).toNatClampNeg]? = some (.int x3) := HH55.at hin55 rfl
            obtain ⟨_, _, ⟨T56, L56, k56, n56⟩, -, X56, ⟨Lc56, hQ56, l56, y56, z56⟩, st56⟩ := Jvm.LawKit.callS X46 hx (y := (⟨"com/example/paniere/paniere/DigitsIsZeroPinLaw", "zeroish", "(C)Z"⟩ : MethodName)) hown (mvT hZ (hw _ (List.mem_of_getElem? (i := 84) rfl))) (mvT hZ (hw _ (List.mem_of_getElem? (i := 85) rfl))) (mvT hZ (hw _ (List.mem_of_getElem? (i := 3) rfl))) (mvT hZ (hw _ (List.mem_of_getElem? (i := 86) rfl))) (by decide) (backOf (W := 0) (rm17 l Z a0 hw [] x3  h0 n0 Z0 ) hZ (hw _ (List.mem_of_getElem? (i := 86) rfl)) (hw _ (List.mem_of_getElem? (i := 3) rfl)) (by decide) (by decide)) (g := (mkF m 50 #[.val (.ref va), .val (.int ve)] [(.int x3)])) rfl (by rw [hml]; rfl) (argsL := [(.int x3)]) (rest := []) (lenOf pd_2 rfl) rfl (by show 2 * 0 + _ ≤ _; exact Nat.le_of_eq rfl) (hb hby d11_50) (fun _ _ => ⟨rfl, e46q, (by decide : 0 + 0 ≤ _), (by decide : 0 + 0 ≤ _)⟩)
            dsimp only [Pt.U, Pt.locs, Pt.cells, Pt.slots] at X56 l56 y56 z56 st56 hQ56
            subst l56 y56 z56
            obtain ⟨rfl, N56q, e56q⟩ := hQ56
            have N56 := Fr.app N46 N56q
            have pre57 : ∀ t, Steps p.tables e below (T56.setTop (mkF m 53 #[.val (.ref va), .val (.int ve)] [(.int (own_zo x3))])) t → Steps p.tables e below (s₁.setTop (entryFrame m #[(.ref va), (.int ve)] 2)) t := by
              intro t kt
              refine pre53 t ?_
              show Steps p.tables e below (T46.setTop (mkF m 44 #[.val (.ref va), .val (.int ve)] [(.int (4 : Int32)), (.int ve)])) _
              refine XS.icmpNo X46.here hx rfl (hb hby d11_44) rfl (flt (hc54 : ¬ (ve < (4 : Int32)))).1 ?_
              show Steps p.tables e below (T46.setTop (mkF m 47 #[.val (.ref va), .val (.int ve)] [])) _
              refine XS.aloadN X46.here hx rfl (hb hby d11_47) rfl rfl ?_
              show Steps p.tables e below (T46.setTop (mkF m 48 #[.val (.ref va), .val (.int ve)] [(.ref va)])) _
              refine XS.iconst X46.here hx rfl (hb hby d11_48) ?_
              show Steps p.tables e below (T46.setTop (mkF m 49 #[.val (.ref va), .val (.int ve)] [(.int (3 : Int32)), (.ref va)])) _
              refine X46.caload hx (j := (3 : Int32)) (v := (.int x3)) (by rw [e46q]; exact Ar55.1) (State.isArrayOf_alike hZ.alike Ar55.2.1) Ar55.2.2 hin55 hat55 (g := (mkF m 49 #[.val (.ref va), .val (.int ve)] [(.int (3 : Int32)), (.ref va)])) rfl rfl (hb hby d11_49) _ ?_
              show Steps p.tables e below (T46.setTop (mkF m 50 #[.val (.ref va), .val (.int ve)] [(.int x3)])) _
              refine st56 _ ?_
              exact kt
            by_cases hc58 : (own_zo x3) = (0 : Int32)
            ·
              obtain ⟨fs, hr, hrun, hended, hW, hsame⟩ := X56.leave (v := some (.int (0 : Int32))) (fun h => by rw [Bd.returns] at h; cases h)
              refine ⟨_, _, pre57 _ ?_, hrun, hended, _, _, rfl, ?_, ⟨_, rfl⟩, hW, hsame.mono (by decide) (by decide)⟩
              ·
                show Steps p.tables e below (T56.setTop (mkF m 53 #[.val (.ref va), .val (.int ve)] [(.int (own_zo x3))])) _
                refine XS.ifYes X56.here hx rfl (pc0 := 53) (pc' := 60) rfl (hb hby d11_53) rfl ((if0 _ _).trans (teq (hc58 : (own_zo x3) = (0 : Int32))).1) (by decide) (by decide) ?_
                show Steps p.tables e below (T56.setTop (mkF m 60 #[.val (.ref va), .val (.int ve)] [])) _
                refine XS.iconst X56.here hx rfl (hb hby d11_60) ?_
                show Steps p.tables e below (T56.setTop (mkF m 61 #[.val (.ref va), .val (.int ve)] [(.int (0 : Int32))])) _
                exact retN X56 hx (t := .boolean) Bd.returns (by simp) (hb hby d11_61) hr
              ·
                show Q11 Z va ve x0 x1 x2 x3 kb h0 n0 _ T56.heap _
                rw [e56q]
                have hv : (0 : Int32) = (own_ex va ve x0 x1 x2 x3) := by rw [own_ex, if_neg hc2, if_neg hc48, if_pos hc50, if_pos hc52, if_neg hc54, if_pos hc58]
                exact ⟨(congrArg (fun z => some (Value.int z)) hv), N56, rfl⟩
            ·
              obtain ⟨fs, hr, hrun, hended, hW, hsame⟩ := X56.leave (v := some (.int (1 : Int32))) (fun h => by rw [Bd.returns] at h; cases h)
              refine ⟨_, _, pre57 _ ?_, hrun, hended, _, _, rfl, ?_, ⟨_, rfl⟩, hW, hsame.mono (by decide) (by decide)⟩
              ·
                show Steps p.tables e below (T56.setTop (mkF m 53 #[.val (.ref va), .val (.int ve)] [(.int (own_zo x3))])) _
                refine XS.ifNo X56.here hx rfl (hb hby d11_53) rfl ((if0 _ _).trans (feq (hc58 : ¬ ((own_zo x3) = (0 : Int32)))).1) ?_
                show Steps p.tables e below (T56.setTop (mkF m 56 #[.val (.ref va), .val (.int ve)] [])) _
                refine XS.iconst X56.here hx rfl (hb hby d11_56) ?_
                show Steps p.tables e below (T56.setTop (mkF m 57 #[.val (.ref va), .val (.int ve)] [(.int (1 : Int32))])) _
                refine XS.goto X56.here hx rfl (pc0 := 57) (pc' := 61) rfl (hb hby d11_57) (by decide) (by decide) ?_
                show Steps p.tables e below (T56.setTop (mkF m 61 #[.val (.ref va), .val (.int ve)] [(.int (1 : Int32))])) _
                exact retN X56 hx (t := .boolean) Bd.returns (by simp) (hb hby d11_61) hr
              ·
                show Q11 Z va ve x0 x1 x2 x3 kb h0 n0 _ T56.heap _
                rw [e56q]
                have hv : (1 : Int32) = (own_ex va ve x0 x1 x2 x3) := by rw [own_ex, if_neg hc2, if_neg hc48, if_pos hc50, if_pos hc52, if_neg hc54, if_neg hc58]
                exact ⟨(congrArg (fun z => some (Value.int z)) hv), N56, rfl⟩
        ·
          obtain ⟨cl59, Ar59, q59, S59, NN59, HH59, GG59⟩ := id Va
          have hin59 : ¬ ((2 : Int32) < 0 ∨ cl59.slots.size ≤ ((2 : Int32)).toNatClampNeg) := inb_of S59 ⟨by decide, by decide⟩
          have hat59 : cl59.slots[((2 : Int32)).toNatClampNeg]? = some (.int x2) := HH59.at hin59 rfl
          obtain ⟨_, _, ⟨T60, L60, k60, n60⟩, -, X60, ⟨Lc60, hQ60, l60, y60, z60⟩, st60⟩ := Jvm.LawKit.callS X46 hx (y := (⟨"com/example/paniere/paniere/DigitsIsZeroPinLaw", "zeroish", "(C)Z"⟩ : MethodName)) hown (mvT hZ (hw _ (List.mem_of_getElem? (i := 84) rfl))) (mvT hZ (hw _ (List.mem_of_getElem? (i := 85) rfl))) (mvT hZ (hw _ (List.mem_of_getElem? (i := 3) rfl))) (mvT hZ (hw _ (List.mem_of_getElem? (i := 86) rfl))) (by decide) (backOf (W := 0) (rm17 l Z a0 hw [] x2  h0 n0 Z0 ) hZ (hw _ (List.mem_of_getElem? (i := 86) rfl)) (hw _ (List.mem_of_getElem? (i := 3) rfl)) (by decide) (by decide)) (g := (mkF m 36 #[.val (.ref va), .val (.int ve)] [(.int x2)])) rfl (by rw [hml]; rfl) (argsL := [(.int x2)]) (rest := []) (lenOf pd_2 rfl) rfl (by show 2 * 0 + _ ≤ _; exact Nat.le_of_eq rfl) (hb hby d11_36) (fun _ _ => ⟨rfl, e46q, (by decide : 0 + 0 ≤ _), (by decide : 0 + 0 ≤ _)⟩)
          dsimp only [Pt.U, Pt.locs, Pt.cells, Pt.slots] at X60 l60 y60 z60 st60 hQ60
          subst l60 y60 z60
          obtain ⟨rfl, N60q, e60q⟩ := hQ60
          have N60 := Fr.app N46 N60q
          have pre61 : ∀ t, Steps p.tables e below (T60.setTop (mkF m 39 #[.val (.ref va), .val (.int ve)] [(.int (own_zo x2))])) t → Steps p.tables e below (s₁.setTop (entryFrame m #[(.ref va), (.int ve)] 2)) t := by
            intro t kt
            refine pre51 t ?_
            show Steps p.tables e below (T46.setTop (mkF m 30 #[.val (.ref va), .val (.int ve)] [(.int (3 : Int32)), (.int ve)])) _
            refine XS.icmpNo X46.here hx rfl (hb hby d11_30) rfl (flt (hc52 : ¬ (ve < (3 : Int32)))).1 ?_
            show Steps p.tables e below (T46.setTop (mkF m 33 #[.val (.ref va), .val (.int ve)] [])) _
            refine XS.aloadN X46.here hx rfl (hb hby d11_33) rfl rfl ?_
            show Steps p.tables e below (T46.setTop (mkF m 34 #[.val (.ref va), .val (.int ve)] [(.ref va)])) _
            refine XS.iconst X46.here hx rfl (hb hby d11_34) ?_
            show Steps p.tables e below (T46.setTop (mkF m 35 #[.val (.ref va), .val (.int ve)] [(.int (2 : Int32)), (.ref va)])) _
            refine X46.caload hx (j := (2 : Int32)) (v := (.int x2)) (by rw [e46q]; exact Ar59.1) (State.isArrayOf_alike hZ.alike Ar59.2.1) Ar59.2.2 hin59 hat59 (g := (mkF m 35 #[.val (.ref va), .val (.int ve)] [(.int (2 : Int32)), (.ref va)])) rfl rfl (hb hby d11_35) _ ?_
            show Steps p.tables e below (T46.setTop (mkF m 36 #[.val (.ref va), .val (.int ve)] [(.int x2)])) _
            refine st60 _ ?_
            exact kt
          by_cases hc62 : (own_zo x2) = (0 : Int32)
          ·
            obtain ⟨fs, hr, hrun, hended, hW, hsame⟩ := X60.leave (v := some (.int (0 : Int32))) (fun h => by rw [Bd.returns] at h; cases h)
            refine ⟨_, _, pre61 _ ?_, hrun, hended, _, _, rfl, ?_, ⟨_, rfl⟩, hW, hsame.mono (by decide) (by decide)⟩
            ·
              show Steps p.tables e below (T60.setTop (mkF m 39 #[.val (.ref va), .val (.int ve)] [(.int (own_zo x2))])) _
              refine XS.ifYes X60.here hx rfl (pc0 := 39) (pc' := 60) rfl (hb hby d11_39) rfl ((if0 _ _).trans (teq (hc62 : (own_zo x2) = (0 : Int32))).1) (by decide) (by decide) ?_
              show Steps p.tables e below (T60.setTop (mkF m 60 #[.val (.ref va), .val (.int ve)] [])) _
              refine XS.iconst X60.here hx rfl (hb hby d11_60) ?_
              show Steps p.tables e below (T60.setTop (mkF m 61 #[.val (.ref va), .val (.int ve)] [(.int (0 : Int32))])) _
              exact retN X60 hx (t := .boolean) Bd.returns (by simp) (hb hby d11_61) hr
            ·
              show Q11 Z va ve x0 x1 x2 x3 kb h0 n0 _ T60.heap _
              rw [e60q]
              have hv : (0 : Int32) = (own_ex va ve x0 x1 x2 x3) := by rw [own_ex, if_neg hc2, if_neg hc48, if_pos hc50, if_neg hc52, if_pos hc62]
              exact ⟨(congrArg (fun z => some (Value.int z)) hv), N60, rfl⟩
          ·
            have pre63 : ∀ t, Steps p.tables e below (T60.setTop (mkF m 44 #[.val (.ref va), .val (.int ve)] [(.int (4 : Int32)), (.int ve)])) t → Steps p.tables e below (s₁.setTop (entryFrame m #[(.ref va), (.int ve)] 2)) t := by
              intro t kt
              refine pre61 t ?_
              show Steps p.tables e below (T60.setTop (mkF m 39 #[.val (.ref va), .val (.int ve)] [(.int (own_zo x2))])) _
              refine XS.ifNo X60.here hx rfl (hb hby d11_39) rfl ((if0 _ _).trans (feq (hc62 : ¬ ((own_zo x2) = (0 : Int32)))).1) ?_
              show Steps p.tables e below (T60.setTop (mkF m 42 #[.val (.ref va), .val (.int ve)] [])) _
              refine XS.iloadN X60.here hx rfl (hb hby d11_42) rfl ?_
              show Steps p.tables e below (T60.setTop (mkF m 43 #[.val (.ref va), .val (.int ve)] [(.int ve)])) _
              refine XS.iconst X60.here hx rfl (hb hby d11_43) ?_
              exact kt
            by_cases hc64 : ve < (4 : Int32)
            ·
              obtain ⟨fs, hr, hrun, hended, hW, hsame⟩ := X60.leave (v := some (.int (1 : Int32))) (fun h => by rw [Bd.returns] at h; cases h)
              refine ⟨_, _, pre63 _ ?_, hrun, hended, _, _, rfl, ?_, ⟨_, rfl⟩, hW, hsame.mono (by decide) (by decide)⟩
              ·
                show Steps p.tables e below (T60.setTop (mkF m 44 #[.val (.ref va), .val (.int ve)] [(.int (4 : Int32)), (.int ve)])) _
                refine XS.icmpYes X60.here hx rfl (pc0 := 44) (pc' := 56) rfl (hb hby d11_44) rfl (tlt (hc64 : ve < (4 : Int32))).1 (by decide) (by decide) ?_
                show Steps p.tables e below (T60.setTop (mkF m 56 #[.val (.ref va), .val (.int ve)] [])) _
                refine XS.iconst X60.here hx rfl (hb hby d11_56) ?_
                show Steps p.tables e below (T60.setTop (mkF m 57 #[.val (.ref va), .val (.int ve)] [(.int (1 : Int32))])) _
                refine XS.goto X60.here hx rfl (pc0 := 57) (pc' := 61) rfl (hb hby d11_57) (by decide) (by decide) ?_
                show Steps p.tables e below (T60.setTop (mkF m 61 #[.val (.ref va), .val (.int ve)] [(.int (1 : Int32))])) _
                exact retN X60 hx (t := .boolean) Bd.returns (by simp) (hb hby d11_61) hr
              ·
                show Q11 Z va ve x0 x1 x2 x3 kb h0 n0 _ T60.heap _
                rw [e60q]
                have hv : (1 : Int32) = (own_ex va ve x0 x1 x2 x3) := by rw [own_ex, if_neg hc2, if_neg hc48, if_pos hc50, if_neg hc52, if_neg hc62, if_pos hc64]
                exact ⟨(congrArg (fun z => some (Value.int z)) hv), N60, rfl⟩
            ·
              obtain ⟨cl65, Ar65, q65, S65, NN65, HH65, GG65⟩ := id Va
              have hin65 : ¬ ((3 : Int32) < 0 ∨ cl65.slots.size ≤ ((3 : Int32)).toNatClampNeg) := inb_of S65 ⟨by decide, by decide⟩
              have hat65 : cl65.slots[((3 : Int32)).toNatClampNeg]? = some (.int x3) := HH65.at hin65 rfl
              obtain ⟨_, _, ⟨T66, L66, k66, n66⟩, -, X66, ⟨Lc66, hQ66, l66, y66, z66⟩, st66⟩ := Jvm.LawKit.callS X60 hx (y := (⟨"com/example/paniere/paniere/DigitsIsZeroPinLaw", "zeroish", "(C)Z"⟩ : MethodName)) hown (mvT hZ (hw _ (List.mem_of_getElem? (i := 84) rfl))) (mvT hZ (hw _ (List.mem_of_getElem? (i := 85) rfl))) (mvT hZ (hw _ (List.mem_of_getElem? (i := 3) rfl))) (mvT hZ (hw _ (List.mem_of_getElem? (i := 86) rfl))) (by decide) (backOf (W := 0) (rm17 l Z a0 hw [] x3  h0 n0 Z0 ) hZ (hw _ (List.mem_of_getElem? (i := 86) rfl)) (hw _ (List.mem_of_getElem? (i := 3) rfl)) (by decide) (by decide)) (g := (mkF m 50 #[.val (.ref va), .val (.int ve)] [(.int x3)])) rfl (by rw [hml]; rfl) (argsL := [(.int x3)]) (rest := []) (lenOf pd_2 rfl) rfl (by show 2 * 0 + _ ≤ _; exact Nat.le_of_eq rfl) (hb hby d11_50) (fun _ _ => ⟨rfl, e60q, (by decide : 0 + 0 ≤ _), (by decide : 0 + 0 ≤ _)⟩)
              dsimp only [Pt.U, Pt.locs, Pt.cells, Pt.slots] at X66 l66 y66 z66 st66 hQ66
              subst l66 y66 z66
              obtain ⟨rfl, N66q, e66q⟩ := hQ66
              have N66 := Fr.app N60 N66q
              have pre67 : ∀ t, Steps p.tables e below (T66.setTop (mkF m 53 #[.val (.ref va), .val (.int ve)] [(.int (own_zo x3))])) t → Steps p.tables e below (s₁.setTop (entryFrame m #[(.ref va), (.int ve)] 2)) t := by
                intro t kt
                refine pre63 t ?_
                show Steps p.tables e below (T60.setTop (mkF m 44 #[.val (.ref va), .val (.int ve)] [(.int (4 : Int32)), (.int ve)])) _
                refine XS.icmpNo X60.here hx rfl (hb hby d11_44) rfl (flt (hc64 : ¬ (ve < (4 : Int32)))).1 ?_
                show Steps p.tables e below (T60.setTop (mkF m 47 #[.val (.ref va), .val (.int ve)] [])) _
                refine XS.aloadN X60.here hx rfl (hb hby d11_47) rfl rfl ?_
                show Steps p.tables e below (T60.setTop (mkF m 48 #[.val (.ref va), .val (.int ve)] [(.ref va)])) _
                refine XS.iconst X60.here hx rfl (hb hby d11_48) ?_
                show Steps p.tables e below (T60.setTop (mkF m 49 #[.val (.ref va), .val (.int ve)] [(.int (3 : Int32)), (.ref va)])) _
                refine X60.caload hx (j := (3 : Int32)) (v := (.int x3)) (by rw [e60q]; exact Ar65.1) (State.isArrayOf_alike hZ.alike Ar65.2.1) Ar65.2.2 hin65 hat65 (g := (mkF m 49 #[.val (.ref va), .val (.int ve)] [(.int (3 : Int32)), (.ref va)])) rfl rfl (hb hby d11_49) _ ?_
                show Steps p.tables e below (T60.setTop (mkF m 50 #[.val (.ref va), .val (.int ve)] [(.int x3)])) _
                refine st66 _ ?_
                exact kt
              by_cases hc68 : (own_zo x3) = (0 : Int32)
              ·
                obtain ⟨fs, hr, hrun, hended, hW, hsame⟩ := X66.leave (v := some (.int (0 : Int32))) (fun h => by rw [Bd.returns] at h; cases h)
                refine ⟨_, _, pre67 _ ?_, hrun, hended, _, _, rfl, ?_, ⟨_, rfl⟩, hW, hsame.mono (by decide) (by decide)⟩
                ·
                  show Steps p.tables e below (T66.setTop (mkF m 53 #[.val (.ref va), .val (.int ve)] [(.int (own_zo x3))])) _
                  refine XS.ifYes X66.here hx rfl (pc0 := 53) (pc' := 60) rfl (hb hby d11_53) rfl ((if0 _ _).trans (teq (hc68 : (own_zo x3) = (0 : Int32))).1) (by decide) (by decide) ?_
                  show Steps p.tables e below (T66.setTop (mkF m 60 #[.val (.ref va), .val (.int ve)] [])) _
                  refine XS.iconst X66.here hx rfl (hb hby d11_60) ?_
                  show Steps p.tables e below (T66.setTop (mkF m 61 #[.val (.ref va), .val (.int ve)] [(.int (0 : Int32))])) _
                  exact retN X66 hx (t := .boolean) Bd.returns (by simp) (hb hby d11_61) hr
                ·
                  show Q11 Z va ve x0 x1 x2 x3 kb h0 n0 _ T66.heap _
                  rw [e66q]
                  have hv : (0 : Int32) = (own_ex va ve x0 x1 x2 x3) := by rw [own_ex, if_neg hc2, if_neg hc48, if_pos hc50, if_neg hc52, if_neg hc62, if_neg hc64, if_pos hc68]
                  exact ⟨(congrArg (fun z => some (Value.int z)) hv), N66, rfl⟩
              ·
                obtain ⟨fs, hr, hrun, hended, hW, hsame⟩ := X66.leave (v := some (.int (1 : Int32))) (fun h => by rw [Bd.returns] at h; cases h)
                refine ⟨_, _, pre67 _ ?_, hrun, hended, _, _, rfl, ?_, ⟨_, rfl⟩, hW, hsame.mono (by decide) (by decide)⟩
                ·
                  show Steps p.tables e below (T66.setTop (mkF m 53 #[.val (.ref va), .val (.int ve)] [(.int (own_zo x3))])) _
                  refine XS.ifNo X66.here hx rfl (hb hby d11_53) rfl ((if0 _ _).trans (feq (hc68 : ¬ ((own_zo x3) = (0 : Int32)))).1) ?_
                  show Steps p.tables e below (T66.setTop (mkF m 56 #[.val (.ref va), .val (.int ve)] [])) _
                  refine XS.iconst X66.here hx rfl (hb hby d11_56) ?_
                  show Steps p.tables e below (T66.setTop (mkF m 57 #[.val (.ref va), .val (.int ve)] [(.int (1 : Int32))])) _
                  refine XS.goto X66.here hx rfl (pc0 := 57) (pc' := 61) rfl (hb hby d11_57) (by decide) (by decide) ?_
                  show Steps p.tables e below (T66.setTop (mkF m 61 #[.val (.ref va), .val (.int ve)] [(.int (1 : Int32))])) _
                  exact retN X66 hx (t := .boolean) Bd.returns (by simp) (hb hby d11_61) hr
                ·
                  show Q11 Z va ve x0 x1 x2 x3 kb h0 n0 _ T66.heap _
                  rw [e66q]
                  have hv : (1 : Int32) = (own_ex va ve x0 x1 x2 x3) := by rw [own_ex, if_neg hc2, if_neg hc48, if_pos hc50, if_neg hc52, if_neg hc62, if_neg hc64, if_neg hc68]
                  exact ⟨(congrArg (fun z => some (Value.int z)) hv), N66, rfl⟩
      ·
        obtain ⟨cl69, Ar69, q69, S69, NN69, HH69, GG69⟩ := id Va
        have hin69 : ¬ ((1 : Int32) < 0 ∨ cl69.slots.size ≤ ((1 : Int32)).toNatClampNeg) := inb_of S69 ⟨by decide, by decide⟩
        have hat69 : cl69.slots[((1 : Int32)).toNatClampNeg]? = some (.int x1) := HH69.at hin69 rfl
        obtain ⟨_, _, ⟨T70, L70, k70, n70⟩, -, X70, ⟨Lc70, hQ70, l70, y70, z70⟩, st70⟩ := Jvm.LawKit.callS X46 hx (y := (⟨"com/example/paniere/paniere/DigitsIsZeroPinLaw", "zeroish", "(C)Z"⟩ : MethodName)) hown (mvT hZ (hw _ (List.mem_of_getElem? (i := 84) rfl))) (mvT hZ (hw _ (List.mem_of_getElem? (i := 85) rfl))) (mvT hZ (hw _ (List.mem_of_getElem? (i := 3) rfl))) (mvT hZ (hw _ (List.mem_of_getElem? (i := 86) rfl))) (by decide) (backOf (W := 0) (rm17 l Z a0 hw [] x1  h0 n0 Z0 ) hZ (hw _ (List.mem_of_getElem? (i := 86) rfl)) (hw _ (List.mem_of_getElem? (i := 3) rfl)) (by decide) (by decide)) (g := (mkF m 22 #[.val (.ref va), .val (.int ve)] [(.int x1)])) rfl (by rw [hml]; rfl) (argsL := [(.int x1)]) (rest := []) (lenOf pd_2 rfl) rfl (by show 2 * 0 + _ ≤ _; exact Nat.le_of_eq rfl) (hb hby d11_22) (fun _ _ => ⟨rfl, e46q, (by decide : 0 + 0 ≤ _), (by decide : 0 + 0 ≤ _)⟩)
        dsimp only [Pt.U, Pt.locs, Pt.cells, Pt.slots] at X70 l70 y70 z70 st70 hQ70
        subst l70 y70 z70
        obtain ⟨rfl, N70q, e70q⟩ := hQ70
        have N70 := Fr.app N46 N70q
        have pre71 : ∀ t, Steps p.tables e below (T70.setTop (mkF m 25 #[.val (.ref va), .val (.int ve)] [(.int (own_zo x1))])) t → Steps p.tables e below (s₁.setTop (entryFrame m #[(.ref va), (.int ve)] 2)) t := by
          intro t kt
          refine pre49 t ?_
          show Steps p.tables e below (T46.setTop (mkF m 16 #[.val (.ref va), .val (.int ve)] [(.int (2 : Int32)), (.int ve)])) _
          refine XS.icmpNo X46.here hx rfl (hb hby d11_16) rfl (flt (hc50 : ¬ (ve < (2 : Int32)))).1 ?_
          show Steps p.tables e below (T46.setTop (mkF m 19 #[.val (.ref va), .val (.int ve)] [])) _
          refine XS.aloadN X46.here hx rfl (hb hby d11_19) rfl rfl ?_
          show Steps p.tables e below (T46.setTop (mkF m 20 #[.val (.ref va), .val (.int ve)] [(.ref va)])) _
          refine XS.iconst X46.here hx rfl (hb hby d11_20) ?_
          show Steps p.tables e below (T46.setTop (mkF m 21 #[.val (.ref va), .val (.int ve)] [(.int (1 : Int32)), (.ref va)])) _
          refine X46.caload hx (j := (1 : Int32)) (v := (.int x1)) (by rw [e46q]; exact Ar69.1) (State.isArrayOf_alike hZ.alike Ar69.2.1) Ar69.2.2 hin69 hat69 (g := (mkF m 21 #[.val (.ref va), .val (.int ve)] [(.int (1 : Int32)), (.ref va)])) rfl rfl (hb hby d11_21) _ ?_
          show Steps p.tables e below (T46.setTop (mkF m 22 #[.val (.ref va), .val (.int ve)] [(.int x1)])) _
          refine st70 _ ?_
          exact kt
        by_cases hc72 : (own_zo x1) = (0 : Int32)
        ·
          obtain ⟨fs, hr, hrun, hended, hW, hsame⟩ := X70.leave (v := some (.int (0 : Int32))) (fun h => by rw [Bd.returns] at h; cases h)
          refine ⟨_, _, pre71 _ ?_, hrun, hended, _, _, rfl, ?_, ⟨_, rfl⟩, hW, hsame.mono (by decide) (by decide)⟩
          ·
            show Steps p.tables e below (T70.setTop (mkF m 25 #[.val (.ref va), .val (.int ve)] [(.int (own_zo x1))])) _
            refine XS.ifYes X70.here hx rfl (pc0 := 25) (pc' := 60) rfl (hb hby d11_25) rfl ((if0 _ _).trans (teq (hc72 : (own_zo x1) = (0 : Int32))).1) (by decide) (by decide) ?_
            show Steps p.tables e below (T70.setTop (mkF m 60 #[.val (.ref va), .val (.int ve)] [])) _
            refine XS.iconst X70.here hx rfl (hb hby d11_60) ?_
            show Steps p.tables e below (T70.setTop (mkF m 61 #[.val (.ref va), .val (.int ve)] [(.int (0 : Int32))])) _
            exact retN X70 hx (t := .boolean) Bd.returns (by simp) (hb hby d11_61) hr
          ·
            show Q11 Z va ve x0 x1 x2 x3 kb h0 n0 _ T70.heap _
            rw [e70q]
            have hv : (0 : Int32) = (own_ex va ve x0 x1 x2 x3) := by rw [own_ex, if_neg hc2, if_neg hc48, if_neg hc50, if_pos hc72]
            exact ⟨(congrArg (fun z => some (Value.int z)) hv), N70, rfl⟩
        ·
          have pre73 : ∀ t, Steps p.tables e below (T70.setTop (mkF m 30 #[.val (.ref va), .val (.int ve)] [(.int (3 : Int32)), (.int ve)])) t → Steps p.tables e below (s₁.setTop (entryFrame m #[(.ref va), (.int ve)] 2)) t := by
            intro t kt
            refine pre71 t ?_
            show Steps p.tables e below (T70.setTop (mkF m 25 #[.val (.ref va), .val (.int ve)] [(.int (own_zo x1))])) _
            refine XS.ifNo X70.here hx rfl (hb hby d11_25) rfl ((if0 _ _).trans (feq (hc72 : ¬ ((own_zo x1) = (0 : Int32)))).1) ?_
            show Steps p.tables e below (T70.setTop (mkF m 28 #[.val (.ref va), .val (.int ve)] [])) _
            refine XS.iloadN X70.here hx rfl (hb hby d11_28) rfl ?_
            show Steps p.tables e below (T70.setTop (mkF m 29 #[.val (.ref va), .val (.int ve)] [(.int ve)])) _
            refine XS.iconst X70.here hx rfl (hb hby d11_29) ?_
            exact kt
          by_cases hc74 : ve < (3 : Int32)
          ·
            have pre75 : ∀ t, Steps p.tables e below (T70.setTop (mkF m 44 #[.val (.ref va), .val (.int ve)] [(.int (4 : Int32)), (.int ve)])) t → Steps p.tables e below (s₁.setTop (entryFrame m #[(.ref va), (.int ve)] 2)) t := by
              intro t kt
              refine pre73 t ?_
              show Steps p.tables e below (T70.setTop (mkF m 30 #[.val (.ref va), .val (.int ve)] [(.int (3 : Int32)), (.int ve)])) _
              refine XS.icmpYes X70.here hx rfl (pc0 := 30) (pc' := 42) rfl (hb hby d11_30) rfl (tlt (hc74 : ve < (3 : Int32))).1 (by decide) (by decide) ?_
              show Steps p.tables e below (T70.setTop (mkF m 42 #[.val (.ref va), .val (.int ve)] [])) _
              refine XS.iloadN X70.here hx rfl (hb hby d11_42) rfl ?_
              show Steps p.tables e below (T70.setTop (mkF m 43 #[.val (.ref va), .val (.int ve)] [(.int ve)])) _
              refine XS.iconst X70.here hx rfl (hb hby d11_43) ?_
              exact kt
            by_cases hc76 : ve < (4 : Int32)
            ·
              obtain ⟨fs, hr, hrun, hended, hW, hsame⟩ := X70.leave (v := some (.int (1 : Int32))) (fun h => by rw [Bd.returns] at h; cases h)
              refine ⟨_, _, pre75 _ ?_, hrun, hended, _, _, rfl, ?_, ⟨_, rfl⟩, hW, hsame.mono (by decide) (by decide)⟩
              ·
                show Steps p.tables e below (T70.setTop (mkF m 44 #[.val (.ref va), .val (.int ve)] [(.int (4 : Int32)), (.int ve)])) _
                refine XS.icmpYes X70.here hx rfl (pc0 := 44) (pc' := 56) rfl (hb hby d11_44) rfl (tlt (hc76 : ve < (4 : Int32))).1 (by decide) (by decide) ?_
                show Steps p.tables e below (T70.setTop (mkF m 56 #[.val (.ref va), .val (.int ve)] [])) _
                refine XS.iconst X70.here hx rfl (hb hby d11_56) ?_
                show Steps p.tables e below (T70.setTop (mkF m 57 #[.val (.ref va), .val (.int ve)] [(.int (1 : Int32))])) _
                refine XS.goto X70.here hx rfl (pc0 := 57) (pc' := 61) rfl (hb hby d11_57) (by decide) (by decide) ?_
                show Steps p.tables e below (T70.setTop (mkF m 61 #[.val (.ref va), .val (.int ve)] [(.int (1 : Int32))])) _
                exact retN X70 hx (t := .boolean) Bd.returns (by simp) (hb hby d11_61) hr
              ·
                show Q11 Z va ve x0 x1 x2 x3 kb h0 n0 _ T70.heap _
                rw [e70q]
                have hv : (1 : Int32) = (own_ex va ve x0 x1 x2 x3) := by rw [own_ex, if_neg hc2, if_neg hc48, if_neg hc50, if_neg hc72, if_pos hc74, if_pos hc76]
                exact ⟨(congrArg (fun z => some (Value.int z)) hv), N70, rfl⟩
            ·
              obtain ⟨cl77, Ar77, q77, S77, NN77, HH77, GG77⟩ := id Va
              have hin77 : ¬ ((3 : Int32) < 0 ∨ cl77.slots.size ≤ ((3 : Int32)).toNatClampNeg) := inb_of S77 ⟨by decide, by decide⟩
              have hat77 : cl77.slots[((3 : Int32)).toNatClampNeg]? = some (.int x3) := HH77.at hin77 rfl
              obtain ⟨_, _, ⟨T78, L78, k78, n78⟩, -, X78, ⟨Lc78, hQ78, l78, y78, z78⟩, st78⟩ := Jvm.LawKit.callS X70 hx (y := (⟨"com/example/paniere/paniere/DigitsIsZeroPinLaw", "zeroish", "(C)Z"⟩ : MethodName)) hown (mvT hZ (hw _ (List.mem_of_getElem? (i := 84) rfl))) (mvT hZ (hw _ (List.mem_of_getElem? (i := 85) rfl))) (mvT hZ (hw _ (List.mem_of_getElem? (i := 3) rfl))) (mvT hZ (hw _ (List.mem_of_getElem? (i := 86) rfl))) (by decide) (backOf (W := 0) (rm17 l Z a0 hw [] x3  h0 n0 Z0 ) hZ (hw _ (List.mem_of_getElem? (i := 86) rfl)) (hw _ (List.mem_of_getElem? (i := 3) rfl)) (by decide) (by decide)) (g := (mkF m 50 #[.val (.ref va), .val (.int ve)] [(.int x3)])) rfl (by rw [hml]; rfl) (argsL := [(.int x3)]) (rest := []) (lenOf pd_2 rfl) rfl (by show 2 * 0 + _ ≤ _; exact Nat.le_of_eq rfl) (hb hby d11_50) (fun _ _ => ⟨rfl, e70q, (by decide : 0 + 0 ≤ _), (by decide : 0 + 0 ≤ _)⟩)
              dsimp only [Pt.U, Pt.locs, Pt.cells, Pt.slots] at X78 l78 y78 z78 st78 hQ78
              subst l78 y78 z78
              obtain ⟨rfl, N78q, e78q⟩ := hQ78
              have N78 := Fr.app N70 N78q
              have pre79 : ∀ t, Steps p.tables e below (T78.setTop (mkF m 53 #[.val (.ref va), .val (.int ve)] [(.int (own_zo x3))])) t → Steps p.tables e below (s₁.setTop (entryFrame m #[(.ref va), (.int ve)] 2)) t := by
                intro t kt
                refine pre75 t ?_
                show Steps p.tables e below (T70.setTop (mkF m 44 #[.val (.ref va), .val (.int ve)] [(.int (4 : Int32)), (.int ve)])) _
                refine XS.icmpNo X70.here hx rfl (hb hby d11_44) rfl (flt (hc76 : ¬ (ve < (4 : Int32)))).1 ?_
                show Steps p.tables e below (T70.setTop (mkF m 47 #[.val (.ref va), .val (.int ve)] [])) _
                refine XS.aloadN X70.here hx rfl (hb hby d11_47) rfl rfl ?_
                show Steps p.tables e below (T70.setTop (mkF m 48 #[.val (.ref va), .val (.int ve)] [(.ref va)])) _
                refine XS.iconst X70.here hx rfl (hb hby d11_48) ?_
                show Steps p.tables e below (T70.setTop (mkF m 49 #[.val (.ref va), .val (.int ve)] [(.int (3 : Int32)), (.ref va)])) _
                refine X70.caload hx (j := (3 : Int32)) (v := (.int x3)) (by rw [e70q]; exact Ar77.1) (State.isArrayOf_alike hZ.alike Ar77.2.1) Ar77.2.2 hin77 hat77 (g := (mkF m 49 #[.val (.ref va), .val (.int ve)] [(.int (3 : Int32)), (.ref va)])) rfl rfl (hb hby d11_49) _ ?_
                show Steps p.tables e below (T70.setTop (mkF m 50 #[.val (.ref va), .val (.int ve)] [(.int x3)])) _
                refine st78 _ ?_
                exact kt
              by_cases hc80 : (own_zo x3) = (0 : Int32)
              ·
                obtain ⟨fs, hr, hrun, hended, hW, hsame⟩ := X78.leave (v := some (.int (0 : Int32))) (fun h => by rw [Bd.returns] at h; cases h)
                refine ⟨_, _, pre79 _ ?_, hrun, hended, _, _, rfl, ?_, ⟨_, rfl⟩, hW, hsame.mono (by decide) (by decide)⟩
                ·
                  show Steps p.tables e below (T78.setTop (mkF m 53 #[.val (.ref va), .val (.int ve)] [(.int (own_zo x3))])) _
                  refine XS.ifYes X78.here hx rfl (pc0 := 53) (pc' := 60) rfl (hb hby d11_53) rfl ((if0 _ _).trans (teq (hc80 : (own_zo x3) = (0 : Int32))).1) (by decide) (by decide) ?_
                  show Steps p.tables e below (T78.setTop (mkF m 60 #[.val (.ref va), .val (.int ve)] [])) _
                  refine XS.iconst X78.here hx rfl (hb hby d11_60) ?_
                  show Steps p.tables e below (T78.setTop (mkF m 61 #[.val (.ref va), .val (.int ve)] [(.int (0 : Int32))])) _
                  exact retN X78 hx (t := .boolean) Bd.returns (by simp) (hb hby d11_61) hr
                ·
                  show Q11 Z va ve x0 x1 x2 x3 kb h0 n0 _ T78.heap _
                  rw [e78q]
                  have hv : (0 : Int32) = (own_ex va ve x0 x1 x2 x3) := by rw [own_ex, if_neg hc2, if_neg hc48, if_neg hc50, if_neg hc72, if_pos hc74, if_neg hc76, if_pos hc80]
                  exact ⟨(congrArg (fun z => some (Value.int z)) hv), N78, rfl⟩
              ·
                obtain ⟨fs, hr, hrun, hended, hW, hsame⟩ := X78.leave (v := some (.int (1 : Int32))) (fun h => by rw [Bd.returns] at h; cases h)
                refine ⟨_, _, pre79 _ ?_, hrun, hended, _, _, rfl, ?_, ⟨_, rfl⟩, hW, hsame.mono (by decide) (by decide)⟩
                ·
                  show Steps p.tables e below (T78.setTop (mkF m 53 #[.val (.ref va), .val (.int ve)] [(.int (own_zo x3))])) _
                  refine XS.ifNo X78.here hx rfl (hb hby d11_53) rfl ((if0 _ _).trans (feq (hc80 : ¬ ((own_zo x3) = (0 : Int32)))).1) ?_
                  show Steps p.tables e below (T78.setTop (mkF m 56 #[.val (.ref va), .val (.int ve)] [])) _
                  refine XS.iconst X78.here hx rfl (hb hby d11_56) ?_
                  show Steps p.tables e below (T78.setTop (mkF m 57 #[.val (.ref va), .val (.int ve)] [(.int (1 : Int32))])) _
                  refine XS.goto X78.here hx rfl (pc0 := 57) (pc' := 61) rfl (hb hby d11_57) (by decide) (by decide) ?_
                  show Steps p.tables e below (T78.setTop (mkF m 61 #[.val (.ref va), .val (.int ve)] [(.int (1 : Int32))])) _
                  exact retN X78 hx (t := .boolean) Bd.returns (by simp) (hb hby d11_61) hr
                ·
                  show Q11 Z va ve x0 x1 x2 x3 kb h0 n0 _ T78.heap _
                  rw [e78q]
                  have hv : (1 : Int32) = (own_ex va ve x0 x1 x2 x3) := by rw [own_ex, if_neg hc2, if_neg hc48, if_neg hc50, if_neg hc72, if_pos hc74, if_neg hc76, if_neg hc80]
                  exact ⟨(congrArg (fun z => some (Value.int z)) hv), N78, rfl⟩
          ·
            obtain ⟨cl81, Ar81, q81, S81, NN81, HH81, GG81⟩ := id Va
            have hin81 : ¬ ((2 : Int32) < 0 ∨ cl81.slots.size ≤ ((2 : Int32)).toNatClampNeg) := inb_of S81 ⟨by decide, by decide⟩
            have hat81 : cl81.slots[((2 : Int32)).toNatClampNeg]? = some (.int x2) := HH81.at hin81 rfl
            obtain ⟨_, _, ⟨T82, L82, k82, n82⟩, -, X82, ⟨Lc82, hQ82, l82, y82, z82⟩, st82⟩ := Jvm.LawKit.callS X70 hx (y := (⟨"com/example/paniere/paniere/DigitsIsZeroPinLaw", "zeroish", "(C)Z"⟩ : MethodName)) hown (mvT hZ (hw _ (List.mem_of_getElem? (i := 84) rfl))) (mvT hZ (hw _ (List.mem_of_getElem? (i := 85) rfl))) (mvT hZ (hw _ (List.mem_of_getElem? (i := 3) rfl))) (mvT hZ (hw _ (List.mem_of_getElem? (i := 86) rfl))) (by decide) (backOf (W := 0) (rm17 l Z a0 hw [] x2  h0 n0 Z0 ) hZ (hw _ (List.mem_of_getElem? (i := 86) rfl)) (hw _ (List.mem_of_getElem? (i := 3) rfl)) (by decide) (by decide)) (g := (mkF m 36 #[.val (.ref va), .val (.int ve)] [(.int x2)])) rfl (by rw [hml]; rfl) (argsL := [(.int x2)]) (rest := []) (lenOf pd_2 rfl) rfl (by show 2 * 0 + _ ≤ _; exact Nat.le_of_eq rfl) (hb hby d11_36) (fun _ _ => ⟨rfl, e70q, (by decide : 0 + 0 ≤ _), (by decide : 0 + 0 ≤ _)⟩)
            dsimp only [Pt.U, Pt.locs, Pt.cells, Pt.slots] at X82 l82 y82 z82 st82 hQ82
            subst l82 y82 z82
            obtain ⟨rfl, N82q, e82q⟩ := hQ82
            have N82 := Fr.app N70 N82q
            have pre83 : ∀ t, Steps p.tables e below (T82.setTop (mkF m 39 #[.val (.ref va), .val (.int ve)] [(.int (own_zo x2))])) t → Steps p.tables e below (s₁.setTop (entryFrame m #[(.ref va), (.int ve)] 2)) t := by
              intro t kt
              refine pre73 t ?_
              show Steps p.tables e below (T70.setTop (mkF m 30 #[.val (.ref va), .val (.int ve)] [(.int (3 : Int32)), (.int ve)])) _
              refine XS.icmpNo X70.here hx rfl (hb hby d11_30) rfl (flt (hc74 : ¬ (ve < (3 : Int32)))).1 ?_
              show Steps p.tables e below (T70.setTop (mkF m 33 #[.val (.ref va), .val (.int ve)] [])) _
              refine XS.aloadN X70.here hx rfl (hb hby d11_33) rfl rfl ?_
              show Steps p.tables e below (T70.setTop (mkF m 34 #[.val (.ref va), .val (.int ve)] [(.ref va)])) _
              refine XS.iconst X70.here hx rfl (hb hby d11_34) ?_
              show Steps p.tables e below (T70.setTop (mkF m 35 #[.val (.ref va), .val (.int ve)] [(.int (2 : Int32)), (.ref va)])) _
              refine X70.caload hx (j := (2 : Int32)) (v := (.int x2)) (by rw [e70q]; exact Ar81.1) (State.isArrayOf_alike hZ.alike Ar81.2.1) Ar81.2.2 hin81 hat81 (g := (mkF m 35 #[.val (.ref va), .val (.int ve)] [(.int (2 : Int32)), (.ref va)])) rfl rfl (hb hby d11_35) _ ?_
              show Steps p.tables e below (T70.setTop (mkF m 36 #[.val (.ref va), .val (.int ve)] [(.int x2)])) _
              refine st82 _ ?_
              exact kt
            by_cases hc84 : (own_zo x2) = (0 : Int32)
            ·
              obtain ⟨fs, hr, hrun, hended, hW, hsame⟩ := X82.leave (v := some (.int (0 : Int32))) (fun h => by rw [Bd.returns] at h; cases h)
              refine ⟨_, _, pre83 _ ?_, hrun, hended, _, _, rfl, ?_, ⟨_, rfl⟩, hW, hsame.mono (by decide) (by decide)⟩
              ·
                show Steps p.tables e below (T82.setTop (mkF m 39 #[.val (.ref va), .val (.int ve)] [(.int (own_zo x2))])) _
                refine XS.ifYes X82.here hx rfl (pc0 := 39) (pc' := 60) rfl (hb hby d11_39) rfl ((if0 _ _).trans (teq (hc84 : (own_zo x2) = (0 : Int32))).1) (by decide) (by decide) ?_
                show Steps p.tables e below (T82.setTop (mkF m 60 #[.val (.ref va), .val (.int ve)] [])) _
                refine XS.iconst X82.here hx rfl (hb hby d11_60) ?_
                show Steps p.tables e below (T82.setTop (mkF m 61 #[.val (.ref va), .val (.int ve)] [(.int (0 : Int32))])) _
                exact retN X82 hx (t := .boolean) Bd.returns (by simp) (hb hby d11_61) hr
              ·
                show Q11 Z va ve x0 x1 x2 x3 kb h0 n0 _ T82.heap _
                rw [e82q]
                have hv : (0 : Int32) = (own_ex va ve x0 x1 x2 x3) := by rw [own_ex, if_neg hc2, if_neg hc48, if_neg hc50, if_neg hc72, if_neg hc74, if_pos hc84]
                exact ⟨(congrArg (fun z => some (Value.int z)) hv), N82, rfl⟩
            ·
              have pre85 : ∀ t, Steps p.tables e below (T82.setTop (mkF m 44 #[.val (.ref va), .val (.int ve)] [(.int (4 : Int32)), (.int ve)])) t → Steps p.tables e below (s₁.setTop (entryFrame m #[(.ref va), (.int ve)] 2)) t := by
                intro t kt
                refine pre83 t ?_
                show Steps p.tables e below (T82.setTop (mkF m 39 #[.val (.ref va), .val (.int ve)] [(.int (own_zo x2))])) _
                refine XS.ifNo X82.here hx rfl (hb hby d11_39) rfl ((if0 _ _).trans (feq (hc84 : ¬ ((own_zo x2) = (0 : Int32)))).1) ?_
                show Steps p.tables e below (T82.setTop (mkF m 42 #[.val (.ref va), .val (.int ve)] [])) _
                refine XS.iloadN X82.here hx rfl (hb hby d11_42) rfl ?_
                show Steps p.tables e below (T82.setTop (mkF m 43 #[.val (.ref va), .val (.int ve)] [(.int ve)])) _
                refine XS.iconst X82.here hx rfl (hb hby d11_43) ?_
                exact kt
              by_cases hc86 : ve < (4 : Int32)
              ·
                obtain ⟨fs, hr, hrun, hended, hW, hsame⟩ := X82.leave (v := some (.int (1 : Int32))) (fun h => by rw [Bd.returns] at h; cases h)
                refine ⟨_, _, pre85 _ ?_, hrun, hended, _, _, rfl, ?_, ⟨_, rfl⟩, hW, hsame.mono (by decide) (by decide)⟩
                ·
                  show Steps p.tables e below (T82.setTop (mkF m 44 #[.val (.ref va), .val (.int ve)] [(.int (4 : Int32)), (.int ve)])) _
                  refine XS.icmpYes X82.here hx rfl (pc0 := 44) (pc' := 56) rfl (hb hby d11_44) rfl (tlt (hc86 : ve < (4 : Int32))).1 (by decide) (by decide) ?_
                  show Steps p.tables e below (T82.setTop (mkF m 56 #[.val (.ref va), .val (.int ve)] [])) _
                  refine XS.iconst X82.here hx rfl (hb hby d11_56) ?_
                  show Steps p.tables e below (T82.setTop (mkF m 57 #[.val (.ref va), .val (.int ve)] [(.int (1 : Int32))])) _
                  refine XS.goto X82.here hx rfl (pc0 := 57) (pc' := 61) rfl (hb hby d11_57) (by decide) (by decide) ?_
                  show Steps p.tables e below (T82.setTop (mkF m 61 #[.val (.ref va), .val (.int ve)] [(.int (1 : Int32))])) _
                  exact retN X82 hx (t := .boolean) Bd.returns (by simp) (hb hby d11_61) hr
                ·
                  show Q11 Z va ve x0 x1 x2 x3 kb h0 n0 _ T82.heap _
                  rw [e82q]
                  have hv : (1 : Int32) = (own_ex va ve x0 x1 x2 x3) := by rw [own_ex, if_neg hc2, if_neg hc48, if_neg hc50, if_neg hc72, if_neg hc74, if_neg hc84, if_pos hc86]
                  exact ⟨(congrArg (fun z => some (Value.int z)) hv), N82, rfl⟩
              ·
                obtain ⟨cl87, Ar87, q87, S87, NN87, HH87, GG87⟩ := id Va
                have hin87 : ¬ ((3 : Int32) < 0 ∨ cl87.slots.size ≤ ((3 : Int32)).toNatClampNeg) := inb_of S87 ⟨by decide, by decide⟩
                have hat87 : cl87.slots[((3 : Int32)).toNatClampNeg]? = some (.int x3) := HH87.at hin87 rfl
                obtain ⟨_, _, ⟨T88, L88, k88, n88⟩, -, X88, ⟨Lc88, hQ88, l88, y88, z88⟩, st88⟩ := Jvm.LawKit.callS X82 hx (y := (⟨"com/example/paniere/paniere/DigitsIsZeroPinLaw", "zeroish", "(C)Z"⟩ : MethodName)) hown (mvT hZ (hw _ (List.mem_of_getElem? (i := 84) rfl))) (mvT hZ (hw _ (List.mem_of_getElem? (i := 85) rfl))) (mvT hZ (hw _ (List.mem_of_getElem? (i := 3) rfl))) (mvT hZ (hw _ (List.mem_of_getElem? (i := 86) rfl))) (by decide) (backOf (W := 0) (rm17 l Z a0 hw [] x3  h0 n0 Z0 ) hZ (hw _ (List.mem_of_getElem? (i := 86) rfl)) (hw _ (List.mem_of_getElem? (i := 3) rfl)) (by decide) (by decide)) (g := (mkF m 50 #[.val (.ref va), .val (.int ve)] [(.int x3)])) rfl (by rw [hml]; rfl) (argsL := [(.int x3)]) (rest := []) (lenOf pd_2 rfl) rfl (by show 2 * 0 + _ ≤ _; exact Nat.le_of_eq rfl) (hb hby d11_50) (fun _ _ => ⟨rfl, e82q, (by decide : 0 + 0 ≤ _), (by decide : 0 + 0 ≤ _)⟩)
                dsimp only [Pt.U, Pt.locs, Pt.cells, Pt.slots] at X88 l88 y88 z88 st88 hQ88
                subst l88 y88 z88
                obtain ⟨rfl, N88q, e88q⟩ := hQ88
                have N88 := Fr.app N82 N88q
                have pre89 : ∀ t, Steps p.tables e below (T88.setTop (mkF m 53 #[.val (.ref va), .val (.int ve)] [(.int (own_zo x3))])) t → Steps p.tables e below (s₁.setTop (entryFrame m #[(.ref va), (.int ve)] 2)) t := by
                  intro t kt
                  refine pre85 t ?_
                  show Steps p.tables e below (T82.setTop (mkF m 44 #[.val (.ref va), .val (.int ve)] [(.int (4 : Int32)), (.int ve)])) _
                  refine XS.icmpNo X82.here hx rfl (hb hby d11_44) rfl (flt (hc86 : ¬ (ve < (4 : Int32)))).1 ?_
                  show Steps p.tables e below (T82.setTop (mkF m 47 #[.val (.ref va), .val (.int ve)] [])) _
                  refine XS.aloadN X82.here hx rfl (hb hby d11_47) rfl rfl ?_
                  show Steps p.tables e below (T82.setTop (mkF m 48 #[.val (.ref va), .val (.int ve)] [(.ref va)])) _
                  refine XS.iconst X82.here hx rfl (hb hby d11_48) ?_
                  show Steps p.tables e below (T82.setTop (mkF m 49 #[.val (.ref va), .val (.int ve)] [(.int (3 : Int32)), (.ref va)])) _
                  refine X82.caload hx (j := (3 : Int32)) (v := (.int x3)) (by rw [e82q]; exact Ar87.1) (State.isArrayOf_alike hZ.alike Ar87.2.1) Ar87.2.2 hin87 hat87 (g := (mkF m 49 #[.val (.ref va), .val (.int ve)] [(.int (3 : Int32)), (.ref va)])) rfl rfl (hb hby d11_49) _ ?_
                  show Steps p.tables e below (T82.setTop (mkF m 50 #[.val (.ref va), .val (.int ve)] [(.int x3)])) _
                  refine st88 _ ?_
                  exact kt
                by_cases hc90 : (own_zo x3) = (0 : Int32)
                ·
                  obtain ⟨fs, hr, hrun, hended, hW, hsame⟩ := X88.leave (v := some (.int (0 : Int32))) (fun h => by rw [Bd.returns] at h; cases h)
                  refine ⟨_, _, pre89 _ ?_, hrun, hended, _, _, rfl, ?_, ⟨_, rfl⟩, hW, hsame.mono (by decide) (by decide)⟩
                  ·
                    show Steps p.tables e below (T88.setTop (mkF m 53 #[.val (.ref va), .val (.int ve)] [(.int (own_zo x3))])) _
                    refine XS.ifYes X88.here hx rfl (pc0 := 53) (pc' := 60) rfl (hb hby d11_53) rfl ((if0 _ _).trans (teq (hc90 : (own_zo x3) = (0 : Int32))).1) (by decide) (by decide) ?_
                    show Steps p.tables e below (T88.setTop (mkF m 60 #[.val (.ref va), .val (.int ve)] [])) _
                    refine XS.iconst X88.here hx rfl (hb hby d11_60) ?_
                    show Steps p.tables e below (T88.setTop (mkF m 61 #[.val (.ref va), .val (.int ve)] [(.int (0 : Int32))])) _
                    exact retN X88 hx (t := .boolean) Bd.returns (by simp) (hb hby d11_61) hr
                  ·
                    show Q11 Z va ve x0 x1 x2 x3 kb h0 n0 _ T88.heap _
                    rw [e88q]
                    have hv : (0 : Int32) = (own_ex va ve x0 x1 x2 x3) := by rw [own_ex, if_neg hc2, if_neg hc48, if_neg hc50, if_neg hc72, if_neg hc74, if_neg hc84, if_neg hc86, if_pos hc90]
                    exact ⟨(congrArg (fun z => some (Value.int z)) hv), N88, rfl⟩
                ·
                  obtain ⟨fs, hr, hrun, hended, hW, hsame⟩ := X88.leave (v := some (.int (1 : Int32))) (fun h => by rw [Bd.returns] at h; cases h)
                  refine ⟨_, _, pre89 _ ?_, hrun, hended, _, _, rfl, ?_, ⟨_, rfl⟩, hW, hsame.mono (by decide) (by decide)⟩
                  ·
                    show Steps p.tables e below (T88.setTop (mkF m 53 #[.val (.ref va), .val (.int ve)] [(.int (own_zo x3))])) _
                    refine XS.ifNo X88.here hx rfl (hb hby d11_53) rfl ((if0 _ _).trans (feq (hc90 : ¬ ((own_zo x3) = (0 : Int32)))).1) ?_
                    show Steps p.tables e below (T88.setTop (mkF m 56 #[.val (.ref va), .val (.int ve)] [])) _
                    refine XS.iconst X88.here hx rfl (hb hby d11_56) ?_
                    show Steps p.tables e below (T88.setTop (mkF m 57 #[.val (.ref va), .val (.int ve)] [(.int (1 : Int32))])) _
                    refine XS.goto X88.here hx rfl (pc0 := 57) (pc' := 61) rfl (hb hby d11_57) (by decide) (by decide) ?_
                    show Steps p.tables e below (T88.setTop (mkF m 61 #[.val (.ref va), .val (.int ve)] [(.int (1 : Int32))])) _
                    exact retN X88 hx (t := .boolean) Bd.returns (by simp) (hb hby d11_61) hr
                  ·
                    show Q11 Z va ve x0 x1 x2 x3 kb h0 n0 _ T88.heap _
                    rw [e88q]
                    have hv : (1 : Int32) = (own_ex va ve x0 x1 x2 x3) := by rw [own_ex, if_neg hc2, if_neg hc48, if_neg hc50, if_neg hc72, if_neg hc74, if_neg hc84, if_neg hc86, if_neg hc90]
                    exact ⟨(congrArg (fun z => some (Value.int z)) hv), N88, rfl⟩
def own_okc (c : Int32) : Prop := c = (46 : Int32) ∨ (¬ c < (48 : Int32) ∧ ¬ (57 : Int32) < c)
theorem own_okp : own_okc (nar .char (46 : Int32)) := Or.inl (by decide)
theorem own_ush1 (x : Int32) : 0 ≤ ((x.toUInt32 >>> ((1 : Int32) &&& 31).toUInt32).toInt32).toInt := by
  have e : ((x.toUInt32 >>> ((1 : Int32) &&& 31).toUInt32).toInt32).toInt = (x.toBitVec >>> 1).toInt := rfl
  rw [e, BitVec.toInt_eq_toNat_of_lt]
  · omega
  · rw [BitVec.toNat_ushiftRight, Nat.shiftRight_eq_div_pow]; have := x.toBitVec.isLt; omega
theorem own_ush3 (x : Int32) : 0 ≤ ((x.toUInt32 >>> ((3 : Int32) &&& 31).toUInt32).toInt32).toInt := by
  have e : ((x.toUInt32 >>> ((3 : Int32) &&& 31).toUInt32).toInt32).toInt = (x.toBitVec >>> 3).toInt := rfl
  rw [e, BitVec.toInt_eq_toNat_of_lt]
  · omega
  · rw [BitVec.toNat_ushiftRight, Nat.shiftRight_eq_div_pow]; have := x.toBitVec.isLt; omega
theorem own_ush6 (x : Int32) : 0 ≤ ((x.toUInt32 >>> ((6 : Int32) &&& 31).toUInt32).toInt32).toInt := by
  have e : ((x.toUInt32 >>> ((6 : Int32) &&& 31).toUInt32).toInt32).toInt = (x.toBitVec >>> 6).toInt := rfl
  rw [e, BitVec.toInt_eq_toNat_of_lt]
  · omega
  · rw [BitVec.toNat_ushiftRight, Nat.shiftRight_eq_div_pow]; have := x.toBitVec.isLt; omega
theorem own_mod {x : Int32} (h : 0 ≤ x.toInt) (m : Int32) (k : Nat) (hk : 0 < k) (hk2 : k < 2 ^ 31) (e : m.toInt = k) : ∃ n : Nat, n < k ∧ x % m = Int32.ofNat n := by
  have e1 : (x % m).toInt = x.toInt.tmod k := by rw [Int32.toInt_mod, e]
  have b1 := Int.tmod_nonneg k h
  have b2 := Int.tmod_lt_of_pos x.toInt (show (0 : Int) < k by omega)
  refine ⟨(x % m).toInt.toNat, by omega, ?_⟩
  apply Int32.toInt_inj.mp
  rw [Int32.toInt_ofNat_small (by omega)]; omega
theorem own_okd (d : Int32) : own_okc (nar .char (own_dig d)) := by
  refine Or.inr ?_
  unfold own_dig
  split
  · decide
  · obtain ⟨n, hn, e⟩ := own_mod (own_ush1 d) (10 : Int32) 10 (by decide) (by decide) rfl
    rw [e]
    have t : ∀ n : Fin 10, ¬ nar .char (nar .char (((48 : Int32) + Int32.ofNat n.val).toUInt32.toUInt16.toUInt32.toInt32)) < (48 : Int32) ∧ ¬ (57 : Int32) < nar .char (nar .char (((48 : Int32) + Int32.ofNat n.val).toUInt32.toUInt16.toUInt32.toInt32)) := by decide +kernel
    exact t ⟨n, hn⟩
theorem own_e5 {z x : Int32} (h : z = x % (5 : Int32)) (hx : 0 ≤ x.toInt) : ∃ n : Nat, n ≤ 4 ∧ z = Int32.ofNat n := by
  obtain ⟨n, hn, e⟩ := own_mod hx (5 : Int32) 5 (by decide) (by decide) rfl
  exact ⟨n, by omega, h.trans e⟩
theorem own_p4 {p u : Int32} (h : p = u &&& (7 : Int32)) (h4 : p < (4 : Int32)) : p = (0 : Int32) ∨ p = (1 : Int32) ∨ p = (2 : Int32) ∨ p = (3 : Int32) := by
  have hn : (u &&& (7 : Int32)).toBitVec.toNat < 8 := by
    simp only [Int32.toBitVec_and, BitVec.toNat_and]
    exact Nat.lt_succ_of_le Nat.and_le_right
  have e : (u &&& (7 : Int32)) = Int32.ofNat (u &&& (7 : Int32)).toBitVec.toNat := by
    apply Int32.toBitVec_inj.mp
    show _ = BitVec.ofNat 32 _
    rw [BitVec.ofNat_toNat]; simp
  subst h
  have t : ∀ n : Fin 8, Int32.ofNat n.val < (4 : Int32) → Int32.ofNat n.val = (0 : Int32) ∨ Int32.ofNat n.val = (1 : Int32) ∨ Int32.ofNat n.val = (2 : Int32) ∨ Int32.ofNat n.val = (3 : Int32) := by decide +kernel
  have r := t ⟨_, hn⟩ (by show Int32.ofNat (u &&& (7 : Int32)).toBitVec.toNat < _; rw [← e]; exact h4)
  dsimp only at r
  rw [← e] at r
  exact r
theorem own_ok255 {c : Int32} (h : own_okc c) : ¬ c < 0 ∧ ¬ (255 : Int32) < c := by
  have z0 : (0 : Int32).toInt = 0 := rfl
  have z1 : (48 : Int32).toInt = 48 := rfl
  have z2 : (57 : Int32).toInt = 57 := rfl
  have z3 : (255 : Int32).toInt = 255 := rfl
  rcases h with rfl | ⟨h1, h2⟩
  · decide
  · rw [Int32.lt_iff_toInt_lt] at h1 h2 ⊢
    rw [Int32.lt_iff_toInt_lt]
    omega
theorem own_hdg {c0 c1 c2 c3 : Int32} (h0 : own_okc c0) (h1 : own_okc c1) (h2 : own_okc c2) (h3 : own_okc c3) : ∀ n : Nat, n ≤ 4 → ∀ (i : Nat) (x : Int32), x = ([c0, c1, c2, c3] : List Int32).getD i 0 → ¬ x = (46 : Int32) → i < n → ¬ x < (48 : Int32) ∧ ¬ (57 : Int32) < x := by
  intro n hn i x hx h46 hi
  match i, (by omega : i < 4) with
  | 0, _ => subst hx; exact h0.resolve_left h46
  | 1, _ => subst hx; exact h1.resolve_left h46
  | 2, _ => subst hx; exact h2.resolve_left h46
  | 3, _ => subst hx; exact h3.resolve_left h46
theorem own_rdk_pos (cs : List Int32) : ∀ (k i s : Nat), 0 < s → 0 < own_rdk cs k i s
  | 0, _, _, h => h
  | k + 1, i, s, h => by
    rw [own_rdk]
    split
    · exact own_rdk_pos cs k _ _ h
    · split
      · exact own_rdk_pos cs k _ _ h
      · split
        · omega
        · exact own_rdk_pos cs k _ _ (by omega)
theorem own_rdk_lt (cs : List Int32) : ∀ (k i s : Nat), s ≤ i → own_rdk cs k i s ≤ i + k
  | 0, _, _, h => h
  | k + 1, i, s, h => by
    rw [own_rdk]
    split
    · have := own_rdk_lt cs k (i + 1) s (by omega); omega
    · split
      · have := own_rdk_lt cs k (i + 1) s (by omega); omega
      · split
        · omega
        · have := own_rdk_lt cs k (i + 1) (s + 1) (by omega); omega
theorem own_rdk_zero (cs : List Int32) (k i : Nat) : own_rdk cs (k + 1) i 0 = 0 ↔ (¬ own_zo (cs.getD i 0) = (0 : Int32)) ∧ own_rdk cs k (i + 1) 0 = 0 := by
  rw [own_rdk]
  by_cases h1 : cs.getD i 0 = (46 : Int32)
  · rw [if_pos h1, h1]; simp [own_zo]
  · rw [if_neg h1]
    by_cases h2 : cs.getD i 0 = (48 : Int32)
    · rw [if_pos ⟨rfl, h2⟩, h2]; simp [own_zo]
    · rw [if_neg (fun q => h2 q.2), if_neg (by decide)]
      have := own_rdk_pos cs k (i + 1) (0 + 1) (by decide)
      constructor
      · intro q; omega
      · intro q; exact absurd (by rw [own_zo, if_neg h2, if_neg h1]) q.1
theorem own_z_eq (b : Addr) {n : Nat} (h : n < 2 ^ 31) : own_z b (Int32.ofNat n) = if n = 0 then (1 : Int32) else (0 : Int32) := by
  unfold own_z
  by_cases q : n = 0
  · rw [if_pos ((own_eq0 h).mpr q), if_pos q]
  · rw [if_neg (fun z => q ((own_eq0 h).mp z)), if_neg q]
theorem own_fin {b va : Addr} {c0 c1 c2 c3 : Int32} {n : Nat} (hn : n ≤ 4) : own_z b (Int32.ofNat (own_rdk ([c0, c1, c2, c3] : List Int32) n 0 0)) = own_ex va (Int32.ofNat n) c0 c1 c2 c3 := by
  rw [own_z_eq b (by have := own_rdk_lt ([c0, c1, c2, c3] : List Int32) n 0 0 (Nat.le_refl _); omega)]
  have e0 : ([c0, c1, c2, c3] : List Int32).getD 0 0 = c0 := rfl
  have e1 : ([c0, c1, c2, c3] : List Int32).getD 1 0 = c1 := rfl
  have e2 : ([c0, c1, c2, c3] : List Int32).getD 2 0 = c2 := rfl
  have e3 : ([c0, c1, c2, c3] : List Int32).getD 3 0 = c3 := rfl
  have ez : ∀ i, own_rdk ([c0, c1, c2, c3] : List Int32) 0 i 0 = 0 := fun _ => rfl
  have r : (own_rdk ([c0, c1, c2, c3] : List Int32) n 0 0 = 0) ↔ ((n < 1 ∨ ¬ own_zo c0 = 0) ∧ (n < 2 ∨ ¬ own_zo c1 = 0) ∧ (n < 3 ∨ ¬ own_zo c2 = 0) ∧ (n < 4 ∨ ¬ own_zo c3 = 0)) := by
    match n, hn with
    | 0, _ => simp [own_rdk]
    | 1, _ => rw [own_rdk_zero, e0]; simp [own_rdk]
    | 2, _ => rw [own_rdk_zero, own_rdk_zero, e0, e1]; simp [own_rdk]
    | 3, _ => rw [own_rdk_zero, own_rdk_zero, own_rdk_zero, e0, e1, e2]; simp [own_rdk, and_assoc]
    | 4, _ => rw [own_rdk_zero, own_rdk_zero, own_rdk_zero, own_rdk_zero, e0, e1, e2, e3]; simp [own_rdk, and_assoc]
  have l1 : (Int32.ofNat n < (1 : Int32)) ↔ n < 1 := own_lt32 (j := 1) (by omega) (by decide)
  have l2 : (Int32.ofNat n < (2 : Int32)) ↔ n < 2 := own_lt32 (j := 2) (by omega) (by decide)
  have l3 : (Int32.ofNat n < (3 : Int32)) ↔ n < 3 := own_lt32 (j := 3) (by omega) (by decide)
  have l4 : (Int32.ofNat n < (4 : Int32)) ↔ n < 4 := own_lt32 (j := 4) (by omega) (by decide)
  simp only [r, own_ex, l1, l2, l3, l4]
  clear r l1 l2 l3 l4 ez e0 e1 e2 e3
  by_cases h0 : own_zo c0 = (0 : Int32) <;> by_cases h1 : own_zo c1 = (0 : Int32) <;> by_cases h2 : own_zo c2 = (0 : Int32) <;> by_cases h3 : own_zo c3 = (0 : Int32) <;> simp only [h0, h1, h2, h3] <;> (match n, hn with
    | 0, _ => simp
    | 1, _ => simp
    | 2, _ => simp
    | 3, _ => simp
    | 4, _ => simp)
theorem pd_3 : parseMethodDescriptor "([C)V" = some ⟨[(.array .char)], none⟩ := by decide +kernel
theorem pd_4 : parseMethodDescriptor "()V" = some ⟨[], none⟩ := by decide +kernel
theorem pd_5 : parseMethodDescriptor "(Ljava/lang/String;II)V" = some ⟨[(.object "java/lang/String"), .int, .int], none⟩ := by decide +kernel
theorem pd_6 : parseMethodDescriptor "()Z" = some ⟨[], some .boolean⟩ := by decide +kernel
theorem pd_7 : parseMethodDescriptor "([CI)Z" = some ⟨[(.array .char), .int], some .boolean⟩ := by decide +kernel
theorem ef_rm0 (m : MethodId) (x0 : Int32) (x1 : Int32) (x2 : Int32) (x3 : Int32) (x4 : Int32) (x5 : Int32) : entryFrame m #[(.int x0), (.int x1), (.int x2), (.int x3), (.int x4), (.int x5)] maxLocals = mkF m 0 #[.val (.int x0), .val (.int x1), .val (.int x2), .val (.int x3), .val (.int x4), .val (.int x5), .unset, .unset, .unset, .unset, .unset, .unset, .unset, .unset] [] := by first | (simp [entryFrame, mkF, argsToLocals, Value.category, maxLocals]; done) | rfl
def Q0 (Z : State) (vd0 : Int32) (vd1 : Int32) (vd2 : Int32) (vd3 : Int32) (vsh : Int32) (vsc : Int32) (vz : Int32) (fm : Value) (h0 : Heap) (n0 : Nat) (v : Option Value) (h : Heap) (L : List Loc) : Prop := v = some (.int (1 : Int32)) ∧ Fr n0 L
set_option maxRecDepth 65536 in
set_option maxHeartbeats 40000000 in
theorem rm0 (l : Launch) (Z : State) (a0 : Array Value) (hw : ∀ d ∈ tables_1, d.before a0 Z = true) (ws : List Jvm.Cond) (vd0 : Int32) (vd1 : Int32) (vd2 : Int32) (vd3 : Int32) (vsh : Int32) (vsc : Int32) (vz : Int32) (fm : Value) (h0 : Heap) (n0 : Nat) (Z0 : n0 ≤ h0.size) (S_cs : Sta Z h0 "java/lang/String" "COMPACT_STRINGS" "Z" (.int vz)) (S_fm : Sta Z h0 "jdk/internal/util/Preconditions" "SIOOBE_FORMATTER" "Ljava/util/function/BiFunction;" fm) (hcs : ¬ vz = 0) (rfm : fm.isRef = true) :
    MetFree l x (head1 (Jvm.Cond.code x code maxLocals ret :: ws) room_1) (fun a U => a = #[(.int vd0), (.int vd1), (.int vd2), (.int vd3), (.int vsh), (.int vsc)] ∧ Z.Warmed39 U.vm ∧ U.heap = h0) (fun _ _ _ _ _ => True) (fun _ U o U' => ∃ v L, o = .returned v ∧ Q0 Z vd0 vd1 vd2 vd3 vsh vsc vz fm h0 n0 v U'.heap L ∧ FrameEnd U o U' L room_1.cells room_1.slots) := by
  refine MetFree.of_bodySF (plainFor_of_name pn_15) hisR ?_
  intro p e s m args below meth c s₁ Bd hml0 hP hK
  obtain ⟨rfl, hZ, hh⟩ := hP
  have hx := Bd.exec
  have hby := Bd.bytes
  have hml : c.maxLocals = 14 := hml0
  have hown : s.vm.findClass "com/example/paniere/paniere/DigitsIsZeroPinLaw" = some m.cls := findClass_of_methodNamed Bd.named
  have hnm := (name_of_methodNamed Bd.named Bd.method).1
  have X0 : Stand p l e room_1 s m #[(.int vd0), (.int vd1), (.int vd2), (.int vd3), (.int vsh), (.int vsc)] below meth c s₁ [] 0 0 := Stand.of_body Bd
  have e0 : s₁.heap = h0 := by rw [← hh, Bd.state]; rfl
  have N0 := Fr.nil n0
  have pre0 : ∀ t, Steps p.tables e below (s₁.setTop (mkF m 0 #[.val (.int vd0), .val (.int vd1), .val (.int vd2), .val (.int vd3), .val (.int vsh), .val (.int vsc), .unset, .unset, .unset, .unset, .unset, .unset, .unset, .unset] [])) t → Steps p.tables e below (s₁.setTop (entryFrame m #[(.int vd0), (.int vd1), (.int vd2), (.int vd3), (.int vsh), (.int vsc)] maxLocals)) t := fun t k => castTop (ef_rm0 m vd0 vd1 vd2 vd3 vsh vsc) k
  obtain ⟨T1, h1, k1, X1, e1, E1, A1, st1⟩ := newP X0 hx hZ (hw _ (List.mem_of_getElem? (i := 0) rfl)) e0 (g := (mkF m 1 #[.val (.int vd0), .val (.int vd1), .val (.int vd2), .val (.int vd3), .val (.int vsh), .val (.int vsc), .unset, .unset, .unset, .unset, .unset, .unset, .unset, .unset] [(.int (4 : Int32))])) rfl (hb hby at_1) rfl (by decide) (cap := 4) (by decide) (by decide) (by decide) (by decide)
  obtain ⟨b1, g1⟩ : ∃ z, z = h0.size := ⟨_, rfl⟩
  rw [← g1] at A1 st1
  have g_b1 : n0 ≤ b1 := Nat.le_trans Z0 (Nat.le_of_eq g1.symm)
  have sz_b1 : h0.size ≤ b1 := Nat.le_trans (Keep.refl h0 []).1 (Nat.le_of_eq g1.symm)
  have Z1 : n0 ≤ h1.size := Nat.le_trans Z0 E1.1
  have K1 : Keep h0 h1 [] := (Keep.refl h0 []).ext E1
  have V1 : Arv Z h1 b1 k1 .char (4 : Int32) [(.int (0 : Int32)), (.int (0 : Int32)), (.int (0 : Int32)), (.int (0 : Int32))] (.int (0 : Int32)) := (Arv.new A1 (by decide)).pad (pad_rep [] (.int (0 : Int32)) 4)
  obtain ⟨_, _, ⟨T2, L2, k2, n2⟩, -, X2, ⟨Lc2, hQ2, l2, y2, z2⟩, st2⟩ := Jvm.LawKit.callS X1 hx (y := (⟨"com/example/paniere/paniere/DigitsIsZeroPinLaw", "digit", "(I)C"⟩ : MethodName)) hown (mvT hZ (hw _ (List.mem_of_getElem? (i := 1) rfl))) (mvT hZ (hw _ (List.mem_of_getElem? (i := 2) rfl))) (mvT hZ (hw _ (List.mem_of_getElem? (i := 3) rfl))) (mvT hZ (hw _ (List.mem_of_getElem? (i := 4) rfl))) (by decide) (backOf (W := 2) (rm1 l Z a0 hw [] vd0  h1 n0 Z1 ) hZ (hw _ (List.mem_of_getElem? (i := 4) rfl)) (hw _ (List.mem_of_getElem? (i := 3) rfl)) (by decide) (by decide)) (g := (mkF m 9 #[.val (.int vd0), .val (.int vd1), .val (.int vd2), .val (.int vd3), .val (.int vsh), .val (.int vsc), .val (.ref b1), .unset, .unset, .unset, .unset, .unset, .unset, .unset] [(.int vd0), (.int (0 : Int32)), (.ref b1)])) rfl (by rw [hml]; rfl) (argsL := [(.int vd0)]) (rest := [(.int (0 : Int32)), (.ref b1)]) (lenOf pd_0 rfl) rfl (by show 2 * 0 + _ ≤ _; exact Nat.le_of_eq rfl) (hb hby at_9) (fun _ _ => ⟨rfl, e1, (by decide : 1 + 0 ≤ _), (by decide : 4 + 0 ≤ _)⟩)
  dsimp only [Pt.U, Pt.locs, Pt.cells, Pt.slots] at X2 l2 y2 z2 st2 hQ2
  subst l2 y2 z2
  obtain ⟨rfl, N2q, e2q⟩ := hQ2
  have N2 := Fr.app N0 N2q
  obtain ⟨cl3, Ar3, q3, S3, NN3, HH3, GG3⟩ := id V1
  have hin3 : ¬ ((0 : Int32) < 0 ∨ cl3.slots.size ≤ ((0 : Int32)).toNatClampNeg) := inb_of S3 ⟨by decide, by decide⟩
  obtain ⟨T4, h4, X4, e4, W4, st4⟩ := stC X2 hx hZ e2q Ar3 (j := (0 : Int32)) hin3  (g := (mkF m 12 #[.val (.int vd0), .val (.int vd1), .val (.int vd2), .val (.int vd3), .val (.int vsh), .val (.int vsc), .val (.ref b1), .unset, .unset, .unset, .unset, .unset, .unset, .unset] [(.int (own_dig vd0)), (.int (0 : Int32)), (.ref b1)])) rfl rfl (hb hby at_12)
  have V4 : Arv Z h4 b1 k1 .char (4 : Int32) [(.int (nar .char (own_dig vd0))), (.int (0 : Int32)), (.int (0 : Int32)), (.int (0 : Int32))] (.int (0 : Int32)) := (Arv.set Ar3 q3 S3 NN3 HH3 GG3 (fits_nar_char _) W4 0 rfl (Nat.le_of_ble_eq_true rfl))
  have Z4 : n0 ≤ h4.size := Nat.le_trans Z1 (Keep.of_wr W4).1
  have N4 := Fr.snoc X4 N2 g_b1
  have K4 : Keep h0 h4 [] := K1.wr W4 (Or.inr sz_b1)
  obtain ⟨_, _, ⟨T5, L5, k5, n5⟩, -, X5, ⟨Lc5, hQ5, l5, y5, z5⟩, st5⟩ := Jvm.LawKit.callS X4 hx (y := (⟨"com/example/paniere/paniere/DigitsIsZeroPinLaw", "digit", "(I)C"⟩ : MethodName)) hown (mvT hZ (hw _ (List.mem_of_getElem? (i := 1) rfl))) (mvT hZ (hw _ (List.mem_of_getElem? (i := 2) rfl))) (mvT hZ (hw _ (List.mem_of_getElem? (i := 3) rfl))) (mvT hZ (hw _ (List.mem_of_getElem? (i := 4) rfl))) (by decide) (backOf (W := 2) (rm1 l Z a0 hw [] vd1  h4 n0 Z4 ) hZ (hw _ (List.mem_of_getElem? (i := 4) rfl)) (hw _ (List.mem_of_getElem? (i := 3) rfl)) (by decide) (by decide)) (g := (mkF m 17 #[.val (.int vd0), .val (.int vd1), .val (.int vd2), .val (.int vd3), .val (.int vsh), .val (.int vsc), .val (.ref b1), .unset, .unset, .unset, .unset, .unset, .unset, .unset] [(.int vd1), (.int (1 : Int32)), (.ref b1)])) rfl (by rw [hml]; rfl) (argsL := [(.int vd1)]) (rest := [(.int (1 : Int32)), (.ref b1)]) (lenOf pd_0 rfl) rfl (by show 2 * 0 + _ ≤ _; exact Nat.le_of_eq rfl) (hb hby at_17) (fun _ _ => ⟨rfl, e4, (by decide : 1 + 0 ≤ _), (by decide : 4 + 0 ≤ _)⟩)
  dsimp only [Pt.U, Pt.locs, Pt.cells, Pt.slots] at X5 l5 y5 z5 st5 hQ5
  subst l5 y5 z5
  obtain ⟨rfl, N5q, e5q⟩ := hQ5
  have N5 := Fr.app N4 N5q
  obtain ⟨cl6, Ar6, q6, S6, NN6, HH6, GG6⟩ := id V4
  have hin6 : ¬ ((1 : Int32) < 0 ∨ cl6.slots.size ≤ ((1 : Int32)).toNatClampNeg) := inb_of S6 ⟨by decide, by decide⟩
  obtain ⟨T7, h7, X7, e7, W7, st7⟩ := stC X5 hx hZ e5q Ar6 (j := (1 : Int32)) hin6  (g := (mkF m 20 #[.val (.int vd0), .val (.int vd1), .val (.int vd2), .val (.int vd3), .val (.int vsh), .val (.int vsc), .val (.ref b1), .unset, .unset, .unset, .unset, .unset, .unset, .unset] [(.int (own_dig vd1)), (.int (1 : Int32)), (.ref b1)])) rfl rfl (hb hby at_20)
  have V7 : Arv Z h7 b1 k1 .char (4 : Int32) [(.int (nar .char (own_dig vd0))), (.int (nar .char (own_dig vd1))), (.int (0 : Int32)), (.int (0 : Int32))] (.int (0 : Int32)) := (Arv.set Ar6 q6 S6 NN6 HH6 GG6 (fits_nar_char _) W7 1 rfl (Nat.le_of_ble_eq_true rfl))
  have Z7 : n0 ≤ h7.size := Nat.le_trans Z4 (Keep.of_wr W7).1
  have N7 := Fr.snoc X7 N5 g_b1
  have K7 : Keep h0 h7 [] := K4.wr W7 (Or.inr sz_b1)
  obtain ⟨_, _, ⟨T8, L8, k8, n8⟩, -, X8, ⟨Lc8, hQ8, l8, y8, z8⟩, st8⟩ := Jvm.LawKit.callS X7 hx (y := (⟨"com/example/paniere/paniere/DigitsIsZeroPinLaw", "digit", "(I)C"⟩ : MethodName)) hown (mvT hZ (hw _ (List.mem_of_getElem? (i := 1) rfl))) (mvT hZ (hw _ (List.mem_of_getElem? (i := 2) rfl))) (mvT hZ (hw _ (List.mem_of_getElem? (i := 3) rfl))) (mvT hZ (hw _ (List.mem_of_getElem? (i := 4) rfl))) (by decide) (backOf (W := 2) (rm1 l Z a0 hw [] vd2  h7 n0 Z7 ) hZ (hw _ (List.mem_of_getElem? (i := 4) rfl)) (hw _ (List.mem_of_getElem? (i := 3) rfl)) (by decide) (by decide)) (g := (mkF m 25 #[.val (.int vd0), .val (.int vd1), .val (.int vd2), .val (.int vd3), .val (.int vsh), .val (.int vsc), .val (.ref b1), .unset, .unset, .unset, .unset, .unset, .unset, .unset] [(.int vd2), (.int (2 : Int32)), (.ref b1)])) rfl (by rw [hml]; rfl) (argsL := [(.int vd2)]) (rest := [(.int (2 : Int32)), (.ref b1)]) (lenOf pd_0 rfl) rfl (by show 2 * 0 + _ ≤ _; exact Nat.le_of_eq rfl) (hb hby at_25) (fun _ _ => ⟨rfl, e7, (by decide : 1 + 0 ≤ _), (by decide : 4 + 0 ≤ _)⟩)
  dsimp only [Pt.U, Pt.locs, Pt.cells, Pt.slots] at X8 l8 y8 z8 st8 hQ8
  subst l8 y8 z8
  obtain ⟨rfl, N8q, e8q⟩ := hQ8
  have N8 := Fr.app N7 N8q
  obtain ⟨cl9, Ar9, q9, S9, NN9, HH9, GG9⟩ := id V7
  have hin9 : ¬ ((2 : Int32) < 0 ∨ cl9.slots.size ≤ ((2 : Int32)).toNatClampNeg) := inb_of S9 ⟨by decide, by decide⟩
  obtain ⟨T10, h10, X10, e10, W10, st10⟩ := stC X8 hx hZ e8q Ar9 (j := (2 : Int32)) hin9  (g := (mkF m 28 #[.val (.int vd0), .val (.int vd1), .val (.int vd2), .val (.int vd3), .val (.int vsh), .val (.int vsc), .val (.ref b1), .unset, .unset, .unset, .unset, .unset, .unset, .unset] [(.int (own_dig vd2)), (.int (2 : Int32)), (.ref b1)])) rfl rfl (hb hby at_28)
  have V10 : Arv Z h10 b1 k1 .char (4 : Int32) [(.int (nar .char (own_dig vd0))), (.int (nar .char (own_dig vd1))), (.int (nar .char (own_dig vd2))), (.int (0 : Int32))] (.int (0 : Int32)) := (Arv.set Ar9 q9 S9 NN9 HH9 GG9 (fits_nar_char _) W10 2 rfl (Nat.le_of_ble_eq_true rfl))
  have Z10 : n0 ≤ h10.size := Nat.le_trans Z7 (Keep.of_wr W10).1
  have N10 := Fr.snoc X10 N8 g_b1
  have K10 : Keep h0 h10 [] := K7.wr W10 (Or.inr sz_b1)
  obtain ⟨_, _, ⟨T11, L11, k11, n11⟩, -, X11, ⟨Lc11, hQ11, l11, y11, z11⟩, st11⟩ := Jvm.LawKit.callS X10 hx (y := (⟨"com/example/paniere/paniere/DigitsIsZeroPinLaw", "digit", "(I)C"⟩ : MethodName)) hown (mvT hZ (hw _ (List.mem_of_getElem? (i := 1) rfl))) (mvT hZ (hw _ (List.mem_of_getElem? (i := 2) rfl))) (mvT hZ (hw _ (List.mem_of_getElem? (i := 3) rfl))) (mvT hZ (hw _ (List.mem_of_getElem? (i := 4) rfl))) (by decide) (backOf (W := 2) (rm1 l Z a0 hw [] vd3  h10 n0 Z10 ) hZ (hw _ (List.mem_of_getElem? (i := 4) rfl)) (hw _ (List.mem_of_getElem? (i := 3) rfl)) (by decide) (by decide)) (g := (mkF m 33 #[.val (.int vd0), .val (.int vd1), .val (.int vd2), .val (.int vd3), .val (.int vsh), .val (.int vsc), .val (.ref b1), .unset, .unset, .unset, .unset, .unset, .unset, .unset] [(.int vd3), (.int (3 : Int32)), (.ref b1)])) rfl (by rw [hml]; rfl) (argsL := [(.int vd3)]) (rest := [(.int (3 : Int32)), (.ref b1)]) (lenOf pd_0 rfl) rfl (by show 2 * 0 + _ ≤ _; exact Nat.le_of_eq rfl) (hb hby at_33) (fun _ _ => ⟨rfl, e10, (by decide : 1 + 0 ≤ _), (by decide : 4 + 0 ≤ _)⟩)
  dsimp only [Pt.U, Pt.locs, Pt.cells, Pt.slots] at X11 l11 y11 z11 st11 hQ11
  subst l11 y11 z11
  obtain ⟨rfl, N11q, e11q⟩ := hQ11
  have N11 := Fr.app N10 N11q
  obtain ⟨cl12, Ar12, q12, S12, NN12, HH12, GG12⟩ := id V10
  have hin12 : ¬ ((3 : Int32) < 0 ∨ cl12.slots.size ≤ ((3 : Int32)).toNatClampNeg) := inb_of S12 ⟨by decide, by decide⟩
  obtain ⟨T13, h13, X13, e13, W13, st13⟩ := stC X11 hx hZ e11q Ar12 (j := (3 : Int32)) hin12  (g := (mkF m 36 #[.val (.int vd0), .val (.int vd1), .val (.int vd2), .val (.int vd3), .val (.int vsh), .val (.int vsc), .val (.ref b1), .unset, .unset, .unset, .unset, .unset, .unset, .unset] [(.int (own_dig vd3)), (.int (3 : Int32)), (.ref b1)])) rfl rfl (hb hby at_36)
  have V13 : Arv Z h13 b1 k1 .char (4 : Int32) [(.int (nar .char (own_dig vd0))), (.int (nar .char (own_dig vd1))), (.int (nar .char (own_dig vd2))), (.int (nar .char (own_dig vd3)))] (.int (0 : Int32)) := (Arv.set Ar12 q12 S12 NN12 HH12 GG12 (fits_nar_char _) W13 3 rfl (Nat.le_of_ble_eq_true rfl))
  have Z13 : n0 ≤ h13.size := Nat.le_trans Z10 (Keep.of_wr W13).1
  have N13 := Fr.snoc X13 N11 g_b1
  have K13 : Keep h0 h13 [] := K10.wr W13 (Or.inr sz_b1)
  have pre14 : ∀ t, Steps p.tables e below (T13.setTop (mkF m 44 #[.val (.int vd0), .val (.int vd1), .val (.int vd2), .val (.int vd3), .val (.int vsh), .val (.int vsc), .val (.ref b1), .val (.int (vsh &&& (7 : Int32))), .unset, .unset, .unset, .unset, .unset, .unset] [])) t → Steps p.tables e below (s₁.setTop (entryFrame m #[(.int vd0), (.int vd1), (.int vd2), (.int vd3), (.int vsh), (.int vsc)] maxLocals)) t := by
    intro t kt
    refine pre0 t ?_
    show Steps p.tables e below (s₁.setTop (mkF m 0 #[.val (.int vd0), .val (.int vd1), .val (.int vd2), .val (.int vd3), .val (.int vsh), .val (.int vsc), .unset, .unset, .unset, .unset, .unset, .unset, .unset, .unset] [])) _
    refine XS.iconst X0.here hx rfl (hb hby at_0) ?_
    show Steps p.tables e below (s₁.setTop (mkF m 1 #[.val (.int vd0), .val (.int vd1), .val (.int vd2), .val (.int vd3), .val (.int vsh), .val (.int vsc), .unset, .unset, .unset, .unset, .unset, .unset, .unset, .unset] [(.int (4 : Int32))])) _
    refine st1 _ ?_
    show Steps p.tables e below (T1.setTop (mkF m 3 #[.val (.int vd0), .val (.int vd1), .val (.int vd2), .val (.int vd3), .val (.int vsh), .val (.int vsc), .unset, .unset, .unset, .unset, .unset, .unset, .unset, .unset] [(.ref b1)])) _
    refine XS.astore X1.here hx rfl (hb hby at_3) rfl rfl (l' := #[.val (.int vd0), .val (.int vd1), .val (.int vd2), .val (.int vd3), .val (.int vsh), .val (.int vsc), .val (.ref b1), .unset, .unset, .unset, .unset, .unset, .unset, .unset]) rfl ?_
    show Steps p.tables e below (T1.setTop (mkF m 5 #[.val (.int vd0), .val (.int vd1), .val (.int vd2), .val (.int vd3), .val (.int vsh), .val (.int vsc), .val (.ref b1), .unset, .unset, .unset, .unset, .unset, .unset, .unset] [])) _
    refine XS.aload X1.here hx rfl (hb hby at_5) rfl rfl ?_
    show Steps p.tables e below (T1.setTop (mkF m 7 #[.val (.int vd0), .val (.int vd1), .val (.int vd2), .val (.int vd3), .val (.int vsh), .val (.int vsc), .val (.ref b1), .unset, .unset, .unset, .unset, .unset, .unset, .unset] [(.ref b1)])) _
    refine XS.iconst X1.here hx rfl (hb hby at_7) ?_
    show Steps p.tables e below (T1.setTop (mkF m 8 #[.val (.int vd0), .val (.int vd1), .val (.int vd2), .val (.int vd3), .val (.int vsh), .val (.int vsc), .val (.ref b1), .unset, .unset, .unset, .unset, .unset, .unset, .unset] [(.int (0 : Int32)), (.ref b1)])) _
    refine XS.iloadN X1.here hx rfl (hb hby at_8) rfl ?_
    show Steps p.tables e below (T1.setTop (mkF m 9 #[.val (.int vd0), .val (.int vd1), .val (.int vd2), .val (.int vd3), .val (.int vsh), .val (.int vsc), .val (.ref b1), .unset, .unset, .unset, .unset, .unset, .unset, .unset] [(.int vd0), (.int (0 : Int32)), (.ref b1)])) _
    refine st2 _ ?_
    show Steps p.tables e below (T2.setTop (mkF m 12 #[.val (.int vd0), .val (.int vd1), .val (.int vd2), .val (.int vd3), .val (.int vsh), .val (.int vsc), .val (.ref b1), .unset, .unset, .unset, .unset, .unset, .unset, .unset] [(.int (own_dig vd0)), (.int (0 : Int32)), (.ref b1)])) _
    refine st4 _ ?_
    show Steps p.tables e below (T4.setTop (mkF m 13 #[.val (.int vd0), .val (.int vd1), .val (.int vd2), .val (.int vd3), .val (.int vsh), .val (.int vsc), .val (.ref b1), .unset, .unset, .unset, .unset, .unset, .unset, .unset] [])) _
    refine XS.aload X4.here hx rfl (hb hby at_13) rfl rfl ?_
    show Steps p.tables e below (T4.setTop (mkF m 15 #[.val (.int vd0), .val (.int vd1), .val (.int vd2), .val (.int vd3), .val (.int vsh), .val (.int vsc), .val (.ref b1), .unset, .unset, .unset, .unset, .unset, .unset, .unset] [(.ref b1)])) _
    refine XS.iconst X4.here hx rfl (hb hby at_15) ?_
    show Steps p.tables e below (T4.setTop (mkF m 16 #[.val (.int vd0), .val (.int vd1), .val (.int vd2), .val (.int vd3), .val (.int vsh), .val (.int vsc), .val (.ref b1), .unset, .unset, .unset, .unset, .unset, .unset, .unset] [(.int (1 : Int32)), (.ref b1)])) _
    refine XS.iloadN X4.here hx rfl (hb hby at_16) rfl ?_
    show Steps p.tables e below (T4.setTop (mkF m 17 #[.val (.int vd0), .val (.int vd1), .val (.int vd2), .val (.int vd3), .val (.int vsh), .val (.int vsc), .val (.ref b1), .unset, .unset, .unset, .unset, .unset, .unset, .unset] [(.int vd1), (.int (1 : Int32)), (.ref b1)])) _
    refine st5 _ ?_
    show Steps p.tables e below (T5.setTop (mkF m 20 #[.val (.int vd0), .val (.int vd1), .val (.int vd2), .val (.int vd3), .val (.int vsh), .val (.int vsc), .val (.ref b1), .unset, .unset, .unset, .unset, .unset, .unset, .unset] [(.int (own_dig vd1)), (.int (1 : Int32)), (.ref b1)])) _
    refine st7 _ ?_
    show Steps p.tables e below (T7.setTop (mkF m 21 #[.val (.int vd0), .val (.int vd1), .val (.int vd2), .val (.int vd3), .val (.int vsh), .val (.int vsc), .val (.ref b1), .unset, .unset, .unset, .unset, .unset, .unset, .unset] [])) _
    refine XS.aload X7.here hx rfl (hb hby at_21) rfl rfl ?_
    show Steps p.tables e below (T7.setTop (mkF m 23 #[.val (.int vd0), .val (.int vd1), .val (.int vd2), .val (.int vd3), .val (.int vsh), .val (.int vsc), .val (.ref b1), .unset, .unset, .unset, .unset, .unset, .unset, .unset] [(.ref b1)])) _
    refine XS.iconst X7.here hx rfl (hb hby at_23) ?_
    show Steps p.tables e below (T7.setTop (mkF m 24 #[.val (.int vd0), .val (.int vd1), .val (.int vd2), .val (.int vd3), .val (.int vsh), .val (.int vsc), .val (.ref b1), .unset, .unset, .unset, .unset, .unset, .unset, .unset] [(.int (2 : Int32)), (.ref b1)])) _
    refine XS.iloadN X7.here hx rfl (hb hby at_24) rfl ?_
    show Steps p.tables e below (T7.setTop (mkF m 25 #[.val (.int vd0), .val (.int vd1), .val (.int vd2), .val (.int vd3), .val (.int vsh), .val (.int vsc), .val (.ref b1), .unset, .unset, .unset, .unset, .unset, .unset, .unset] [(.int vd2), (.int (2 : Int32)), (.ref b1)])) _
    refine st8 _ ?_
    show Steps p.tables e below (T8.setTop (mkF m 28 #[.val (.int vd0), .val (.int vd1), .val (.int vd2), .val (.int vd3), .val (.int vsh), .val (.int vsc), .val (.ref b1), .unset, .unset, .unset, .unset, .unset, .unset, .unset] [(.int (own_dig vd2)), (.int (2 : Int32)), (.ref b1)])) _
    refine st10 _ ?_
    show Steps p.tables e below (T10.setTop (mkF m 29 #[.val (.int vd0), .val (.int vd1), .val (.int vd2), .val (.int vd3), .val (.int vsh), .val (.int vsc), .val (.ref b1), .unset, .unset, .unset, .unset, .unset, .unset, .unset] [])) _
    refine XS.aload X10.here hx rfl (hb hby at_29) rfl rfl ?_
    show Steps p.tables e below (T10.setTop (mkF m 31 #[.val (.int vd0), .val (.int vd1), .val (.int vd2), .val (.int vd3), .val (.int vsh), .val (.int vsc), .val (.ref b1), .unset, .unset, .unset, .unset, .unset, .unset, .unset] [(.ref b1)])) _
    refine XS.iconst X10.here hx rfl (hb hby at_31) ?_
    show Steps p.tables e below (T10.setTop (mkF m 32 #[.val (.int vd0), .val (.int vd1), .val (.int vd2), .val (.int vd3), .val (.int vsh), .val (.int vsc), .val (.ref b1), .unset, .unset, .unset, .unset, .unset, .unset, .unset] [(.int (3 : Int32)), (.ref b1)])) _
    refine XS.iloadN X10.here hx rfl (hb hby at_32) rfl ?_
    show Steps p.tables e below (T10.setTop (mkF m 33 #[.val (.int vd0), .val (.int vd1), .val (.int vd2), .val (.int vd3), .val (.int vsh), .val (.int vsc), .val (.ref b1), .unset, .unset, .unset, .unset, .unset, .unset, .unset] [(.int vd3), (.int (3 : Int32)), (.ref b1)])) _
    refine st11 _ ?_
    show Steps p.tables e below (T11.setTop (mkF m 36 #[.val (.int vd0), .val (.int vd1), .val (.int vd2), .val (.int vd3), .val (.int vsh), .val (.int vsc), .val (.ref b1), .unset, .unset, .unset, .unset, .unset, .unset, .unset] [(.int (own_dig vd3)), (.int (3 : Int32)), (.ref b1)])) _
    refine st13 _ ?_
    show Steps p.tables e below (T13.setTop (mkF m 37 #[.val (.int vd0), .val (.int vd1), .val (.int vd2), .val (.int vd3), .val (.int vsh), .val (.int vsc), .val (.ref b1), .unset, .unset, .unset, .unset, .unset, .unset, .unset] [])) _
    refine XS.iload X13.here hx rfl (hb hby at_37) rfl ?_
    show Steps p.tables e below (T13.setTop (mkF m 39 #[.val (.int vd0), .val (.int vd1), .val (.int vd2), .val (.int vd3), .val (.int vsh), .val (.int vsc), .val (.ref b1), .unset, .unset, .unset, .unset, .unset, .unset, .unset] [(.int vsh)])) _
    refine XS.bipush X13.here hx rfl (hb hby at_39) ?_
    show Steps p.tables e below (T13.setTop (mkF m 41 #[.val (.int vd0), .val (.int vd1), .val (.int vd2), .val (.int vd3), .val (.int vsh), .val (.int vsc), .val (.ref b1), .unset, .unset, .unset, .unset, .unset, .unset, .unset] [(.int (7 : Int32)), (.int vsh)])) _
    refine XS.iand X13.here hx rfl (hb hby at_41) rfl ?_
    show Steps p.tables e below (T13.setTop (mkF m 42 #[.val (.int vd0), .val (.int vd1), .val (.int vd2), .val (.int vd3), .val (.int vsh), .val (.int vsc), .val (.ref b1), .unset, .unset, .unset, .unset, .unset, .unset, .unset] [(.int (vsh &&& (7 : Int32)))])) _
    refine XS.istore X13.here hx rfl (hb hby at_42) rfl (l' := #[.val (.int vd0), .val (.int vd1), .val (.int vd2), .val (.int vd3), .val (.int vsh), .val (.int vsc), .val (.ref b1), .val (.int (vsh &&& (7 : Int32))), .unset, .unset, .unset, .unset, .unset, .unset]) rfl ?_
    exact kt
  obtain ⟨pt, hpt⟩ : ∃ z : Int32, z = (vsh &&& (7 : Int32)) := ⟨_, rfl⟩
  rw [← hpt] at pre14
  obtain ⟨T15, h15, L15, c0, c1, c2, c3, X15, e15, N15, K15, Z15, V15, ⟨ok0, ok1, ok2, ok3⟩, pre15⟩ : ∃ (Tm : State) (hm : Heap) (Lm : List Loc) (c0 c1 c2 c3 : Int32), Stand p l e room_1 s m #[(.int vd0), (.int vd1), (.int vd2), (.int vd3), (.int vsh), (.int vsc)] below meth c Tm Lm 1 4 ∧ Tm.heap = hm ∧ Fr n0 Lm ∧ Keep h0 hm [] ∧ n0 ≤ hm.size ∧ Arv Z hm b1 k1 .char (4 : Int32) [(.int c0), (.int c1), (.int c2), (.int c3)] (.int (0 : Int32)) ∧ (own_okc c0 ∧ own_okc c1 ∧ own_okc c2 ∧ own_okc c3) ∧ ∀ t, Steps p.tables e below (Tm.setTop (mkF m 57 #[.val (.int vd0), .val (.int vd1), .val (.int vd2), .val (.int vd3), .val (.int vsh), .val (.int vsc), .val (.ref b1), .val (.int pt), .unset, .unset, .unset, .unset, .unset, .unset] [])) t → Steps p.tables e below (s₁.setTop (entryFrame m #[(.int vd0), (.int vd1), (.int vd2), (.int vd3), (.int vsh), (.int vsc)] maxLocals)) t := by
    have pre16 : ∀ t, Steps p.tables e below (T13.setTop (mkF m 47 #[.val (.int vd0), .val (.int vd1), .val (.int vd2), .val (.int vd3), .val (.int vsh), .val (.int vsc), .val (.ref b1), .val (.int pt), .unset, .unset, .unset, .unset, .unset, .unset] [(.int (4 : Int32)), (.int pt)])) t → Steps p.tables e below (s₁.setTop (entryFrame m #[(.int vd0), (.int vd1), (.int vd2), (.int vd3), (.int vsh), (.int vsc)] maxLocals)) t := by
      intro t kt
      refine pre14 t ?_
      show Steps p.tables e below (T13.setTop (mkF m 44 #[.val (.int vd0), .val (.int vd1), .val (.int vd2), .val (.int vd3), .val (.int vsh), .val (.int vsc), .val (.ref b1), .val (.int pt), .unset, .unset, .unset, .unset, .unset, .unset] [])) _
      refine XS.iload X13.here hx rfl (hb hby at_44) rfl ?_
      show Steps p.tables e below (T13.setTop (mkF m 46 #[.val (.int vd0), .val (.int vd1), .val (.int vd2), .val (.int vd3), .val (.int vsh), .val (.int vsc), .val (.ref b1), .val (.int pt), .unset, .unset, .unset, .unset, .unset, .unset] [(.int pt)])) _
      refine XS.iconst X13.here hx rfl (hb hby at_46) ?_
      exact kt
    by_cases hc17 : pt < (4 : Int32)
    ·
      have pre18 : ∀ t, Steps p.tables e below (T13.setTop (mkF m 50 #[.val (.int vd0), .val (.int vd1), .val (.int vd2), .val (.int vd3), .val (.int vsh), .val (.int vsc), .val (.ref b1), .val (.int pt), .unset, .unset, .unset, .unset, .unset, .unset] [])) t → Steps p.tables e below (s₁.setTop (entryFrame m #[(.int vd0), (.int vd1), (.int vd2), (.int vd3), (.int vsh), (.int vsc)] maxLocals)) t := by
        intro t kt
        refine pre16 t ?_
        show Steps p.tables e below (T13.setTop (mkF m 47 #[.val (.int vd0), .val (.int vd1), .val (.int vd2), .val (.int vd3), .val (.int vsh), .val (.int vsc), .val (.ref b1), .val (.int pt), .unset, .unset, .unset, .unset, .unset, .unset] [(.int (4 : Int32)), (.int pt)])) _
        refine XS.icmpNo X13.here hx rfl (hb hby at_47) rfl (tlt (hc17 : pt < (4 : Int32))).2.1 ?_
        exact kt
      rcases own_p4 hpt hc17 with rfl | rfl | rfl | rfl
      ·
        obtain ⟨cl19, Ar19, q19, S19, NN19, HH19, GG19⟩ := id V13
        have hin19 : ¬ ((0 : Int32) < 0 ∨ cl19.slots.size ≤ ((0 : Int32)).toNatClampNeg) := inb_of S19 ⟨by decide, by decide⟩
        obtain ⟨T20, h20, X20, e20, W20, st20⟩ := stC X13 hx hZ e13 Ar19 (j := (0 : Int32)) hin19  (g := (mkF m 56 #[.val (.int vd0), .val (.int vd1), .val (.int vd2), .val (.int vd3), .val (.int vsh), .val (.int vsc), .val (.ref b1), .val (.int (0 : Int32)), .unset, .unset, .unset, .unset, .unset, .unset] [(.int (46 : Int32)), (.int (0 : Int32)), (.ref b1)])) rfl rfl (hb hby at_56)
        have V20 : Arv Z h20 b1 k1 .char (4 : Int32) [(.int (nar .char (46 : Int32))), (.int (nar .char (own_dig vd1))), (.int (nar .char (own_dig vd2))), (.int (nar .char (own_dig vd3)))] (.int (0 : Int32)) := (Arv.set Ar19 q19 S19 NN19 HH19 GG19 (fits_nar_char _) W20 0 rfl (Nat.le_of_ble_eq_true rfl))
        have Z20 : n0 ≤ h20.size := Nat.le_trans Z13 (Keep.of_wr W20).1
        have N20 := Fr.snoc X20 N13 g_b1
        have K20 : Keep h0 h20 [] := K13.wr W20 (Or.inr sz_b1)
        have pre21 : ∀ t, Steps p.tables e below (T20.setTop (mkF m 57 #[.val (.int vd0), .val (.int vd1), .val (.int vd2), .val (.int vd3), .val (.int vsh), .val (.int vsc), .val (.ref b1), .val (.int (0 : Int32)), .unset, .unset, .unset, .unset, .unset, .unset] [])) t → Steps p.tables e below (s₁.setTop (entryFrame m #[(.int vd0), (.int vd1), (.int vd2), (.int vd3), (.int vsh), (.int vsc)] maxLocals)) t := by
          intro t kt
          refine pre18 t ?_
          show Steps p.tables e below (T13.setTop (mkF m 50 #[.val (.int vd0), .val (.int vd1), .val (.int vd2), .val (.int vd3), .val (.int vsh), .val (.int vsc), .val (.ref b1), .val (.int (0 : Int32)), .unset, .unset, .unset, .unset, .unset, .unset] [])) _
          refine XS.aload X13.here hx rfl (hb hby at_50) rfl rfl ?_
          show Steps p.tables e below (T13.setTop (mkF m 52 #[.val (.int vd0), .val (.int vd1), .val (.int vd2), .val (.int vd3), .val (.int vsh), .val (.int vsc), .val (.ref b1), .val (.int (0 : Int32)), .unset, .unset, .unset, .unset, .unset, .unset] [(.ref b1)])) _
          refine XS.iload X13.here hx rfl (hb hby at_52) rfl ?_
          show Steps p.tables e below (T13.setTop (mkF m 54 #[.val (.int vd0), .val (.int vd1), .val (.int vd2), .val (.int vd3), .val (.int vsh), .val (.int vsc), .val (.ref b1), .val (.int (0 : Int32)), .unset, .unset, .unset, .unset, .unset, .unset] [(.int (0 : Int32)), (.ref b1)])) _
          refine XS.bipush X13.here hx rfl (hb hby at_54) ?_
          show Steps p.tables e below (T13.setTop (mkF m 56 #[.val (.int vd0), .val (.int vd1), .val (.int vd2), .val (.int vd3), .val (.int vsh), .val (.int vsc), .val (.ref b1), .val (.int (0 : Int32)), .unset, .unset, .unset, .unset, .unset, .unset] [(.int (46 : Int32)), (.int (0 : Int32)), (.ref b1)])) _
          refine st20 _ ?_
          exact kt
        exact ⟨T20, h20, _, (nar .char (46 : Int32)), (nar .char (own_dig vd1)), (nar .char (own_dig vd2)), (nar .char (own_dig vd3)), X20, e20, N20, K20, Z20, V20, ⟨own_okp, own_okd _, own_okd _, own_okd _⟩, fun t kt => pre21 t kt⟩
      ·
        obtain ⟨cl22, Ar22, q22, S22, NN22, HH22, GG22⟩ := id V13
        have hin22 : ¬ ((1 : Int32) < 0 ∨ cl22.slots.size ≤ ((1 : Int32)).toNatClampNeg) := inb_of S22 ⟨by decide, by decide⟩
        obtain ⟨T23, h23, X23, e23, W23, st23⟩ := stC X13 hx hZ e13 Ar22 (j := (1 : Int32)) hin22  (g := (mkF m 56 #[.val (.int vd0), .val (.int vd1), .val (.int vd2), .val (.int vd3), .val (.int vsh), .val (.int vsc), .val (.ref b1), .val (.int (1 : Int32)), .unset, .unset, .unset, .unset, .unset, .unset] [(.int (46 : Int32)), (.int (1 : Int32)), (.ref b1)])) rfl rfl (hb hby at_56)
        have V23 : Arv Z h23 b1 k1 .char (4 : Int32) [(.int (nar .char (own_dig vd0))), (.int (nar .char (46 : Int32))), (.int (nar .char (own_dig vd2))), (.int (nar .char (own_dig vd3)))] (.int (0 : Int32)) := (Arv.set Ar22 q22 S22 NN22 HH22 GG22 (fits_nar_char _) W23 1 rfl (Nat.le_of_ble_eq_true rfl))
        have Z23 : n0 ≤ h23.size := Nat.le_trans Z13 (Keep.of_wr W23).1
        have N23 := Fr.snoc X23 N13 g_b1
        have K23 : Keep h0 h23 [] := K13.wr W23 (Or.inr sz_b1)
        have pre24 : ∀ t, Steps p.tables e below (T23.setTop (mkF m 57 #[.val (.int vd0), .val (.int vd1), .val (.int vd2), .val (.int vd3), .val (.int vsh), .val (.int vsc), .val (.ref b1), .val (.int (1 : Int32)), .unset, .unset, .unset, .unset, .unset, .unset] [])) t → Steps p.tables e below (s₁.setTop (entryFrame m #[(.int vd0), (.int vd1), (.int vd2), (.int vd3), (.int vsh), (.int vsc)] maxLocals)) t := by
          intro t kt
          refine pre18 t ?_
          show Steps p.tables e below (T13.setTop (mkF m 50 #[.val (.int vd0), .val (.int vd1), .val (.int vd2), .val (.int vd3), .val (.int vsh), .val (.int vsc), .val (.ref b1), .val (.int (1 : Int32)), .unset, .unset, .unset, .unset, .unset, .unset] [])) _
          refine XS.aload X13.here hx rfl (hb hby at_50) rfl rfl ?_
          show Steps p.tables e below (T13.setTop (mkF m 52 #[.val (.int vd0), .val (.int vd1), .val (.int vd2), .val (.int vd3), .val (.int vsh), .val (.int vsc), .val (.ref b1), .val (.int (1 : Int32)), .unset, .unset, .unset, .unset, .unset, .unset] [(.ref b1)])) _
          refine XS.iload X13.here hx rfl (hb hby at_52) rfl ?_
          show Steps p.tables e below (T13.setTop (mkF m 54 #[.val (.int vd0), .val (.int vd1), .val (.int vd2), .val (.int vd3), .val (.int vsh), .val (.int vsc), .val (.ref b1), .val (.int (1 : Int32)), .unset, .unset, .unset, .unset, .unset, .unset] [(.int (1 : Int32)), (.ref b1)])) _
          refine XS.bipush X13.here hx rfl (hb hby at_54) ?_
          show Steps p.tables e below (T13.setTop (mkF m 56 #[.val (.int vd0), .val (.int vd1), .val (.int vd2), .val (.int vd3), .val (.int vsh), .val (.int vsc), .val (.ref b1), .val (.int (1 : Int32)), .unset, .unset, .unset, .unset, .unset, .unset] [(.int (46 : Int32)), (.int (1 : Int32)), (.ref b1)])) _
          refine st23 _ ?_
          exact kt
        exact ⟨T23, h23, _, (nar .char (own_dig vd0)), (nar .char (46 : Int32)), (nar .char (own_dig vd2)), (nar .char (own_dig vd3)), X23, e23, N23, K23, Z23, V23, ⟨own_okd _, own_okp, own_okd _, own_okd _⟩, fun t kt => pre24 t kt⟩
      ·
        obtain ⟨cl25, Ar25, q25, S25, NN25, HH25, GG25⟩ := id V13
        have hin25 : ¬ ((2 : Int32) < 0 ∨ cl25.slots.size ≤ ((2 : Int32)).toNatClampNeg) := inb_of S25 ⟨by decide, by decide⟩
        obtain ⟨T26, h26, X26, e26, W26, st26⟩ := stC X13 hx hZ e13 Ar25 (j := (2 : Int32)) hin25  (g := (mkF m 56 #[.val (.int vd0), .val (.int vd1), .val (.int vd2), .val (.int vd3), .val (.int vsh), .val (.int vsc), .val (.ref b1), .val (.int (2 : Int32)), .unset, .unset, .unset, .unset, .unset, .unset] [(.int (46 : Int32)), (.int (2 : Int32)), (.ref b1)])) rfl rfl (hb hby at_56)
        have V26 : Arv Z h26 b1 k1 .char (4 : Int32) [(.int (nar .char (own_dig vd0))), (.int (nar .char (own_dig vd1))), (.int (nar .char (46 : Int32))), (.int (nar .char (own_dig vd3)))] (.int (0 : Int32)) := (Arv.set Ar25 q25 S25 NN25 HH25 GG25 (fits_nar_char _) W26 2 rfl (Nat.le_of_ble_eq_true rfl))
        have Z26 : n0 ≤ h26.size := Nat.le_trans Z13 (Keep.of_wr W26).1
        have N26 := Fr.snoc X26 N13 g_b1
        have K26 : Keep h0 h26 [] := K13.wr W26 (Or.inr sz_b1)
        have pre27 : ∀ t, Steps p.tables e below (T26.setTop (mkF m 57 #[.val (.int vd0), .val (.int vd1), .val (.int vd2), .val (.int vd3), .val (.int vsh), .val (.int vsc), .val (.ref b1), .val (.int (2 : Int32)), .unset, .unset, .unset, .unset, .unset, .unset] [])) t → Steps p.tables e below (s₁.setTop (entryFrame m #[(.int vd0), (.int vd1), (.int vd2), (.int vd3), (.int vsh), (.int vsc)] maxLocals)) t := by
          intro t kt
          refine pre18 t ?_
          show Steps p.tables e below (T13.setTop (mkF m 50 #[.val (.int vd0), .val (.int vd1), .val (.int vd2), .val (.int vd3), .val (.int vsh), .val (.int vsc), .val (.ref b1), .val (.int (2 : Int32)), .unset, .unset, .unset, .unset, .unset, .unset] [])) _
          refine XS.aload X13.here hx rfl (hb hby at_50) rfl rfl ?_
          show Steps p.tables e below (T13.setTop (mkF m 52 #[.val (.int vd0), .val (.int vd1), .val (.int vd2), .val (.int vd3), .val (.int vsh), .val (.int vsc), .val (.ref b1), .val (.int (2 : Int32)), .unset, .unset, .unset, .unset, .unset, .unset] [(.ref b1)])) _
          refine XS.iload X13.here hx rfl (hb hby at_52) rfl ?_
          show Steps p.tables e below (T13.setTop (mkF m 54 #[.val (.int vd0), .val (.int vd1), .val (.int vd2), .val (.int vd3), .val (.int vsh), .val (.int vsc), .val (.ref b1), .val (.int (2 : Int32)), .unset, .unset, .unset, .unset, .unset, .unset] [(.int (2 : Int32)), (.ref b1)])) _
          refine XS.bipush X13.here hx rfl (hb hby at_54) ?_
          show Steps p.tables e below (T13.setTop (mkF m 56 #[.val (.int vd0), .val (.int vd1), .val (.int vd2), .val (.int vd3), .val (.int vsh), .val (.int vsc), .val (.ref b1), .val (.int (2 : Int32)), .unset, .unset, .unset, .unset, .unset, .unset] [(.int (46 : Int32)), (.int (2 : Int32)), (.ref b1)])) _
          refine st26 _ ?_
          exact kt
        exact ⟨T26, h26, _, (nar .char (own_dig vd0)), (nar .char (own_dig vd1)), (nar .char (46 : Int32)), (nar .char (own_dig vd3)), X26, e26, N26, K26, Z26, V26, ⟨own_okd _, own_okd _, own_okp, own_okd _⟩, fun t kt => pre27 t kt⟩
      ·
        obtain ⟨cl28, Ar28, q28, S28, NN28, HH28, GG28⟩ := id V13
        have hin28 : ¬ ((3 : Int32) < 0 ∨ cl28.slots.size ≤ ((3 : Int32)).toNatClampNeg) := inb_of S28 ⟨by decide, by decide⟩
        obtain ⟨T29, h29, X29, e29, W29, st29⟩ := stC X13 hx hZ e13 Ar28 (j := (3 : Int32)) hin28  (g := (mkF m 56 #[.val (.int vd0), .val (.int vd1), .val (.int vd2), .val (.int vd3), .val (.int vsh), .val (.int vsc), .val (.ref b1), .val (.int (3 : Int32)), .unset, .unset, .unset, .unset, .unset, .unset] [(.int (46 : Int32)), (.int (3 : Int32)), (.ref b1)])) rfl rfl (hb hby at_56)
        have V29 : Arv Z h29 b1 k1 .char (4 : Int32) [(.int (nar .char (own_dig vd0))), (.int (nar .char (own_dig vd1))), (.int (nar .char (own_dig vd2))), (.int (nar .char (46 : Int32)))] (.int (0 : Int32)) := (Arv.set Ar28 q28 S28 NN28 HH28 GG28 (fits_nar_char _) W29 3 rfl (Nat.le_of_ble_eq_true rfl))
        have Z29 : n0 ≤ h29.size := Nat.le_trans Z13 (Keep.of_wr W29).1
        have N29 := Fr.snoc X29 N13 g_b1
        have K29 : Keep h0 h29 [] := K13.wr W29 (Or.inr sz_b1)
        have pre30 : ∀ t, Steps p.tables e below (T29.setTop (mkF m 57 #[.val (.int vd0), .val (.int vd1), .val (.int vd2), .val (.int vd3), .val (.int vsh), .val (.int vsc), .val (.ref b1), .val (.int (3 : Int32)), .unset, .unset, .unset, .unset, .unset, .unset] [])) t → Steps p.tables e below (s₁.setTop (entryFrame m #[(.int vd0), (.int vd1), (.int vd2), (.int vd3), (.int vsh), (.int vsc)] maxLocals)) t := by
          intro t kt
          refine pre18 t ?_
          show Steps p.tables e below (T13.setTop (mkF m 50 #[.val (.int vd0), .val (.int vd1), .val (.int vd2), .val (.int vd3), .val (.int vsh), .val (.int vsc), .val (.ref b1), .val (.int (3 : Int32)), .unset, .unset, .unset, .unset, .unset, .unset] [])) _
          refine XS.aload X13.here hx rfl (hb hby at_50) rfl rfl ?_
          show Steps p.tables e below (T13.setTop (mkF m 52 #[.val (.int vd0), .val (.int vd1), .val (.int vd2), .val (.int vd3), .val (.int vsh), .val (.int vsc), .val (.ref b1), .val (.int (3 : Int32)), .unset, .unset, .unset, .unset, .unset, .unset] [(.ref b1)])) _
          refine XS.iload X13.here hx rfl (hb hby at_52) rfl ?_
          show Steps p.tables e below (T13.setTop (mkF m 54 #[.val (.int vd0), .val (.int vd1), .val (.int vd2), .val (.int vd3), .val (.int vsh), .val (.int vsc), .val (.ref b1), .val (.int (3 : Int32)), .unset, .unset, .unset, .unset, .unset, .unset] [(.int (3 : Int32)), (.ref b1)])) _
          refine XS.bipush X13.here hx rfl (hb hby at_54) ?_
          show Steps p.tables e below (T13.setTop (mkF m 56 #[.val (.int vd0), .val (.int vd1), .val (.int vd2), .val (.int vd3), .val (.int vsh), .val (.int vsc), .val (.ref b1), .val (.int (3 : Int32)), .unset, .unset, .unset, .unset, .unset, .unset] [(.int (46 : Int32)), (.int (3 : Int32)), (.ref b1)])) _
          refine st29 _ ?_
          exact kt
        exact ⟨T29, h29, _, (nar .char (own_dig vd0)), (nar .char (own_dig vd1)), (nar .char (own_dig vd2)), (nar .char (46 : Int32)), X29, e29, N29, K29, Z29, V29, ⟨own_okd _, own_okd _, own_okd _, own_okp⟩, fun t kt => pre30 t kt⟩
    ·
      have pre31 : ∀ t, Steps p.tables e below (T13.setTop (mkF m 57 #[.val (.int vd0), .val (.int vd1), .val (.int vd2), .val (.int vd3), .val (.int vsh), .val (.int vsc), .val (.ref b1), .val (.int pt), .unset, .unset, .unset, .unset, .unset, .unset] [])) t → Steps p.tables e below (s₁.setTop (entryFrame m #[(.int vd0), (.int vd1), (.int vd2), (.int vd3), (.int vsh), (.int vsc)] maxLocals)) t := by
        intro t kt
        refine pre16 t ?_
        show Steps p.tables e below (T13.setTop (mkF m 47 #[.val (.int vd0), .val (.int vd1), .val (.int vd2), .val (.int vd3), .val (.int vsh), .val (.int vsc), .val (.ref b1), .val (.int pt), .unset, .unset, .unset, .unset, .unset, .unset] [(.int (4 : Int32)), (.int pt)])) _
        refine XS.icmpYes X13.here hx rfl (pc0 := 47) (pc' := 57) rfl (hb hby at_47) rfl (flt (hc17 : ¬ (pt < (4 : Int32)))).2.1 (by decide) (by decide) ?_
        exact kt
      exact ⟨T13, h13, _, (nar .char (own_dig vd0)), (nar .char (own_dig vd1)), (nar .char (own_dig vd2)), (nar .char (own_dig vd3)), X13, e13, N13, K13, Z13, V13, ⟨own_okd _, own_okd _, own_okd _, own_okd _⟩, fun t kt => pre31 t kt⟩
  obtain ⟨T32, h32, X32, e32, E32, A32, D32, -, st32⟩ := newO X15 hx hZ hown (hw _ (List.mem_of_getElem? (i := 5) rfl)) (hw _ (List.mem_of_getElem? (i := 6) rfl)) (hw _ (List.mem_of_getElem? (i := 7) rfl)) e15 (g := (mkF m 57 #[.val (.int vd0), .val (.int vd1), .val (.int vd2), .val (.int vd3), .val (.int vsh), .val (.int vsc), .val (.ref b1), .val (.int pt), .unset, .unset, .unset, .unset, .unset, .unset] [])) rfl (hb hby at_57) (by decide) (by decide)
  obtain ⟨b32, g32⟩ : ∃ z, z = h15.size := ⟨_, rfl⟩
  rw [← g32] at A32 D32 st32
  have ne33 : b1 ≠ b32 := Nat.ne_of_lt (Nat.lt_of_lt_of_le V15.lt (Nat.le_of_eq g32.symm))
  have c34 : Arv Z h32 b1 k1 .char (4 : Int32) [(.int c0), (.int c1), (.int c2), (.int c3)] (.int (0 : Int32)) := V15.ext E32
  have g_b32 : n0 ≤ b32 := Nat.le_trans Z15 (Nat.le_of_eq g32.symm)
  have sz_b32 : h0.size ≤ b32 := Nat.le_trans K15.1 (Nat.le_of_eq g32.symm)
  have Z32 : n0 ≤ h32.size := Nat.le_trans Z15 E32.1
  have K32 : Keep h0 h32 [] := K15.ext E32
  have F32_coder : Fld Z h32 b32 "java/lang/String" "coder" "B" (.int (0 : Int32)) := D32 (Or.inr (hw _ (List.mem_of_getElem? (i := 31) rfl))) (ty := .byte) (by decide)
  have F32_value : Fld Z h32 b32 "java/lang/String" "value" "[B" .null := D32 (Or.inr (hw _ (List.mem_of_getElem? (i := 33) rfl))) (ty := (.array .byte)) (by decide)
  have hws35 : ∀ d ∈ StrChars.Road.words, d.before a0 Z = true := fun d hd => hw d ((by decide +kernel : ∀ d ∈ StrChars.Road.words, d ∈ tables_1) d hd)
  have hp35 : ∀ c ∈ ([c0, c1, c2, c3] : List Int32), ¬ c < 0 ∧ ¬ (255 : Int32) < c := by
    intro c hc
    simp only [List.mem_cons, List.not_mem_nil, or_false] at hc
    rcases hc with rfl | rfl | rfl | rfl
    · exact own_ok255 ok0
    · exact own_ok255 ok1
    · exact own_ok255 ok2
    · exact own_ok255 ok3
  obtain ⟨_, _, ⟨T35, L35, k35, n35⟩, -, X35, ⟨Lc35, hQ35, l35, y35, z35⟩, st35⟩ := X32.specialBack hx (y := (⟨"java/lang/String", "<init>", "([C)V"⟩ : MethodName)) rfl hown (mvT hZ (hw _ (List.mem_of_getElem? (i := 8) rfl))) (mvT hZ (hw _ (List.mem_of_getElem? (i := 9) rfl))) (mvT hZ (hw _ (List.mem_of_getElem? (i := 10) rfl))) (by decide) (StrChars.Road.backV (W := 1) hZ hws35 (kI := 4) (hw _ (List.mem_of_getElem? (i := 6) rfl)) (cs := ([c0, c1, c2, c3] : List Int32)) (bs := (([c0, c1, c2, c3] : List Int32)).map (fun c => c.toInt8.toInt32)) (n := 4) g_b32 Z32 A32 F32_value F32_coder c34 (own_sta_keep S_cs K32) hcs rfl rfl (by decide) (by decide) hp35 rfl (by decide) (by decide)) (g := (mkF m 63 #[.val (.int vd0), .val (.int vd1), .val (.int vd2), .val (.int vd3), .val (.int vsh), .val (.int vsc), .val (.ref b1), .val (.int pt), .unset, .unset, .unset, .unset, .unset, .unset] [(.ref b1), (.ref b32), (.ref b32)])) rfl (by rw [hml]; rfl) (Steps.refl _) (a := b32) (argsL := [(.ref b1)]) (rest := [(.ref b32)]) (lenOf pd_3 rfl) rfl (by show 2 * 0 + _ ≤ _; exact Nat.le_of_eq rfl) (hb hby at_63) (fun _ _ => ⟨rfl, e32, (by decide : 2 + 1 ≤ _), (by decide : 8 + 4 ≤ _)⟩)
  dsimp only [Pt.U, Pt.locs, Pt.cells, Pt.slots] at X35 l35 y35 z35 st35 hQ35
  subst l35 y35 z35
  obtain ⟨rfl, N35q, K35q, f35_0, f35_1, t35, kb35, gt35, szt35, nt35, fv35, fb35⟩ := hQ35
  have N35 := Fr.app N15 N35q
  have Z35 : n0 ≤ T35.heap.size := Nat.le_trans Z32 K35q.1
  have c36 : Arv Z T35.heap b1 k1 .char (4 : Int32) [(.int c0), (.int c1), (.int c2), (.int c3)] (.int (0 : Int32)) := c34.keep K35q (ninS ne33 nin0)
  have c37 : Exa Z T35.heap b32 "java/lang/String" := A32.keep K35q
  have K35 : Keep h0 T35.heap [] := K32.trans K35q (allS (Or.inr sz_b32) all0)
  have pre38 : ∀ t, Steps p.tables e below (T35.setTop (mkF m 85 #[.val (.int vd0), .val (.int vd1), .val (.int vd2), .val (.int vd3), .val (.int vsh), .val (.int vsc), .val (.ref b1), .val (.int pt), .val (.ref b32), .val (.int (((vsh.toUInt32 >>> ((3 : Int32) &&& 31).toUInt32).toInt32) % (5 : Int32))), .val (.int (((vsh.toUInt32 >>> ((6 : Int32) &&& 31).toUInt32).toInt32) % (5 : Int32))), .unset, .unset, .unset] [])) t → Steps p.tables e below (s₁.setTop (entryFrame m #[(.int vd0), (.int vd1), (.int vd2), (.int vd3), (.int vsh), (.int vsc)] maxLocals)) t := by
    intro t kt
    refine pre15 t ?_
    show Steps p.tables e below (T15.setTop (mkF m 57 #[.val (.int vd0), .val (.int vd1), .val (.int vd2), .val (.int vd3), .val (.int vsh), .val (.int vsc), .val (.ref b1), .val (.int pt), .unset, .unset, .unset, .unset, .unset, .unset] [])) _
    refine st32 _ ?_
    show Steps p.tables e below (T32.setTop (mkF m 60 #[.val (.int vd0), .val (.int vd1), .val (.int vd2), .val (.int vd3), .val (.int vsh), .val (.int vsc), .val (.ref b1), .val (.int pt), .unset, .unset, .unset, .unset, .unset, .unset] [(.ref b32)])) _
    refine XS.dup X32.here hx rfl (hb hby at_60) rfl rfl ?_
    show Steps p.tables e below (T32.setTop (mkF m 61 #[.val (.int vd0), .val (.int vd1), .val (.int vd2), .val (.int vd3), .val (.int vsh), .val (.int vsc), .val (.ref b1), .val (.int pt), .unset, .unset, .unset, .unset, .unset, .unset] [(.ref b32), (.ref b32)])) _
    refine XS.aload X32.here hx rfl (hb hby at_61) rfl rfl ?_
    show Steps p.tables e below (T32.setTop (mkF m 63 #[.val (.int vd0), .val (.int vd1), .val (.int vd2), .val (.int vd3), .val (.int vsh), .val (.int vsc), .val (.ref b1), .val (.int pt), .unset, .unset, .unset, .unset, .unset, .unset] [(.ref b1), (.ref b32), (.ref b32)])) _
    refine st35.trans ?_
    show Steps p.tables e below (T35.setTop (mkF m 66 #[.val (.int vd0), .val (.int vd1), .val (.int vd2), .val (.int vd3), .val (.int vsh), .val (.int vsc), .val (.ref b1), .val (.int pt), .unset, .unset, .unset, .unset, .unset, .unset] [(.ref b32)])) _
    refine XS.astore X35.here hx rfl (hb hby at_66) rfl rfl (l' := #[.val (.int vd0), .val (.int vd1), .val (.int vd2), .val (.int vd3), .val (.int vsh), .val (.int vsc), .val (.ref b1), .val (.int pt), .val (.ref b32), .unset, .unset, .unset, .unset, .unset]) rfl ?_
    show Steps p.tables e below (T35.setTop (mkF m 68 #[.val (.int vd0), .val (.int vd1), .val (.int vd2), .val (.int vd3), .val (.int vsh), .val (.int vsc), .val (.ref b1), .val (.int pt), .val (.ref b32), .unset, .unset, .unset, .unset, .unset] [])) _
    refine XS.iload X35.here hx rfl (hb hby at_68) rfl ?_
    show Steps p.tables e below (T35.setTop (mkF m 70 #[.val (.int vd0), .val (.int vd1), .val (.int vd2), .val (.int vd3), .val (.int vsh), .val (.int vsc), .val (.ref b1), .val (.int pt), .val (.ref b32), .unset, .unset, .unset, .unset, .unset] [(.int vsh)])) _
    refine XS.iconst X35.here hx rfl (hb hby at_70) ?_
    show Steps p.tables e below (T35.setTop (mkF m 71 #[.val (.int vd0), .val (.int vd1), .val (.int vd2), .val (.int vd3), .val (.int vsh), .val (.int vsc), .val (.ref b1), .val (.int pt), .val (.ref b32), .unset, .unset, .unset, .unset, .unset] [(.int (3 : Int32)), (.int vsh)])) _
    refine XS.iushr X35.here hx rfl (hb hby at_71) rfl ?_
    show Steps p.tables e below (T35.setTop (mkF m 72 #[.val (.int vd0), .val (.int vd1), .val (.int vd2), .val (.int vd3), .val (.int vsh), .val (.int vsc), .val (.ref b1), .val (.int pt), .val (.ref b32), .unset, .unset, .unset, .unset, .unset] [(.int ((vsh.toUInt32 >>> ((3 : Int32) &&& 31).toUInt32).toInt32))])) _
    refine XS.iconst X35.here hx rfl (hb hby at_72) ?_
    show Steps p.tables e below (T35.setTop (mkF m 73 #[.val (.int vd0), .val (.int vd1), .val (.int vd2), .val (.int vd3), .val (.int vsh), .val (.int vsc), .val (.ref b1), .val (.int pt), .val (.ref b32), .unset, .unset, .unset, .unset, .unset] [(.int (5 : Int32)), (.int ((vsh.toUInt32 >>> ((3 : Int32) &&& 31).toUInt32).toInt32))])) _
    refine iremM X35 hx rfl (hb hby at_73) rfl (by decide) ?_
    show Steps p.tables e below (T35.setTop (mkF m 74 #[.val (.int vd0), .val (.int vd1), .val (.int vd2), .val (.int vd3), .val (.int vsh), .val (.int vsc), .val (.ref b1), .val (.int pt), .val (.ref b32), .unset, .unset, .unset, .unset, .unset] [(.int (((vsh.toUInt32 >>> ((3 : Int32) &&& 31).toUInt32).toInt32) % (5 : Int32)))])) _
    refine XS.istore X35.here hx rfl (hb hby at_74) rfl (l' := #[.val (.int vd0), .val (.int vd1), .val (.int vd2), .val (.int vd3), .val (.int vsh), .val (.int vsc), .val (.ref b1), .val (.int pt), .val (.ref b32), .val (.int (((vsh.toUInt32 >>> ((3 : Int32) &&& 31).toUInt32).toInt32) % (5 : Int32))), .unset, .unset, .unset, .unset]) rfl ?_
    show Steps p.tables e below (T35.setTop (mkF m 76 #[.val (.int vd0), .val (.int vd1), .val (.int vd2), .val (.int vd3), .val (.int vsh), .val (.int vsc), .val (.ref b1), .val (.int pt), .val (.ref b32), .val (.int (((vsh.toUInt32 >>> ((3 : Int32) &&& 31).toUInt32).toInt32) % (5 : Int32))), .unset, .unset, .unset, .unset] [])) _
    refine XS.iload X35.here hx rfl (hb hby at_76) rfl ?_
    show Steps p.tables e below (T35.setTop (mkF m 78 #[.val (.int vd0), .val (.int vd1), .val (.int vd2), .val (.int vd3), .val (.int vsh), .val (.int vsc), .val (.ref b1), .val (.int pt), .val (.ref b32), .val (.int (((vsh.toUInt32 >>> ((3 : Int32) &&& 31).toUInt32).toInt32) % (5 : Int32))), .unset, .unset, .unset, .unset] [(.int vsh)])) _
    refine XS.bipush X35.here hx rfl (hb hby at_78) ?_
    show Steps p.tables e below (T35.setTop (mkF m 80 #[.val (.int vd0), .val (.int vd1), .val (.int vd2), .val (.int vd3), .val (.int vsh), .val (.int vsc), .val (.ref b1), .val (.int pt), .val (.ref b32), .val (.int (((vsh.toUInt32 >>> ((3 : Int32) &&& 31).toUInt32).toInt32) % (5 : Int32))), .unset, .unset, .unset, .unset] [(.int (6 : Int32)), (.int vsh)])) _
    refine XS.iushr X35.here hx rfl (hb hby at_80) rfl ?_
    show Steps p.tables e below (T35.setTop (mkF m 81 #[.val (.int vd0), .val (.int vd1), .val (.int vd2), .val (.int vd3), .val (.int vsh), .val (.int vsc), .val (.ref b1), .val (.int pt), .val (.ref b32), .val (.int (((vsh.toUInt32 >>> ((3 : Int32) &&& 31).toUInt32).toInt32) % (5 : Int32))), .unset, .unset, .unset, .unset] [(.int ((vsh.toUInt32 >>> ((6 : Int32) &&& 31).toUInt32).toInt32))])) _
    refine XS.iconst X35.here hx rfl (hb hby at_81) ?_
    show Steps p.tables e below (T35.setTop (mkF m 82 #[.val (.int vd0), .val (.int vd1), .val (.int vd2), .val (.int vd3), .val (.int vsh), .val (.int vsc), .val (.ref b1), .val (.int pt), .val (.ref b32), .val (.int (((vsh.toUInt32 >>> ((3 : Int32) &&& 31).toUInt32).toInt32) % (5 : Int32))), .unset, .unset, .unset, .unset] [(.int (5 : Int32)), (.int ((vsh.toUInt32 >>> ((6 : Int32) &&& 31).toUInt32).toInt32))])) _
    refine iremM X35 hx rfl (hb hby at_82) rfl (by decide) ?_
    show Steps p.tables e below (T35.setTop (mkF m 83 #[.val (.int vd0), .val (.int vd1), .val (.int vd2), .val (.int vd3), .val (.int vsh), .val (.int vsc), .val (.ref b1), .val (.int pt), .val (.ref b32), .val (.int (((vsh.toUInt32 >>> ((3 : Int32) &&& 31).toUInt32).toInt32) % (5 : Int32))), .unset, .unset, .unset, .unset] [(.int (((vsh.toUInt32 >>> ((6 : Int32) &&& 31).toUInt32).toInt32) % (5 : Int32)))])) _
    refine XS.istore X35.here hx rfl (hb hby at_83) rfl (l' := #[.val (.int vd0), .val (.int vd1), .val (.int vd2), .val (.int vd3), .val (.int vsh), .val (.int vsc), .val (.ref b1), .val (.int pt), .val (.ref b32), .val (.int (((vsh.toUInt32 >>> ((3 : Int32) &&& 31).toUInt32).toInt32) % (5 : Int32))), .val (.int (((vsh.toUInt32 >>> ((6 : Int32) &&& 31).toUInt32).toInt32) % (5 : Int32))), .unset, .unset, .unset]) rfl ?_
    exact kt
  obtain ⟨e1, he1⟩ : ∃ z : Int32, z = (((vsh.toUInt32 >>> ((3 : Int32) &&& 31).toUInt32).toInt32) % (5 : Int32)) := ⟨_, rfl⟩
  rw [← he1] at pre38
  obtain ⟨n_e1, b_e1, rfl⟩ := own_e5 he1 (own_ush3 _)
  obtain ⟨e2, he2⟩ : ∃ z : Int32, z = (((vsh.toUInt32 >>> ((6 : Int32) &&& 31).toUInt32).toInt32) % (5 : Int32)) := ⟨_, rfl⟩
  rw [← he2] at pre38
  obtain ⟨n_e2, b_e2, rfl⟩ := own_e5 he2 (own_ush6 _)
  obtain ⟨T39, h39, X39, e39, E39, A39, D39, -, st39⟩ := newO X35 hx hZ hown (hw _ (List.mem_of_getElem? (i := 34) rfl)) (hw _ (List.mem_of_getElem? (i := 35) rfl)) (hw _ (List.mem_of_getElem? (i := 36) rfl)) rfl (g := (mkF m 85 #[.val (.int vd0), .val (.int vd1), .val (.int vd2), .val (.int vd3), .val (.int vsh), .val (.int vsc), .val (.ref b1), .val (.int pt), .val (.ref b32), .val (.int (Int32.ofNat n_e1)), .val (.int (Int32.ofNat n_e2)), .unset, .unset, .unset] [])) rfl (hb hby at_85) (by decide) (by decide)
  obtain ⟨b39, g39⟩ : ∃ z, z = T35.heap.size := ⟨_, rfl⟩
  rw [← g39] at A39 D39 st39
  have ne40 : b1 ≠ b39 := Nat.ne_of_lt (Nat.lt_of_lt_of_le c36.lt (Nat.le_of_eq g39.symm))
  have ne41 : b32 ≠ b39 := Nat.ne_of_lt (Nat.lt_of_lt_of_le f35_0.lt (Nat.le_of_eq g39.symm))
  have ne42 : t35 ≠ b39 := Nat.ne_of_lt (Nat.lt_of_lt_of_le fb35.lt (Nat.le_of_eq g39.symm))
  have c43 : Arv Z h39 b1 k1 .char (4 : Int32) [(.int c0), (.int c1), (.int c2), (.int c3)] (.int (0 : Int32)) := c36.ext E39
  have c44 : Exa Z h39 b32 "java/lang/String" := f35_0.ext E39
  have c45 : Fld Z h39 b32 "java/lang/String" "coder" "B" (.int (0 : Int32)) := f35_1.ext E39
  have c46 : Fld Z h39 b32 "java/lang/String" "value" "[B" (.ref t35) := fv35.ext E39
  have c47 : Arv Z h39 t35 kb35 .byte (4 : Int32) (List.map Value.int (List.map (fun c => c.toInt8.toInt32) ([c0, c1, c2, c3] : List Int32))) (.int (0 : Int32)) := fb35.ext E39
  have g_b39 : n0 ≤ b39 := Nat.le_trans Z35 (Nat.le_of_eq g39.symm)
  have sz_b39 : h0.size ≤ b39 := Nat.le_trans K35.1 (Nat.le_of_eq g39.symm)
  have Z39 : n0 ≤ h39.size := Nat.le_trans Z35 E39.1
  have K39 : Keep h0 h39 [] := K35.ext E39
  have F39_high : Fld Z h39 b39 "com/example/paniere/paniere/CompactDecimal$Digits" "high" "J" (.long (0 : Int64)) := D39 (Or.inl (hw _ (List.mem_of_getElem? (i := 47) rfl))) (ty := .long) (by decide)
  have F39_low : Fld Z h39 b39 "com/example/paniere/paniere/CompactDecimal$Digits" "low" "J" (.long (0 : Int64)) := D39 (Or.inl (hw _ (List.mem_of_getElem? (i := 49) rfl))) (ty := .long) (by decide)
  have F39_scale : Fld Z h39 b39 "com/example/paniere/paniere/CompactDecimal$Digits" "scale" "I" (.int (0 : Int32)) := D39 (Or.inl (hw _ (List.mem_of_getElem? (i := 51) rfl))) (ty := .int) (by decide)
  have F39_significant : Fld Z h39 b39 "com/example/paniere/paniere/CompactDecimal$Digits" "significant" "I" (.int (0 : Int32)) := D39 (Or.inl (hw _ (List.mem_of_getElem? (i := 53) rfl))) (ty := .int) (by decide)
  obtain ⟨_, _, ⟨T48, L48, k48, n48⟩, -, X48, ⟨Lc48, hQ48, l48, y48, z48⟩, st48⟩ := X39.specialBack hx (y := (⟨"com/example/paniere/paniere/CompactDecimal$Digits", "<init>", "()V"⟩ : MethodName)) rfl hown (mvT hZ (hw _ (List.mem_of_getElem? (i := 37) rfl))) (mvT hZ (hw _ (List.mem_of_getElem? (i := 38) rfl))) (mvT hZ (hw _ (List.mem_of_getElem? (i := 39) rfl))) (by decide) (backOf (W := 1) (rm8 l Z a0 hw [] b39  h39 n0 Z39 ) hZ (hw _ (List.mem_of_getElem? (i := 39) rfl)) (hw _ (List.mem_of_getElem? (i := 36) rfl)) (by decide) (by decide)) (g := (mkF m 89 #[.val (.int vd0), .val (.int vd1), .val (.int vd2), .val (.int vd3), .val (.int vsh), .val (.int vsc), .val (.ref b1), .val (.int pt), .val (.ref b32), .val (.int (Int32.ofNat n_e1)), .val (.int (Int32.ofNat n_e2)), .unset, .unset, .unset] [(.ref b39), (.ref b39)])) rfl (by rw [hml]; rfl) (Steps.refl _) (a := b39) (argsL := []) (rest := [(.ref b39)]) (lenOf pd_4 rfl) rfl (by show 2 * 0 + _ ≤ _; exact Nat.le_of_eq rfl) (hb hby at_89) (fun _ _ => ⟨rfl, e39, (by decide : 4 + 0 ≤ _), (by decide : 16 + 0 ≤ _)⟩)
  dsimp only [Pt.U, Pt.locs, Pt.cells, Pt.slots] at X48 l48 y48 z48 st48 hQ48
  subst l48 y48 z48
  obtain ⟨rfl, N48q, e48q⟩ := hQ48
  have N48 := Fr.app N35 N48q
  obtain ⟨cq49, kq49, q49a, q49b, q49c⟩ := isOf hZ e48q A39
  obtain ⟨_, _, ⟨T49, L49, k49, n49⟩, -, X49, ⟨Lc49, hQ49, l49, y49, z49⟩, st49⟩ := X48.virtualBack hx (y := (⟨"com/example/paniere/paniere/CompactDecimal$Digits", "read", "(Ljava/lang/String;II)V"⟩ : MethodName)) (z := (⟨"com/example/paniere/paniere/CompactDecimal$Digits", "read", "(Ljava/lang/String;II)V"⟩ : MethodName)) hown (mvT hZ (hw _ (List.mem_of_getElem? (i := 41) rfl))) (mvT hZ (hw _ (List.mem_of_getElem? (i := 42) rfl))) (notFace_of_selects (args := #[]) (mvT hZ (hw _ (List.mem_of_getElem? (i := 44) rfl)))) (mvT hZ (hw _ (List.mem_of_getElem? (i := 44) rfl))) (mvT hZ (hw _ (List.mem_of_getElem? (i := 43) rfl))) (by decide) (backOf (W := 0) (rm9 l Z a0 hw [] b39 b32 vsc t35 kb35 (4 : Int32) ([c0, c1, c2, c3] : List Int32) vz fm n_e1 (.long (0 : Int64)) (.long (0 : Int64)) (.int (0 : Int32)) (.int (0 : Int32)) h39 n0 Z39 A39 F39_high F39_low F39_scale F39_significant c44 c46 c45 c47 (own_sta_keep S_cs K39) (own_sta_keep S_fm K39) g_b39 (Ne.symm ne41) (Ne.symm ne42) (StrChars.Road.codOf (n := 4) rfl (fun x hx => (hp35 x hx).2)) (own_up _ hp35) hcs rfm (Nat.le_of_ble_eq_true rfl) (by show n_e1 ≤ 4; omega) b_e1 (own_hdg ok0 ok1 ok2 ok3 _ b_e1)) hZ (hw _ (List.mem_of_getElem? (i := 45) rfl)) (hw _ (List.mem_of_getElem? (i := 36) rfl)) (by decide) (by decide)) q49a q49c (g := (mkF m 102 #[.val (.int vd0), .val (.int vd1), .val (.int vd2), .val (.int vd3), .val (.int vsh), .val (.int vsc), .val (.ref b1), .val (.int pt), .val (.ref b32), .val (.int (Int32.ofNat n_e1)), .val (.int (Int32.ofNat n_e2)), .val (.ref b39), .unset, .unset] [(.int vsc), (.int (Int32.ofNat n_e1)), (.ref b32), (.ref b39)])) rfl (by rw [hml]; rfl) (Steps.refl _) (argsL := [(.ref b32), (.int (Int32.ofNat n_e1)), (.int vsc)]) (rest := []) (lenOf pd_5 rfl) rfl (by show 2 * 0 + _ ≤ _; exact Nat.le_of_eq rfl) (hb hby at_102) (fun _ _ => ⟨rfl, e48q, (by decide : 4 + 0 ≤ _), (by decide : 16 + 0 ≤ _)⟩)
  dsimp only [Pt.U, Pt.locs, Pt.cells, Pt.slots] at X49 l49 y49 z49 st49 hQ49
  subst l49 y49 z49
  obtain ⟨rfl, N49q, K49q, f49_0, uh49, ul49, fr49_0, fr49_1, fr49_2, fr49_3⟩ := hQ49
  have N49 := Fr.app N48 N49q
  have Z49 : n0 ≤ T49.heap.size := Nat.le_trans Z39 K49q.1
  have c50 : Arv Z T49.heap b1 k1 .char (4 : Int32) [(.int c0), (.int c1), (.int c2), (.int c3)] (.int (0 : Int32)) := c43.keep K49q (ninS ne40 nin0)
  have c51 : Exa Z T49.heap b32 "java/lang/String" := c44.keep K49q
  have c52 : Fld Z T49.heap b32 "java/lang/String" "coder" "B" (.int (0 : Int32)) := c45.keep K49q (ninS ne41 nin0)
  have c53 : Fld Z T49.heap b32 "java/lang/String" "value" "[B" (.ref t35) := c46.keep K49q (ninS ne41 nin0)
  have c54 : Arv Z T49.heap t35 kb35 .byte (4 : Int32) (List.map Value.int (List.map (fun c => c.toInt8.toInt32) ([c0, c1, c2, c3] : List Int32))) (.int (0 : Int32)) := c47.keep K49q (ninS ne42 nin0)
  have c55 : Exa Z T49.heap b39 "com/example/paniere/paniere/CompactDecimal$Digits" := A39.keep K49q
  have K49 : Keep h0 T49.heap [] := K39.trans K49q (allS (Or.inr sz_b39) all0)
  obtain ⟨cq56, kq56, q56a, q56b, q56c⟩ := isOf hZ rfl f49_0
  obtain ⟨_, _, ⟨T56, L56, k56, n56⟩, -, X56, ⟨Lc56, hQ56, l56, y56, z56⟩, st56⟩ := X49.virtualBack hx (y := (⟨"com/example/paniere/paniere/CompactDecimal$Digits", "isZero", "()Z"⟩ : MethodName)) (z := (⟨"com/example/paniere/paniere/CompactDecimal$Digits", "isZero", "()Z"⟩ : MethodName)) hown (mvT hZ (hw _ (List.mem_of_getElem? (i := 54) rfl))) (mvT hZ (hw _ (List.mem_of_getElem? (i := 55) rfl))) (notFace_of_selects (args := #[]) (mvT hZ (hw _ (List.mem_of_getElem? (i := 57) rfl)))) (mvT hZ (hw _ (List.mem_of_getElem? (i := 57) rfl))) (mvT hZ (hw _ (List.mem_of_getElem? (i := 56) rfl))) (by decide) (backOf (W := 0) (rm10 l Z a0 hw [] b39 (Int32.ofNat (own_rdk ([c0, c1, c2, c3] : List Int32) n_e1 0 0)) T49.heap n0 Z49 fr49_3) hZ (hw _ (List.mem_of_getElem? (i := 58) rfl)) (hw _ (List.mem_of_getElem? (i := 36) rfl)) (by decide) (by decide)) q56a q56c (g := (mkF m 107 #[.val (.int vd0), .val (.int vd1), .val (.int vd2), .val (.int vd3), .val (.int vsh), .val (.int vsc), .val (.ref b1), .val (.int pt), .val (.ref b32), .val (.int (Int32.ofNat n_e1)), .val (.int (Int32.ofNat n_e2)), .val (.ref b39), .unset, .unset] [(.ref b39)])) rfl (by rw [hml]; rfl) (Steps.refl _) (argsL := []) (rest := []) (lenOf pd_6 rfl) rfl (by show 2 * 0 + _ ≤ _; exact Nat.le_of_eq rfl) (hb hby at_107) (fun _ _ => ⟨rfl, rfl, (by decide : 4 + 0 ≤ _), (by decide : 16 + 0 ≤ _)⟩)
  dsimp only [Pt.U, Pt.locs, Pt.cells, Pt.slots] at X56 l56 y56 z56 st56 hQ56
  subst l56 y56 z56
  obtain ⟨rfl, N56q, e56q⟩ := hQ56
  have N56 := Fr.app N49 N56q
  obtain ⟨cq57, kq57, q57a, q57b, q57c⟩ := isOf hZ e56q f49_0
  obtain ⟨_, _, ⟨T57, L57, k57, n57⟩, -, X57, ⟨Lc57, hQ57, l57, y57, z57⟩, st57⟩ := X56.virtualBack hx (y := (⟨"com/example/paniere/paniere/CompactDecimal$Digits", "read", "(Ljava/lang/String;II)V"⟩ : MethodName)) (z := (⟨"com/example/paniere/paniere/CompactDecimal$Digits", "read", "(Ljava/lang/String;II)V"⟩ : MethodName)) hown (mvT hZ (hw _ (List.mem_of_getElem? (i := 41) rfl))) (mvT hZ (hw _ (List.mem_of_getElem? (i := 42) rfl))) (notFace_of_selects (args := #[]) (mvT hZ (hw _ (List.mem_of_getElem? (i := 44) rfl)))) (mvT hZ (hw _ (List.mem_of_getElem? (i := 44) rfl))) (mvT hZ (hw _ (List.mem_of_getElem? (i := 43) rfl))) (by decide) (backOf (W := 0) (rm9 l Z a0 hw [] b39 b32 vsc t35 kb35 (4 : Int32) ([c0, c1, c2, c3] : List Int32) vz fm n_e2 (.long uh49) (.long ul49) (.int vsc) (.int (Int32.ofNat (own_rdk ([c0, c1, c2, c3] : List Int32) n_e1 0 0))) T49.heap n0 Z49 f49_0 fr49_0 fr49_1 fr49_2 fr49_3 c51 c53 c52 c54 (own_sta_keep S_cs K49) (own_sta_keep S_fm K49) g_b39 (Ne.symm ne41) (Ne.symm ne42) (StrChars.Road.codOf (n := 4) rfl (fun x hx => (hp35 x hx).2)) (own_up _ hp35) hcs rfm (Nat.le_of_ble_eq_true rfl) (by show n_e2 ≤ 4; omega) b_e2 (own_hdg ok0 ok1 ok2 ok3 _ b_e2)) hZ (hw _ (List.mem_of_getElem? (i := 45) rfl)) (hw _ (List.mem_of_getElem? (i := 36) rfl)) (by decide) (by decide)) q57a q57c (g := (mkF m 120 #[.val (.int vd0), .val (.int vd1), .val (.int vd2), .val (.int vd3), .val (.int vsh), .val (.int vsc), .val (.ref b1), .val (.int pt), .val (.ref b32), .val (.int (Int32.ofNat n_e1)), .val (.int (Int32.ofNat n_e2)), .val (.ref b39), .val (.int (own_z b39 (Int32.ofNat (own_rdk ([c0, c1, c2, c3] : List Int32) n_e1 0 0)))), .unset] [(.int vsc), (.int (Int32.ofNat n_e2)), (.ref b32), (.ref b39)])) rfl (by rw [hml]; rfl) (Steps.refl _) (argsL := [(.ref b32), (.int (Int32.ofNat n_e2)), (.int vsc)]) (rest := []) (lenOf pd_5 rfl) rfl (by show 2 * 0 + _ ≤ _; exact Nat.le_of_eq rfl) (hb hby at_120) (fun _ _ => ⟨rfl, e56q, (by decide : 4 + 0 ≤ _), (by decide : 16 + 0 ≤ _)⟩)
  dsimp only [Pt.U, Pt.locs, Pt.cells, Pt.slots] at X57 l57 y57 z57 st57 hQ57
  subst l57 y57 z57
  obtain ⟨rfl, N57q, K57q, f57_0, uh57, ul57, fr57_0, fr57_1, fr57_2, fr57_3⟩ := hQ57
  have N57 := Fr.app N56 N57q
  have Z57 : n0 ≤ T57.heap.size := Nat.le_trans Z49 K57q.1
  have c58 : Arv Z T57.heap b1 k1 .char (4 : Int32) [(.int c0), (.int c1), (.int c2), (.int c3)] (.int (0 : Int32)) := c50.keep K57q (ninS ne40 nin0)
  have c59 : Exa Z T57.heap b32 "java/lang/String" := c51.keep K57q
  have c60 : Fld Z T57.heap b32 "java/lang/String" "coder" "B" (.int (0 : Int32)) := c52.keep K57q (ninS ne41 nin0)
  have c61 : Fld Z T57.heap b32 "java/lang/String" "value" "[B" (.ref t35) := c53.keep K57q (ninS ne41 nin0)
  have c62 : Arv Z T57.heap t35 kb35 .byte (4 : Int32) (List.map Value.int (List.map (fun c => c.toInt8.toInt32) ([c0, c1, c2, c3] : List Int32))) (.int (0 : Int32)) := c54.keep K57q (ninS ne42 nin0)
  have c63 : Exa Z T57.heap b39 "com/example/paniere/paniere/CompactDecimal$Digits" := f49_0.keep K57q
  have K57 : Keep h0 T57.heap [] := K49.trans K57q (allS (Or.inr sz_b39) all0)
  obtain ⟨cq64, kq64, q64a, q64b, q64c⟩ := isOf hZ rfl f57_0
  obtain ⟨_, _, ⟨T64, L64, k64, n64⟩, -, X64, ⟨Lc64, hQ64, l64, y64, z64⟩, st64⟩ := X57.virtualBack hx (y := (⟨"com/example/paniere/paniere/CompactDecimal$Digits", "isZero", "()Z"⟩ : MethodName)) (z := (⟨"com/example/paniere/paniere/CompactDecimal$Digits", "isZero", "()Z"⟩ : MethodName)) hown (mvT hZ (hw _ (List.mem_of_getElem? (i := 54) rfl))) (mvT hZ (hw _ (List.mem_of_getElem? (i := 55) rfl))) (notFace_of_selects (args := #[]) (mvT hZ (hw _ (List.mem_of_getElem? (i := 57) rfl)))) (mvT hZ (hw _ (List.mem_of_getElem? (i := 57) rfl))) (mvT hZ (hw _ (List.mem_of_getElem? (i := 56) rfl))) (by decide) (backOf (W := 0) (rm10 l Z a0 hw [] b39 (Int32.ofNat (own_rdk ([c0, c1, c2, c3] : List Int32) n_e2 0 0)) T57.heap n0 Z57 fr57_3) hZ (hw _ (List.mem_of_getElem? (i := 58) rfl)) (hw _ (List.mem_of_getElem? (i := 36) rfl)) (by decide) (by decide)) q64a q64c (g := (mkF m 125 #[.val (.int vd0), .val (.int vd1), .val (.int vd2), .val (.int vd3), .val (.int vsh), .val (.int vsc), .val (.ref b1), .val (.int pt), .val (.ref b32), .val (.int (Int32.ofNat n_e1)), .val (.int (Int32.ofNat n_e2)), .val (.ref b39), .val (.int (own_z b39 (Int32.ofNat (own_rdk ([c0, c1, c2, c3] : List Int32) n_e1 0 0)))), .unset] [(.ref b39)])) rfl (by rw [hml]; rfl) (Steps.refl _) (argsL := []) (rest := []) (lenOf pd_6 rfl) rfl (by show 2 * 0 + _ ≤ _; exact Nat.le_of_eq rfl) (hb hby at_125) (fun _ _ => ⟨rfl, rfl, (by decide : 4 + 0 ≤ _), (by decide : 16 + 0 ≤ _)⟩)
  dsimp only [Pt.U, Pt.locs, Pt.cells, Pt.slots] at X64 l64 y64 z64 st64 hQ64
  subst l64 y64 z64
  obtain ⟨rfl, N64q, e64q⟩ := hQ64
  have N64 := Fr.app N57 N64q
  obtain ⟨_, _, ⟨T65, L65, k65, n65⟩, -, X65, ⟨Lc65, hQ65, l65, y65, z65⟩, st65⟩ := Jvm.LawKit.callS X64 hx (y := (⟨"com/example/paniere/paniere/DigitsIsZeroPinLaw", "expected", "([CI)Z"⟩ : MethodName)) hown (mvT hZ (hw _ (List.mem_of_getElem? (i := 59) rfl))) (mvT hZ (hw _ (List.mem_of_getElem? (i := 60) rfl))) (mvT hZ (hw _ (List.mem_of_getElem? (i := 3) rfl))) (mvT hZ (hw _ (List.mem_of_getElem? (i := 61) rfl))) (by decide) (backOf (W := 1) (rm11 l Z a0 hw [] b1 (Int32.ofNat n_e1) c0 c1 c2 c3 k1 T57.heap n0 Z57 c58) hZ (hw _ (List.mem_of_getElem? (i := 61) rfl)) (hw _ (List.mem_of_getElem? (i := 3) rfl)) (by decide) (by decide)) (g := (mkF m 136 #[.val (.int vd0), .val (.int vd1), .val (.int vd2), .val (.int vd3), .val (.int vsh), .val (.int vsc), .val (.ref b1), .val (.int pt), .val (.ref b32), .val (.int (Int32.ofNat n_e1)), .val (.int (Int32.ofNat n_e2)), .val (.ref b39), .val (.int (own_z b39 (Int32.ofNat (own_rdk ([c0, c1, c2, c3] : List Int32) n_e1 0 0)))), .val (.int (own_z b39 (Int32.ofNat (own_rdk ([c0, c1, c2, c3] : List Int32) n_e2 0 0))))] [(.int (Int32.ofNat n_e1)), (.ref b1), (.int (own_z b39 (Int32.ofNat (own_rdk ([c0, c1, c2, c3] : List Int32) n_e1 0 0))))])) rfl (by rw [hml]; rfl) (argsL := [(.ref b1), (.int (Int32.ofNat n_e1))]) (rest := [(.int (own_z b39 (Int32.ofNat (own_rdk ([c0, c1, c2, c3] : List Int32) n_e1 0 0))))]) (lenOf pd_7 rfl) rfl (by show 2 * 0 + _ ≤ _; exact Nat.le_of_eq rfl) (hb hby at_136) (fun _ _ => ⟨rfl, e64q, (by decide : 4 + 0 ≤ _), (by decide : 16 + 0 ≤ _)⟩)
  dsimp only [Pt.U, Pt.locs, Pt.cells, Pt.slots] at X65 l65 y65 z65 st65 hQ65
  subst l65 y65 z65
  obtain ⟨rfl, N65q, e65q⟩ := hQ65
  have N65 := Fr.app N64 N65q
  obtain ⟨_, _, ⟨T66, L66, k66, n66⟩, -, X66, ⟨Lc66, hQ66, l66, y66, z66⟩, st66⟩ := Jvm.LawKit.callS X65 hx (y := (⟨"com/example/paniere/paniere/DigitsIsZeroPinLaw", "expected", "([CI)Z"⟩ : MethodName)) hown (mvT hZ (hw _ (List.mem_of_getElem? (i := 59) rfl))) (mvT hZ (hw _ (List.mem_of_getElem? (i := 60) rfl))) (mvT hZ (hw _ (List.mem_of_getElem? (i := 3) rfl))) (mvT hZ (hw _ (List.mem_of_getElem? (i := 61) rfl))) (by decide) (backOf (W := 1) (rm11 l Z a0 hw [] b1 (Int32.ofNat n_e2) c0 c1 c2 c3 k1 T57.heap n0 Z57 c58) hZ (hw _ (List.mem_of_getElem? (i := 61) rfl)) (hw _ (List.mem_of_getElem? (i := 3) rfl)) (by decide) (by decide)) (g := (mkF m 148 #[.val (.int vd0), .val (.int vd1), .val (.int vd2), .val (.int vd3), .val (.int vsh), .val (.int vsc), .val (.ref b1), .val (.int pt), .val (.ref b32), .val (.int (Int32.ofNat n_e1)), .val (.int (Int32.ofNat n_e2)), .val (.ref b39), .val (.int (own_z b39 (Int32.ofNat (own_rdk ([c0, c1, c2, c3] : List Int32) n_e1 0 0)))), .val (.int (own_z b39 (Int32.ofNat (own_rdk ([c0, c1, c2, c3] : List Int32) n_e2 0 0))))] [(.int (Int32.ofNat n_e2)), (.ref b1), (.int (own_z b39 (Int32.ofNat (own_rdk ([c0, c1, c2, c3] : List Int32) n_e2 0 0))))])) rfl (by rw [hml]; rfl) (argsL := [(.ref b1), (.int (Int32.ofNat n_e2))]) (rest := [(.int (own_z b39 (Int32.ofNat (own_rdk ([c0, c1, c2, c3] : List Int32) n_e2 0 0))))]) (lenOf pd_7 rfl) rfl (by show 2 * 0 + _ ≤ _; exact Nat.le_of_eq rfl) (hb hby at_148) (fun _ _ => ⟨rfl, e65q, (by decide : 4 + 0 ≤ _), (by decide : 16 + 0 ≤ _)⟩)
  dsimp only [Pt.U, Pt.locs, Pt.cells, Pt.slots] at X66 l66 y66 z66 st66 hQ66
  subst l66 y66 z66
  obtain ⟨rfl, N66q, e66q⟩ := hQ66
  have N66 := Fr.app N65 N66q
  obtain ⟨fs, hr, hrun, hended, hW, hsame⟩ := X66.leave (v := some (.int (1 : Int32))) (fun h => by rw [Bd.returns] at h; cases h)
  refine ⟨_, _, pre38 _ ?_, hrun, hended, _, _, rfl, ?_, ⟨_, rfl⟩, hW, hsame.mono (by decide) (by decide)⟩
  ·
    show Steps p.tables e below (T35.setTop (mkF m 85 #[.val (.int vd0), .val (.int vd1), .val (.int vd2), .val (.int vd3), .val (.int vsh), .val (.int vsc), .val (.ref b1), .val (.int pt), .val (.ref b32), .val (.int (Int32.ofNat n_e1)), .val (.int (Int32.ofNat n_e2)), .unset, .unset, .unset] [])) _
    refine st39 _ ?_
    show Steps p.tables e below (T39.setTop (mkF m 88 #[.val (.int vd0), .val (.int vd1), .val (.int vd2), .val (.int vd3), .val (.int vsh), .val (.int vsc), .val (.ref b1), .val (.int pt), .val (.ref b32), .val (.int (Int32.ofNat n_e1)), .val (.int (Int32.ofNat n_e2)), .unset, .unset, .unset] [(.ref b39)])) _
    refine XS.dup X39.here hx rfl (hb hby at_88) rfl rfl ?_
    show Steps p.tables e below (T39.setTop (mkF m 89 #[.val (.int vd0), .val (.int vd1), .val (.int vd2), .val (.int vd3), .val (.int vsh), .val (.int vsc), .val (.ref b1), .val (.int pt), .val (.ref b32), .val (.int (Int32.ofNat n_e1)), .val (.int (Int32.ofNat n_e2)), .unset, .unset, .unset] [(.ref b39), (.ref b39)])) _
    refine st48.trans ?_
    show Steps p.tables e below (T48.setTop (mkF m 92 #[.val (.int vd0), .val (.int vd1), .val (.int vd2), .val (.int vd3), .val (.int vsh), .val (.int vsc), .val (.ref b1), .val (.int pt), .val (.ref b32), .val (.int (Int32.ofNat n_e1)), .val (.int (Int32.ofNat n_e2)), .unset, .unset, .unset] [(.ref b39)])) _
    refine XS.astore X48.here hx rfl (hb hby at_92) rfl rfl (l' := #[.val (.int vd0), .val (.int vd1), .val (.int vd2), .val (.int vd3), .val (.int vsh), .val (.int vsc), .val (.ref b1), .val (.int pt), .val (.ref b32), .val (.int (Int32.ofNat n_e1)), .val (.int (Int32.ofNat n_e2)), .val (.ref b39), .unset, .unset]) rfl ?_
    show Steps p.tables e below (T48.setTop (mkF m 94 #[.val (.int vd0), .val (.int vd1), .val (.int vd2), .val (.int vd3), .val (.int vsh), .val (.int vsc), .val (.ref b1), .val (.int pt), .val (.ref b32), .val (.int (Int32.ofNat n_e1)), .val (.int (Int32.ofNat n_e2)), .val (.ref b39), .unset, .unset] [])) _
    refine XS.aload X48.here hx rfl (hb hby at_94) rfl rfl ?_
    show Steps p.tables e below (T48.setTop (mkF m 96 #[.val (.int vd0), .val (.int vd1), .val (.int vd2), .val (.int vd3), .val (.int vsh), .val (.int vsc), .val (.ref b1), .val (.int pt), .val (.ref b32), .val (.int (Int32.ofNat n_e1)), .val (.int (Int32.ofNat n_e2)), .val (.ref b39), .unset, .unset] [(.ref b39)])) _
    refine XS.aload X48.here hx rfl (hb hby at_96) rfl rfl ?_
    show Steps p.tables e below (T48.setTop (mkF m 98 #[.val (.int vd0), .val (.int vd1), .val (.int vd2), .val (.int vd3), .val (.int vsh), .val (.int vsc), .val (.ref b1), .val (.int pt), .val (.ref b32), .val (.int (Int32.ofNat n_e1)), .val (.int (Int32.ofNat n_e2)), .val (.ref b39), .unset, .unset] [(.ref b32), (.ref b39)])) _
    refine XS.iload X48.here hx rfl (hb hby at_98) rfl ?_
    show Steps p.tables e below (T48.setTop (mkF m 100 #[.val (.int vd0), .val (.int vd1), .val (.int vd2), .val (.int vd3), .val (.int vsh), .val (.int vsc), .val (.ref b1), .val (.int pt), .val (.ref b32), .val (.int (Int32.ofNat n_e1)), .val (.int (Int32.ofNat n_e2)), .val (.ref b39), .unset, .unset] [(.int (Int32.ofNat n_e1)), (.ref b32), (.ref b39)])) _
    refine XS.iload X48.here hx rfl (hb hby at_100) rfl ?_
    show Steps p.tables e below (T48.setTop (mkF m 102 #[.val (.int vd0), .val (.int vd1), .val (.int vd2), .val (.int vd3), .val (.int vsh), .val (.int vsc), .val (.ref b1), .val (.int pt), .val (.ref b32), .val (.int (Int32.ofNat n_e1)), .val (.int (Int32.ofNat n_e2)), .val (.ref b39), .unset, .unset] [(.int vsc), (.int (Int32.ofNat n_e1)), (.ref b32), (.ref b39)])) _
    refine st49.trans ?_
    show Steps p.tables e below (T49.setTop (mkF m 105 #[.val (.int vd0), .val (.int vd1), .val (.int vd2), .val (.int vd3), .val (.int vsh), .val (.int vsc), .val (.ref b1), .val (.int pt), .val (.ref b32), .val (.int (Int32.ofNat n_e1)), .val (.int (Int32.ofNat n_e2)), .val (.ref b39), .unset, .unset] [])) _
    refine XS.aload X49.here hx rfl (hb hby at_105) rfl rfl ?_
    show Steps p.tables e below (T49.setTop (mkF m 107 #[.val (.int vd0), .val (.int vd1), .val (.int vd2), .val (.int vd3), .val (.int vsh), .val (.int vsc), .val (.ref b1), .val (.int pt), .val (.ref b32), .val (.int (Int32.ofNat n_e1)), .val (.int (Int32.ofNat n_e2)), .val (.ref b39), .unset, .unset] [(.ref b39)])) _
    refine st56.trans ?_
    show Steps p.tables e below (T56.setTop (mkF m 110 #[.val (.int vd0), .val (.int vd1), .val (.int vd2), .val (.int vd3), .val (.int vsh), .val (.int vsc), .val (.ref b1), .val (.int pt), .val (.ref b32), .val (.int (Int32.ofNat n_e1)), .val (.int (Int32.ofNat n_e2)), .val (.ref b39), .unset, .unset] [(.int (own_z b39 (Int32.ofNat (own_rdk ([c0, c1, c2, c3] : List Int32) n_e1 0 0))))])) _
    refine XS.istore X56.here hx rfl (hb hby at_110) rfl (l' := #[.val (.int vd0), .val (.int vd1), .val (.int vd2), .val (.int vd3), .val (.int vsh), .val (.int vsc), .val (.ref b1), .val (.int pt), .val (.ref b32), .val (.int (Int32.ofNat n_e1)), .val (.int (Int32.ofNat n_e2)), .val (.ref b39), .val (.int (own_z b39 (Int32.ofNat (own_rdk ([c0, c1, c2, c3] : List Int32) n_e1 0 0)))), .unset]) rfl ?_
    show Steps p.tables e below (T56.setTop (mkF m 112 #[.val (.int vd0), .val (.int vd1), .val (.int vd2), .val (.int vd3), .val (.int vsh), .val (.int vsc), .val (.ref b1), .val (.int pt), .val (.ref b32), .val (.int (Int32.ofNat n_e1)), .val (.int (Int32.ofNat n_e2)), .val (.ref b39), .val (.int (own_z b39 (Int32.ofNat (own_rdk ([c0, c1, c2, c3] : List Int32) n_e1 0 0)))), .unset] [])) _
    refine XS.aload X56.here hx rfl (hb hby at_112) rfl rfl ?_
    show Steps p.tables e below (T56.setTop (mkF m 114 #[.val (.int vd0), .val (.int vd1), .val (.int vd2), .val (.int vd3), .val (.int vsh), .val (.int vsc), .val (.ref b1), .val (.int pt), .val (.ref b32), .val (.int (Int32.ofNat n_e1)), .val (.int (Int32.ofNat n_e2)), .val (.ref b39), .val (.int (own_z b39 (Int32.ofNat (own_rdk ([c0, c1, c2, c3] : List Int32) n_e1 0 0)))), .unset] [(.ref b39)])) _
    refine XS.aload X56.here hx rfl (hb hby at_114) rfl rfl ?_
    show Steps p.tables e below (T56.setTop (mkF m 116 #[.val (.int vd0), .val (.int vd1), .val (.int vd2), .val (.int vd3), .val (.int vsh), .val (.int vsc), .val (.ref b1), .val (.int pt), .val (.ref b32), .val (.int (Int32.ofNat n_e1)), .val (.int (Int32.ofNat n_e2)), .val (.ref b39), .val (.int (own_z b39 (Int32.ofNat (own_rdk ([c0, c1, c2, c3] : List Int32) n_e1 0 0)))), .unset] [(.ref b32), (.ref b39)])) _
    refine XS.iload X56.here hx rfl (hb hby at_116) rfl ?_
    show Steps p.tables e below (T56.setTop (mkF m 118 #[.val (.int vd0), .val (.int vd1), .val (.int vd2), .val (.int vd3), .val (.int vsh), .val (.int vsc), .val (.ref b1), .val (.int pt), .val (.ref b32), .val (.int (Int32.ofNat n_e1)), .val (.int (Int32.ofNat n_e2)), .val (.ref b39), .val (.int (own_z b39 (Int32.ofNat (own_rdk ([c0, c1, c2, c3] : List Int32) n_e1 0 0)))), .unset] [(.int (Int32.ofNat n_e2)), (.ref b32), (.ref b39)])) _
    refine XS.iload X56.here hx rfl (hb hby at_118) rfl ?_
    show Steps p.tables e below (T56.setTop (mkF m 120 #[.val (.int vd0), .val (.int vd1), .val (.int vd2), .val (.int vd3), .val (.int vsh), .val (.int vsc), .val (.ref b1), .val (.int pt), .val (.ref b32), .val (.int (Int32.ofNat n_e1)), .val (.int (Int32.ofNat n_e2)), .val (.ref b39), .val (.int (own_z b39 (Int32.ofNat (own_rdk ([c0, c1, c2, c3] : List Int32) n_e1 0 0)))), .unset] [(.int vsc), (.int (Int32.ofNat n_e2)), (.ref b32), (.ref b39)])) _
    refine st57.trans ?_
    show Steps p.tables e below (T57.setTop (mkF m 123 #[.val (.int vd0), .val (.int vd1), .val (.int vd2), .val (.int vd3), .val (.int vsh), .val (.int vsc), .val (.ref b1), .val (.int pt), .val (.ref b32), .val (.int (Int32.ofNat n_e1)), .val (.int (Int32.ofNat n_e2)), .val (.ref b39), .val (.int (own_z b39 (Int32.ofNat (own_rdk ([c0, c1, c2, c3] : List Int32) n_e1 0 0)))), .unset] [])) _
    refine XS.aload X57.here hx rfl (hb hby at_123) rfl rfl ?_
    show Steps p.tables e below (T57.setTop (mkF m 125 #[.val (.int vd0), .val (.int vd1), .val (.int vd2), .val (.int vd3), .val (.int vsh), .val (.int vsc), .val (.ref b1), .val (.int pt), .val (.ref b32), .val (.int (Int32.ofNat n_e1)), .val (.int (Int32.ofNat n_e2)), .val (.ref b39), .val (.int (own_z b39 (Int32.ofNat (own_rdk ([c0, c1, c2, c3] : List Int32) n_e1 0 0)))), .unset] [(.ref b39)])) _
    refine st64.trans ?_
    show Steps p.tables e below (T64.setTop (mkF m 128 #[.val (.int vd0), .val (.int vd1), .val (.int vd2), .val (.int vd3), .val (.int vsh), .val (.int vsc), .val (.ref b1), .val (.int pt), .val (.ref b32), .val (.int (Int32.ofNat n_e1)), .val (.int (Int32.ofNat n_e2)), .val (.ref b39), .val (.int (own_z b39 (Int32.ofNat (own_rdk ([c0, c1, c2, c3] : List Int32) n_e1 0 0)))), .unset] [(.int (own_z b39 (Int32.ofNat (own_rdk ([c0, c1, c2, c3] : List Int32) n_e2 0 0))))])) _
    refine XS.istore X64.here hx rfl (hb hby at_128) rfl (l' := #[.val (.int vd0), .val (.int vd1), .val (.int vd2), .val (.int vd3), .val (.int vsh), .val (.int vsc), .val (.ref b1), .val (.int pt), .val (.ref b32), .val (.int (Int32.ofNat n_e1)), .val (.int (Int32.ofNat n_e2)), .val (.ref b39), .val (.int (own_z b39 (Int32.ofNat (own_rdk ([c0, c1, c2, c3] : List Int32) n_e1 0 0)))), .val (.int (own_z b39 (Int32.ofNat (own_rdk ([c0, c1, c2, c3] : List Int32) n_e2 0 0))))]) rfl ?_
    show Steps p.tables e below (T64.setTop (mkF m 130 #[.val (.int vd0), .val (.int vd1), .val (.int vd2), .val (.int vd3), .val (.int vsh), .val (.int vsc), .val (.ref b1), .val (.int pt), .val (.ref b32), .val (.int (Int32.ofNat n_e1)), .val (.int (Int32.ofNat n_e2)), .val (.ref b39), .val (.int (own_z b39 (Int32.ofNat (own_rdk ([c0, c1, c2, c3] : List Int32) n_e1 0 0)))), .val (.int (own_z b39 (Int32.ofNat (own_rdk ([c0, c1, c2, c3] : List Int32) n_e2 0 0))))] [])) _
    refine XS.iload X64.here hx rfl (hb hby at_130) rfl ?_
    show Steps p.tables e below (T64.setTop (mkF m 132 #[.val (.int vd0), .val (.int vd1), .val (.int vd2), .val (.int vd3), .val (.int vsh), .val (.int vsc), .val (.ref b1), .val (.int pt), .val (.ref b32), .val (.int (Int32.ofNat n_e1)), .val (.int (Int32.ofNat n_e2)), .val (.ref b39), .val (.int (own_z b39 (Int32.ofNat (own_rdk ([c0, c1, c2, c3] : List Int32) n_e1 0 0)))), .val (.int (own_z b39 (Int32.ofNat (own_rdk ([c0, c1, c2, c3] : List Int32) n_e2 0 0))))] [(.int (own_z b39 (Int32.ofNat (own_rdk ([c0, c1, c2, c3] : List Int32) n_e1 0 0))))])) _
    refine XS.aload X64.here hx rfl (hb hby at_132) rfl rfl ?_
    show Steps p.tables e below (T64.setTop (mkF m 134 #[.val (.int vd0), .val (.int vd1), .val (.int vd2), .val (.int vd3), .val (.int vsh), .val (.int vsc), .val (.ref b1), .val (.int pt), .val (.ref b32), .val (.int (Int32.ofNat n_e1)), .val (.int (Int32.ofNat n_e2)), .val (.ref b39), .val (.int (own_z b39 (Int32.ofNat (own_rdk ([c0, c1, c2, c3] : List Int32) n_e1 0 0)))), .val (.int (own_z b39 (Int32.ofNat (own_rdk ([c0, c1, c2, c3] : List Int32) n_e2 0 0))))] [(.ref b1), (.int (own_z b39 (Int32.ofNat (own_rdk ([c0, c1, c2, c3] : List Int32) n_e1 0 0))))])) _
    refine XS.iload X64.here hx rfl (hb hby at_134) rfl ?_
    show Steps p.tables e below (T64.setTop (mkF m 136 #[.val (.int vd0), .val (.int vd1), .val (.int vd2), .val (.int vd3), .val (.int vsh), .val (.int vsc), .val (.ref b1), .val (.int pt), .val (.ref b32), .val (.int (Int32.ofNat n_e1)), .val (.int (Int32.ofNat n_e2)), .val (.ref b39), .val (.int (own_z b39 (Int32.ofNat (own_rdk ([c0, c1, c2, c3] : List Int32) n_e1 0 0)))), .val (.int (own_z b39 (Int32.ofNat (own_rdk ([c0, c1, c2, c3] : List Int32) n_e2 0 0))))] [(.int (Int32.ofNat n_e1)), (.ref b1), (.int (own_z b39 (Int32.ofNat (own_rdk ([c0, c1, c2, c3] : List Int32) n_e1 0 0))))])) _
    refine st65 _ ?_
    show Steps p.tables e below (T65.setTop (mkF m 139 #[.val (.int vd0), .val (.int vd1), .val (.int vd2), .val (.int vd3), .val (.int vsh), .val (.int vsc), .val (.ref b1), .val (.int pt), .val (.ref b32), .val (.int (Int32.ofNat n_e1)), .val (.int (Int32.ofNat n_e2)), .val (.ref b39), .val (.int (own_z b39 (Int32.ofNat (own_rdk ([c0, c1, c2, c3] : List Int32) n_e1 0 0)))), .val (.int (own_z b39 (Int32.ofNat (own_rdk ([c0, c1, c2, c3] : List Int32) n_e2 0 0))))] [(.int (own_ex b1 (Int32.ofNat n_e1) c0 c1 c2 c3)), (.int (own_z b39 (Int32.ofNat (own_rdk ([c0, c1, c2, c3] : List Int32) n_e1 0 0))))])) _
    refine XS.icmpNo X65.here hx rfl (hb hby at_139) rfl (teq ((own_fin b_e1) : (own_z b39 (Int32.ofNat (own_rdk ([c0, c1, c2, c3] : List Int32) n_e1 0 0))) = (own_ex b1 (Int32.ofNat n_e1) c0 c1 c2 c3))).2 ?_
    show Steps p.tables e below (T65.setTop (mkF m 142 #[.val (.int vd0), .val (.int vd1), .val (.int vd2), .val (.int vd3), .val (.int vsh), .val (.int vsc), .val (.ref b1), .val (.int pt), .val (.ref b32), .val (.int (Int32.ofNat n_e1)), .val (.int (Int32.ofNat n_e2)), .val (.ref b39), .val (.int (own_z b39 (Int32.ofNat (own_rdk ([c0, c1, c2, c3] : List Int32) n_e1 0 0)))), .val (.int (own_z b39 (Int32.ofNat (own_rdk ([c0, c1, c2, c3] : List Int32) n_e2 0 0))))] [])) _
    refine XS.iload X65.here hx rfl (hb hby at_142) rfl ?_
    show Steps p.tables e below (T65.setTop (mkF m 144 #[.val (.int vd0), .val (.int vd1), .val (.int vd2), .val (.int vd3), .val (.int vsh), .val (.int vsc), .val (.ref b1), .val (.int pt), .val (.ref b32), .val (.int (Int32.ofNat n_e1)), .val (.int (Int32.ofNat n_e2)), .val (.ref b39), .val (.int (own_z b39 (Int32.ofNat (own_rdk ([c0, c1, c2, c3] : List Int32) n_e1 0 0)))), .val (.int (own_z b39 (Int32.ofNat (own_rdk ([c0, c1, c2, c3] : List Int32) n_e2 0 0))))] [(.int (own_z b39 (Int32.ofNat (own_rdk ([c0, c1, c2, c3] : List Int32) n_e2 0 0))))])) _
    refine XS.aload X65.here hx rfl (hb hby at_144) rfl rfl ?_
    show Steps p.tables e below (T65.setTop (mkF m 146 #[.val (.int vd0), .val (.int vd1), .val (.int vd2), .val (.int vd3), .val (.int vsh), .val (.int vsc), .val (.ref b1), .val (.int pt), .val (.ref b32), .val (.int (Int32.ofNat n_e1)), .val (.int (Int32.ofNat n_e2)), .val (.ref b39), .val (.int (own_z b39 (Int32.ofNat (own_rdk ([c0, c1, c2, c3] : List Int32) n_e1 0 0)))), .val (.int (own_z b39 (Int32.ofNat (own_rdk ([c0, c1, c2, c3] : List Int32) n_e2 0 0))))] [(.ref b1), (.int (own_z b39 (Int32.ofNat (own_rdk ([c0, c1, c2, c3] : List Int32) n_e2 0 0))))])) _
    refine XS.iload X65.here hx rfl (hb hby at_146) rfl ?_
    show Steps p.tables e below (T65.setTop (mkF m 148 #[.val (.int vd0), .val (.int vd1), .val (.int vd2), .val (.int vd3), .val (.int vsh), .val (.int vsc), .val (.ref b1), .val (.int pt), .val (.ref b32), .val (.int (Int32.ofNat n_e1)), .val (.int (Int32.ofNat n_e2)), .val (.ref b39), .val (.int (own_z b39 (Int32.ofNat (own_rdk ([c0, c1, c2, c3] : List Int32) n_e1 0 0)))), .val (.int (own_z b39 (Int32.ofNat (own_rdk ([c0, c1, c2, c3] : List Int32) n_e2 0 0))))] [(.int (Int32.ofNat n_e2)), (.ref b1), (.int (own_z b39 (Int32.ofNat (own_rdk ([c0, c1, c2, c3] : List Int32) n_e2 0 0))))])) _
    refine st66 _ ?_
    show Steps p.tables e below (T66.setTop (mkF m 151 #[.val (.int vd0), .val (.int vd1), .val (.int vd2), .val (.int vd3), .val (.int vsh), .val (.int vsc), .val (.ref b1), .val (.int pt), .val (.ref b32), .val (.int (Int32.ofNat n_e1)), .val (.int (Int32.ofNat n_e2)), .val (.ref b39), .val (.int (own_z b39 (Int32.ofNat (own_rdk ([c0, c1, c2, c3] : List Int32) n_e1 0 0)))), .val (.int (own_z b39 (Int32.ofNat (own_rdk ([c0, c1, c2, c3] : List Int32) n_e2 0 0))))] [(.int (own_ex b1 (Int32.ofNat n_e2) c0 c1 c2 c3)), (.int (own_z b39 (Int32.ofNat (own_rdk ([c0, c1, c2, c3] : List Int32) n_e2 0 0))))])) _
    refine XS.icmpNo X66.here hx rfl (hb hby at_151) rfl (teq ((own_fin b_e2) : (own_z b39 (Int32.ofNat (own_rdk ([c0, c1, c2, c3] : List Int32) n_e2 0 0))) = (own_ex b1 (Int32.ofNat n_e2) c0 c1 c2 c3))).2 ?_
    show Steps p.tables e below (T66.setTop (mkF m 154 #[.val (.int vd0), .val (.int vd1), .val (.int vd2), .val (.int vd3), .val (.int vsh), .val (.int vsc), .val (.ref b1), .val (.int pt), .val (.ref b32), .val (.int (Int32.ofNat n_e1)), .val (.int (Int32.ofNat n_e2)), .val (.ref b39), .val (.int (own_z b39 (Int32.ofNat (own_rdk ([c0, c1, c2, c3] : List Int32) n_e1 0 0)))), .val (.int (own_z b39 (Int32.ofNat (own_rdk ([c0, c1, c2, c3] : List Int32) n_e2 0 0))))] [])) _
    refine XS.iconst X66.here hx rfl (hb hby at_154) ?_
    show Steps p.tables e below (T66.setTop (mkF m 155 #[.val (.int vd0), .val (.int vd1), .val (.int vd2), .val (.int vd3), .val (.int vsh), .val (.int vsc), .val (.ref b1), .val (.int pt), .val (.ref b32), .val (.int (Int32.ofNat n_e1)), .val (.int (Int32.ofNat n_e2)), .val (.ref b39), .val (.int (own_z b39 (Int32.ofNat (own_rdk ([c0, c1, c2, c3] : List Int32) n_e1 0 0)))), .val (.int (own_z b39 (Int32.ofNat (own_rdk ([c0, c1, c2, c3] : List Int32) n_e2 0 0))))] [(.int (1 : Int32))])) _
    refine XS.goto X66.here hx rfl (pc0 := 155) (pc' := 159) rfl (hb hby at_155) (by decide) (by decide) ?_
    show Steps p.tables e below (T66.setTop (mkF m 159 #[.val (.int vd0), .val (.int vd1), .val (.int vd2), .val (.int vd3), .val (.int vsh), .val (.int vsc), .val (.ref b1), .val (.int pt), .val (.ref b32), .val (.int (Int32.ofNat n_e1)), .val (.int (Int32.ofNat n_e2)), .val (.ref b39), .val (.int (own_z b39 (Int32.ofNat (own_rdk ([c0, c1, c2, c3] : List Int32) n_e1 0 0)))), .val (.int (own_z b39 (Int32.ofNat (own_rdk ([c0, c1, c2, c3] : List Int32) n_e2 0 0))))] [(.int (1 : Int32))])) _
    exact retN X66 hx (t := .boolean) Bd.returns (by simp) (hb hby at_159) hr
  ·
    show Q0 Z vd0 vd1 vd2 vd3 vsh vsc vz fm h0 n0 _ T66.heap _
    rw [e66q]
    exact ⟨rfl, N66⟩
set_option maxRecDepth 65536 in
set_option maxHeartbeats 40000000 in
theorem comes_1 {Post : Tables → Env → Array Value → State → Outcome → State → Prop} (hpost : ∀ tb e args s v u, (limb_1_1.after args s (.returned v) u = true ∧ limb_1_2.after args s (.returned v) u = true ∧ True) → FrameEnd s (.returned v) u (Jvm.fieldLocs frame_1_writes args s ++ Jvm.arrayLocs frame_1_arrays args s ++ Jvm.staticLocs frame_1_statics s) 16 128 → Post tb e args s (.returned v) u) :
    ArmFor flags0 classFile x code maxLocals ret World_1 tables_1 room_1 Calls_1 rest_1 Pre_1 Post := by
  intro l hfl _ _ p e ha hc hk s m args below hf hA hF happ hP
  obtain ⟨hcalls, hrest, hpre⟩ := hP
  obtain ⟨-, -, -, hnamed, -, -, -, hat⟩ := (Spec.applies_iff hf).mp happ
  obtain ⟨hg, hn⟩ := and_e (Cond.before_iff.mp (show (Jvm.Cond.and given_1 narrow_1).before args s = true from hpre))
  obtain ⟨g1a, g1b⟩ := and_e hg
  obtain ⟨g2a, g2b⟩ := and_e g1b
  obtain ⟨g3a, g3b⟩ := and_e g2b
  obtain ⟨g4a, g4b⟩ := and_e g3b
  obtain ⟨g5a, g5b⟩ := and_e g4b
  obtain ⟨g6a, g6b⟩ := and_e g5b
  obtain ⟨w0, w1, w2, w3, w4, w5, rfl⟩ : ∃ w0 w1 w2 w3 w4 w5 : Value, args = #[w0, w1, w2, w3, w4, w5] := by
    have hs : args.size = 6 := by simpa [Cond.value, given_1] using g1a
    obtain ⟨L⟩ := args
    match L, hs with
    | [w0, w1, w2, w3, w4, w5], _ => exact ⟨w0, w1, w2, w3, w4, w5, rfl⟩
  have hw := fun d (hd : d ∈ tables_1) => atoms_spec (ws := Jvm.Cond.code x code maxLocals ret :: tables_1) hat d (List.mem_cons_of_mem _ hd)
  have hfit : Fit s := fun {y c} hc i hi => by
    obtain ⟨ha, rfl⟩ := Array.getElem?_eq_some_iff.mp hc
    have q := List.all_eq_true.mp ((Array.all_eq_true_iff_forall_mem.mp hF) _ (Array.getElem_mem ha)) i (List.mem_range.mpr hi)
    simpa [Array.getElem?_eq_getElem hi] using q
  obtain ⟨hsets, hown0⟩ := atoms_of _ (rest_1_c_eq ▸ (show rest_1_c.before _ s = true from hrest))
  have hr0 := Cond.before_iff.mp hown0
  obtain ⟨vd0, ei0⟩ := is_v g2a
  obtain rfl : w0 = (.int vd0) := Option.some.inj ei0
  obtain ⟨vd1, ei1⟩ := is_v g3a
  obtain rfl : w1 = (.int vd1) := Option.some.inj ei1
  obtain ⟨vd2, ei2⟩ := is_v g4a
  obtain rfl : w2 = (.int vd2) := Option.some.inj ei2
  obtain ⟨vd3, ei3⟩ := is_v g5a
  obtain rfl : w3 = (.int vd3) := Option.some.inj ei3
  obtain ⟨vsh, ei4⟩ := is_v g6a
  obtain rfl : w4 = (.int vsh) := Option.some.inj ei4
  obtain ⟨vsc, ei5⟩ := is_v g6b
  obtain rfl : w5 = (.int vsc) := Option.some.inj ei5
  have n5 := not_v (Cond.before_iff.mp (hsets _ (List.mem_of_getElem? (i := 2) rfl)))
  obtain ⟨vz, ez⟩ := is_v (Cond.before_iff.mp (hsets _ (List.mem_of_getElem? (i := 1) rfl)))
  have S_cs : Sta s s.heap "java/lang/String" "COMPACT_STRINGS" "Z" (.int vz) := Sta.start ez (Or.inl (hsets _ (List.mem_of_getElem? (i := 0) rfl)))
  have hcs : ¬ vz = 0 := gotF (Cond.eq_ints ez (Term.int_eval (0))) n5
  obtain ⟨fm, efm, rfm⟩ := isR_v (Cond.before_iff.mp (hsets _ (List.mem_of_getElem? (i := 8) rfl)))
  have S_fm : Sta s s.heap "jdk/internal/util/Preconditions" "SIOOBE_FORMATTER" "Ljava/util/function/BiFunction;" fm := Sta.start efm (Or.inl (hsets _ (List.mem_of_getElem? (i := 7) rfl)))
  obtain ⟨n, o, h1, h2, h3, _, L, rfl, ⟨rfl, N⟩, hq⟩ := rm0 l s _ hw tables_1 vd0 vd1 vd2 vd3 vsh vsc vz fm s.heap s.heap.size (Nat.le_refl _) S_cs S_fm hcs rfm p e ha hc hk s m _ below hf ((Spec.applies_iff_loose hf).mp happ).1 ⟨rfl, State.Warmed39.refl s, rfl⟩ trivial
  refine ⟨n, _, h1, h2, h3, hpost _ _ _ _ _ _ ⟨Cond.after_iff.mpr rfl, Cond.after_iff.mpr (eq_i res_at (Term.int_eval (1)) rfl), trivial⟩ ⟨hq.1, hq.2.1, (hq.2.2.sift fun y hy => Or.inr (N y hy)).mono (by decide) (by decide)⟩⟩
theorem main_1_1 : Claimed_1_1 := comes_1 fun _ _ _ _ _ _ h hF => ⟨h.1, hF⟩
theorem main_1_2 : Claimed_1_2 := comes_1 fun _ _ _ _ _ _ h hF => ⟨h.2.1, hF⟩
end Jvm.Pilot.@@N@@
namespace Jvm.Pilot.@@N@@
open Jvm Jvm.ClassFile Sem Op Lib Jvm.Free Jvm.Stand Jvm.Pilot.@@N@@.Jvm.D
/-! MADE BY PROGRAM (witnessworld.py) out of the Statement's table words and the real class files: 20 classes; the members and pool entries that the words name. The judged class is class 1, her method 1. -/
namespace start1
open Jvm.ClassFile
def u (s : String) : CpInfo := .utf8 (stringToUtf16 s)
/-- a pool by its gaps: so many unusable entries, then the entry; so many at the end -/
def gap : Nat → List CpInfo → List CpInfo
  | 0, r => r
  | n + 1, r => .unusable :: gap n r
def poolList (es : List (Nat × CpInfo)) (last : Nat) : List CpInfo := es.foldr (fun e r => gap e.1 (e.2 :: r)) (gap last [])
def pool (es : List (Nat × CpInfo)) (last : Nat) : Array CpInfo := ⟨poolList es last⟩
def fileOf (pool : Array CpInfo) (this : Nat) (attrs : Array Attribute := #[]) (ms : Array MethodInfo := #[]) (fl : Nat := 33) (sup : Nat := 0) (ifs : Array Nat := #[]) (fds : Array FieldInfo := #[]) : ClassFile where
  minorVersion := 0
  majorVersion := 65
  constantPool := pool
  accessFlags := fl
  thisClass := this
  superClass := sup
  interfaces := ifs
  fields := fds
  methods := ms
  attributes := attrs
def plain (name : String) (sup : Option ClassId) : Class where
  name := name
  kind := .ordinary
  loader := none
  accessFlags := 33
  super := sup
  interfaces := #[]
  cf := none
  fields := #[]
  methods := #[]
  instanceTypes := #[]
  staticTypes := #[]
  resolved := #[]
  callSites := []
  init := .initialized
  statics := none
  mirror := none

def pool0 : Array CpInfo := pool [(5, u "<init>"), (0, u "()V"), (1, .class_ 10), (1, u "java/lang/Object")] 113

def k0c0 : Code := { maxStack := 0, maxLocals := 1, code := object_method_1_code, exceptionTable := #[], attributes := #[] }
def k0m0 : Method := { name := "<init>", desc := "()V", sig := { parameters := [], returnType := none }, accessFlags := 1, code := some k0c0 }
/-- java/lang/Object -/
def k0 : Class := { plain "java/lang/Object" none with
  accessFlags := 33
  interfaces := #[]
  cf := some (fileOf pool0 8 #[] #[{ accessFlags := 1, nameIndex := 5, descriptorIndex := 6, attributes := #[] }] 33 0 #[] #[])
  fields := #[]
  methods := #[k0m0]
  instanceTypes := #[]
  staticTypes := #[]
  resolved := Array.replicate 124 none
  statics := none }

def pool1 : Array CpInfo := pool [(2, .class_ 4), (0, .nameAndType 5 6), (0, u "java/lang/Object"), (0, u "<init>"), (0, u "()V"), (0, .methodref 8 9), (0, .class_ 10), (0, .nameAndType 11 12), (0, u "com/example/paniere/paniere/DigitsIsZeroPinLaw"), (0, u "digit"), (0, u "(I)C"), (0, .class_ 14), (0, u "java/lang/String"), (0, .methodref 13 16), (0, .nameAndType 5 17), (0, u "([C)V"), (0, .class_ 19), (0, u "com/example/paniere/paniere/CompactDecimal$Digits"), (0, .methodref 18 3), (0, .methodref 18 22), (0, .nameAndType 23 24), (0, u "read"), (0, u "(Ljava/lang/String;II)V"), (0, .methodref 18 26), (0, .nameAndType 27 28), (0, u "isZero"), (0, u "()Z"), (0, .methodref 8 30), (0, .nameAndType 31 32), (0, u "expected"), (0, u "([CI)Z"), (0, .methodref 8 34), (0, .nameAndType 35 36), (0, u "zeroish"), (0, u "(C)Z"), (2, u "law"), (0, u "(IIIIII)Z")] 9

def k1m0 : Method := { name := "<init>", desc := "()V", sig := { parameters := [], returnType := none }, accessFlags := 1, code := none }
def k1c1 : Code := { maxStack := 4, maxLocals := 14, code := code, exceptionTable := #[], attributes := #[] }
def k1m1 : Method := { name := "law", desc := "(IIIIII)Z", sig := { parameters := [.int, .int, .int, .int, .int, .int], returnType := some .boolean }, accessFlags := 9, code := some k1c1 }
def k1c2 : Code := { maxStack := 3, maxLocals := 1, code := method_3_code, exceptionTable := #[], attributes := #[] }
def k1m2 : Method := { name := "digit", desc := "(I)C", sig := { parameters := [.int], returnType := some .char }, accessFlags := 10, code := some k1c2 }
def k1c3 : Code := { maxStack := 2, maxLocals := 1, code := method_4_code, exceptionTable := #[], attributes := #[] }
def k1m3 : Method := { name := "zeroish", desc := "(C)Z", sig := { parameters := [.char], returnType := some .boolean }, accessFlags := 10, code := some k1c3 }
def k1c4 : Code := { maxStack := 2, maxLocals := 2, code := method_5_code, exceptionTable := #[], attributes := #[] }
def k1m4 : Method := { name := "expected", desc := "([CI)Z", sig := { parameters := [(.array .char), .int], returnType := some .boolean }, accessFlags := 10, code := some k1c4 }
/-- com/example/paniere/paniere/DigitsIsZeroPinLaw -/
def k1 : Class := { plain "com/example/paniere/paniere/DigitsIsZeroPinLaw" (some 0) with
  accessFlags := 49
  interfaces := #[]
  cf := some (fileOf pool1 8 #[] #[{ accessFlags := 1, nameIndex := 5, descriptorIndex := 6, attributes := #[] }, { accessFlags := 9, nameIndex := 39, descriptorIndex := 40, attributes := #[] }, { accessFlags := 10, nameIndex := 11, descriptorIndex := 12, attributes := #[] }, { accessFlags := 10, nameIndex := 35, descriptorIndex := 36, attributes := #[] }, { accessFlags := 10, nameIndex := 31, descriptorIndex := 32, attributes := #[] }] 49 2 #[] #[])
  fields := #[]
  methods := #[k1m0, k1m1, k1m2, k1m3, k1m4]
  instanceTypes := #[]
  staticTypes := #[]
  resolved := Array.replicate 50 none
  statics := none }

def pool2 : Array CpInfo := pool [(1, .class_ 2), (0, u "java/io/Serializable"), (0, .class_ 4), (0, u "java/lang/Object")] 2

/-- java/io/Serializable -/
def k2 : Class := { plain "java/io/Serializable" (some 0) with
  accessFlags := 1537
  interfaces := #[]
  cf := some (fileOf pool2 1 #[] #[] 1537 3 #[] #[])
  fields := #[]
  methods := #[]
  instanceTypes := #[]
  staticTypes := #[]
  resolved := Array.replicate 7 none
  statics := none }

def pool3 : Array CpInfo := pool [(1, .class_ 2), (0, u "java/lang/Comparable"), (0, .class_ 4), (0, u "java/lang/Object")] 7

/-- java/lang/Comparable -/
def k3 : Class := { plain "java/lang/Comparable" (some 0) with
  accessFlags := 1537
  interfaces := #[]
  cf := some (fileOf pool3 1 #[] #[] 1537 3 #[] #[])
  fields := #[]
  methods := #[]
  instanceTypes := #[]
  staticTypes := #[]
  resolved := Array.replicate 12 none
  statics := none }

def pool4 : Array CpInfo := pool [(2, .class_ 4), (1, u "java/lang/CharSequence"), (42, .class_ 48), (0, u "java/lang/CharSequence$1CodePointIterator"), (10, .class_ 60), (0, u "java/lang/CharSequence$1CharIterator"), (5, .class_ 67), (0, u "java/lang/Object")] 63

/-- java/lang/CharSequence -/
def k4 : Class := { plain "java/lang/CharSequence" (some 0) with
  accessFlags := 1537
  interfaces := #[]
  cf := some (fileOf pool4 2 #[.nestMembers #[47, 59]] #[] 1537 66 #[] #[])
  fields := #[]
  methods := #[]
  instanceTypes := #[]
  staticTypes := #[]
  resolved := Array.replicate 131 none
  statics := none }

def pool5 : Array CpInfo := pool [(1, .class_ 2), (0, u "java/lang/constant/Constable"), (0, .class_ 4), (0, u "java/lang/Object")] 6

/-- java/lang/constant/Constable -/
def k5 : Class := { plain "java/lang/constant/Constable" (some 0) with
  accessFlags := 1537
  interfaces := #[]
  cf := some (fileOf pool5 1 #[] #[] 1537 3 #[] #[])
  fields := #[]
  methods := #[]
  instanceTypes := #[]
  staticTypes := #[]
  resolved := Array.replicate 11 none
  statics := none }

def pool6 : Array CpInfo := pool [(1, .class_ 2), (0, u "java/lang/constant/ConstantDesc"), (0, .class_ 4), (0, u "java/lang/Object")] 32

/-- java/lang/constant/ConstantDesc -/
def k6 : Class := { plain "java/lang/constant/ConstantDesc" (some 0) with
  accessFlags := 1537
  interfaces := #[]
  cf := some (fileOf pool6 1 #[] #[] 1537 3 #[] #[])
  fields := #[]
  methods := #[]
  instanceTypes := #[]
  staticTypes := #[]
  resolved := Array.replicate 37 none
  statics := none }

def pool7 : Array CpInfo := pool [(1, .methodref 2 3), (0, .class_ 4), (0, .nameAndType 5 6), (0, u "java/lang/Object"), (0, u "<init>"), (0, u "()V"), (2, .fieldref 10 11), (0, .class_ 12), (0, .nameAndType 13 14), (0, u "java/lang/String"), (0, u "value"), (0, u "[B"), (0, .fieldref 10 16), (0, .nameAndType 17 18), (0, u "coder"), (0, u "B"), (2, u "hash"), (0, u "I"), (2, u "hashIsZero"), (0, u "Z"), (0, .methodref 10 28), (0, .nameAndType 5 29), (0, u "([CIILjava/lang/Void;)V"), (8, .fieldref 10 39), (0, .nameAndType 40 26), (0, u "COMPACT_STRINGS"), (1, .class_ 44), (1, u "java/lang/StringUTF16"), (0, u "compress"), (1, .methodref 42 48), (0, .nameAndType 49 50), (0, u "coderFromArrayLen"), (0, u "([BI)B"), (56, .class_ 109), (1, u "java/lang/StringLatin1"), (32, u "()Z"), (34, .methodref 42 178), (0, .nameAndType 45 179), (0, u "([CII)[B"), (183, u "([BI)C"), (27, u "(II)V"), (35, u "(I)C"), (64, .methodref 10 493), (0, .nameAndType 494 142), (0, u "isLatin1"), (0, .methodref 107 496), (0, .nameAndType 497 363), (0, u "charAt"), (3, u "checkIndex"), (73, .class_ 576), (0, u "java/lang/CharSequence"), (22, u "CASE_INSENSITIVE_ORDER"), (0, u "Ljava/util/Comparator;"), (409, u "([C)V"), (42, .fieldref 1054 1055), (0, .class_ 1056), (0, .nameAndType 1057 1058), (0, u "jdk/internal/util/Preconditions"), (0, u "SIOOBE_FORMATTER"), (0, u "Ljava/util/function/BiFunction;"), (0, .methodref 1054 1060), (0, .nameAndType 501 1061), (0, u "(IILjava/util/function/BiFunction;)I"), (39, u "serialPersistentFields"), (0, u "[Ljava/io/ObjectStreamField;"), (0, .class_ 1104), (0, u "java/lang/String$CaseInsensitiveComparator"), (1, .class_ 1107), (0, u "java/io/Serializable"), (0, .class_ 1109), (0, u "java/lang/Comparable"), (0, .class_ 1111), (0, u "java/lang/constant/Constable"), (0, .class_ 1113), (0, u "java/lang/constant/ConstantDesc"), (2, u "serialVersionUID"), (0, u "J"), (3, u "REPL"), (0, u "C"), (2, u "LATIN1"), (1, u "UTF16")] 323

def k7m0 : Method := { name := "<init>", desc := "()V", sig := { parameters := [], returnType := none }, accessFlags := 1, code := none }
def k7c1 : Code := { maxStack := 5, maxLocals := 2, code := jdk_42_method_3_code, exceptionTable := #[], attributes := #[] }
def k7m1 : Method := { name := "<init>", desc := "([C)V", sig := { parameters := [(.array .char)], returnType := none }, accessFlags := 1, code := some k7c1 }
def k7c2 : Code := { maxStack := 2, maxLocals := 2, code := jdk_42_method_56_code, exceptionTable := #[], attributes := #[] }
def k7m2 : Method := { name := "charAt", desc := "(I)C", sig := { parameters := [.int], returnType := some .char }, accessFlags := 1, code := some k7c2 }
def k7c3 : Code := { maxStack := 4, maxLocals := 6, code := jdk_42_method_149_code, exceptionTable := #[], attributes := #[] }
def k7m3 : Method := { name := "<init>", desc := "([CIILjava/lang/Void;)V", sig := { parameters := [(.array .char), .int, .int, (.object "java/lang/Void")], returnType := none }, accessFlags := 2, code := some k7c3 }
def k7c4 : Code := { maxStack := 1, maxLocals := 1, code := jdk_42_method_154_code, exceptionTable := #[], attributes := #[] }
def k7m4 : Method := { name := "isLatin1", desc := "()Z", sig := { parameters := [], returnType := some .boolean }, accessFlags := 0, code := some k7c4 }
def k7c5 : Code := { maxStack := 3, maxLocals := 2, code := jdk_42_method_155_code, exceptionTable := #[], attributes := #[] }
def k7m5 : Method := { name := "checkIndex", desc := "(II)V", sig := { parameters := [.int, .int], returnType := none }, accessFlags := 8, code := some k7c5 }
/-- java/lang/String -/
def k7 : Class := { plain "java/lang/String" (some 0) with
  accessFlags := 49
  interfaces := #[2, 3, 4, 5, 6]
  cf := some (fileOf pool7 10 #[.nestMembers #[1103]] #[{ accessFlags := 1, nameIndex := 5, descriptorIndex := 6, attributes := #[] }, { accessFlags := 1, nameIndex := 5, descriptorIndex := 1010, attributes := #[] }, { accessFlags := 1, nameIndex := 497, descriptorIndex := 427, attributes := #[] }, { accessFlags := 2, nameIndex := 5, descriptorIndex := 29, attributes := #[] }, { accessFlags := 0, nameIndex := 494, descriptorIndex := 142, attributes := #[] }, { accessFlags := 8, nameIndex := 501, descriptorIndex := 391, attributes := #[] }] 49 2 #[1106, 1108, 575, 1110, 1112] #[{ accessFlags := 18, nameIndex := 13, descriptorIndex := 14, attributes := #[] }, { accessFlags := 18, nameIndex := 17, descriptorIndex := 18, attributes := #[] }, { accessFlags := 2, nameIndex := 21, descriptorIndex := 22, attributes := #[] }, { accessFlags := 2, nameIndex := 25, descriptorIndex := 26, attributes := #[] }, { accessFlags := 26, nameIndex := 1116, descriptorIndex := 1117, attributes := #[] }, { accessFlags := 24, nameIndex := 40, descriptorIndex := 26, attributes := #[] }, { accessFlags := 26, nameIndex := 1101, descriptorIndex := 1102, attributes := #[] }, { accessFlags := 26, nameIndex := 1121, descriptorIndex := 1122, attributes := #[] }, { accessFlags := 25, nameIndex := 599, descriptorIndex := 600, attributes := #[] }, { accessFlags := 24, nameIndex := 1125, descriptorIndex := 18, attributes := #[] }, { accessFlags := 24, nameIndex := 1127, descriptorIndex := 18, attributes := #[] }])
  fields := #[{ name := "value", type := (.array .byte), accessFlags := 18, slot := 0, constantValue := 0 }, { name := "coder", type := .byte, accessFlags := 18, slot := 1, constantValue := 0 }, { name := "hash", type := .int, accessFlags := 2, slot := 2, constantValue := 0 }, { name := "hashIsZero", type := .boolean, accessFlags := 2, slot := 3, constantValue := 0 }, { name := "serialVersionUID", type := .long, accessFlags := 26, slot := 0, constantValue := 0 }, { name := "COMPACT_STRINGS", type := .boolean, accessFlags := 24, slot := 1, constantValue := 0 }, { name := "serialPersistentFields", type := (.array (.object "java/io/ObjectStreamField")), accessFlags := 26, slot := 2, constantValue := 0 }, { name := "REPL", type := .char, accessFlags := 26, slot := 3, constantValue := 0 }, { name := "CASE_INSENSITIVE_ORDER", type := (.object "java/util/Comparator"), accessFlags := 25, slot := 4, constantValue := 0 }, { name := "LATIN1", type := .byte, accessFlags := 24, slot := 5, constantValue := 0 }, { name := "UTF16", type := .byte, accessFlags := 24, slot := 6, constantValue := 0 }]
  methods := #[k7m0, k7m1, k7m2, k7m3, k7m4, k7m5]
  instanceTypes := #[(.array .byte), .byte, .int, .boolean]
  staticTypes := #[.long, .boolean, (.array (.object "java/io/ObjectStreamField")), .char, (.object "java/util/Comparator"), .byte, .byte]
  resolved := Array.replicate 1451 none
  statics := some 0 }

def pool8 : Array CpInfo := pool [(6, .class_ 8), (1, u "java/lang/Object"), (0, u "<init>"), (0, u "()V"), (1, .class_ 14), (1, u "java/lang/StringUTF16"), (31, u "$assertionsDisabled"), (0, u "Z"), (13, u "HI_BYTE_SHIFT"), (0, u "I"), (2, u "LO_BYTE_SHIFT"), (49, .methodref 12 116), (0, .nameAndType 117 118), (0, u "compress"), (0, u "([CI[BII)I"), (3, u "([CII)[B"), (138, u "coderFromArrayLen"), (0, u "([BI)B"), (106, .class_ 371), (1, u "java/lang/StringUTF16$LinesSpliterator"), (58, u "MAX_LENGTH"), (196, .class_ 628), (0, u "java/lang/StringUTF16$CodePointsSpliterator"), (0, .class_ 630), (0, u "java/lang/StringUTF16$CharsSpliterator")] 4

def k8m0 : Method := { name := "<init>", desc := "()V", sig := { parameters := [], returnType := none }, accessFlags := 0, code := none }
def k8c1 : Code := { maxStack := 2, maxLocals := 2, code := jdk_52_method_15_code, exceptionTable := #[], attributes := #[] }
def k8m1 : Method := { name := "coderFromArrayLen", desc := "([BI)B", sig := { parameters := [(.array .byte), .int], returnType := some .byte }, accessFlags := 8, code := some k8c1 }
def k8c2 : Code := { maxStack := 5, maxLocals := 6, code := jdk_52_method_16_code, exceptionTable := #[], attributes := #[] }
def k8m2 : Method := { name := "compress", desc := "([CII)[B", sig := { parameters := [(.array .char), .int, .int], returnType := some (.array .byte) }, accessFlags := 9, code := some k8c2 }
def k8c3 : Code := { maxStack := 3, maxLocals := 7, code := jdk_52_method_21_code, exceptionTable := #[], attributes := #[] }
def k8m3 : Method := { name := "compress", desc := "([CI[BII)I", sig := { parameters := [(.array .char), .int, (.array .byte), .int, .int], returnType := some .int }, accessFlags := 9, code := some k8c3 }
/-- java/lang/StringUTF16 -/
def k8 : Class := { plain "java/lang/StringUTF16" (some 0) with
  accessFlags := 48
  interfaces := #[]
  cf := some (fileOf pool8 12 #[.nestMembers #[627, 629, 369]] #[{ accessFlags := 0, nameIndex := 9, descriptorIndex := 10, attributes := #[] }, { accessFlags := 8, nameIndex := 261, descriptorIndex := 262, attributes := #[] }, { accessFlags := 9, nameIndex := 117, descriptorIndex := 122, attributes := #[] }, { accessFlags := 9, nameIndex := 117, descriptorIndex := 118, attributes := #[] }] 48 6 #[] #[{ accessFlags := 26, nameIndex := 61, descriptorIndex := 62, attributes := #[] }, { accessFlags := 26, nameIndex := 65, descriptorIndex := 62, attributes := #[] }, { accessFlags := 24, nameIndex := 430, descriptorIndex := 62, attributes := #[] }, { accessFlags := 4120, nameIndex := 46, descriptorIndex := 47, attributes := #[] }])
  fields := #[{ name := "HI_BYTE_SHIFT", type := .int, accessFlags := 26, slot := 0, constantValue := 0 }, { name := "LO_BYTE_SHIFT", type := .int, accessFlags := 26, slot := 1, constantValue := 0 }, { name := "MAX_LENGTH", type := .int, accessFlags := 24, slot := 2, constantValue := 0 }, { name := "$assertionsDisabled", type := .boolean, accessFlags := 4120, slot := 3, constantValue := 0 }]
  methods := #[k8m0, k8m1, k8m2, k8m3]
  instanceTypes := #[]
  staticTypes := #[.int, .int, .int, .boolean]
  resolved := Array.replicate 635 none
  statics := none }

def pool9 : Array CpInfo := pool [(1, .class_ 2), (0, u "com/example/paniere/paniere/CompactDecimal"), (0, .methodref 4 5), (0, .class_ 6), (0, .nameAndType 7 8), (0, u "java/lang/Object"), (0, u "<init>"), (0, u "()V"), (0, .fieldref 10 11), (0, .class_ 12), (0, .nameAndType 13 14), (0, u "com/example/paniere/paniere/CompactDecimal$Digits"), (0, u "high"), (0, u "J"), (0, .fieldref 10 16), (0, .nameAndType 17 14), (0, u "low"), (0, .fieldref 10 19), (0, .nameAndType 20 21), (0, u "scale"), (0, u "I"), (0, .fieldref 10 23), (0, .nameAndType 24 21), (0, u "significant"), (0, .methodref 26 27), (0, .class_ 28), (0, .nameAndType 29 30), (0, u "java/lang/String"), (0, u "charAt"), (0, u "(I)C"), (0, .methodref 10 32), (0, .nameAndType 33 34), (0, u "appendDigit"), (0, u "(I)V"), (10, .long 100000000000000000), (1, .long 10), (8, u "ONE_LONG_BOUND"), (3, u "read"), (0, u "(Ljava/lang/String;II)V"), (1, u "isZero"), (0, u "()Z")] 10

def k9c0 : Code := { maxStack := 1, maxLocals := 1, code := prog_7_method_1_code, exceptionTable := #[], attributes := #[] }
def k9m0 : Method := { name := "<init>", desc := "()V", sig := { parameters := [], returnType := none }, accessFlags := 0, code := some k9c0 }
def k9c1 : Code := { maxStack := 3, maxLocals := 6, code := prog_7_method_2_code, exceptionTable := #[], attributes := #[] }
def k9m1 : Method := { name := "read", desc := "(Ljava/lang/String;II)V", sig := { parameters := [(.object "java/lang/String"), .int, .int], returnType := none }, accessFlags := 0, code := some k9c1 }
def k9c2 : Code := { maxStack := 1, maxLocals := 1, code := prog_7_method_3_code, exceptionTable := #[], attributes := #[] }
def k9m2 : Method := { name := "isZero", desc := "()Z", sig := { parameters := [], returnType := some .boolean }, accessFlags := 0, code := some k9c2 }
def k9c3 : Code := { maxStack := 7, maxLocals := 4, code := prog_7_method_10_code, exceptionTable := #[], attributes := #[] }
def k9m3 : Method := { name := "appendDigit", desc := "(I)V", sig := { parameters := [.int], returnType := none }, accessFlags := 2, code := some k9c3 }
/-- com/example/paniere/paniere/CompactDecimal$Digits -/
def k9 : Class := { plain "com/example/paniere/paniere/CompactDecimal$Digits" (some 0) with
  accessFlags := 48
  interfaces := #[]
  cf := some (fileOf pool9 10 #[.nestHost 1] #[{ accessFlags := 0, nameIndex := 7, descriptorIndex := 8, attributes := #[] }, { accessFlags := 0, nameIndex := 60, descriptorIndex := 61, attributes := #[] }, { accessFlags := 0, nameIndex := 63, descriptorIndex := 64, attributes := #[] }, { accessFlags := 2, nameIndex := 33, descriptorIndex := 34, attributes := #[] }] 48 4 #[] #[{ accessFlags := 26, nameIndex := 56, descriptorIndex := 14, attributes := #[] }, { accessFlags := 2, nameIndex := 13, descriptorIndex := 14, attributes := #[] }, { accessFlags := 2, nameIndex := 17, descriptorIndex := 14, attributes := #[] }, { accessFlags := 2, nameIndex := 20, descriptorIndex := 21, attributes := #[] }, { accessFlags := 2, nameIndex := 24, descriptorIndex := 21, attributes := #[] }])
  fields := #[{ name := "ONE_LONG_BOUND", type := .long, accessFlags := 26, slot := 0, constantValue := 0 }, { name := "high", type := .long, accessFlags := 2, slot := 0, constantValue := 0 }, { name := "low", type := .long, accessFlags := 2, slot := 1, constantValue := 0 }, { name := "scale", type := .int, accessFlags := 2, slot := 2, constantValue := 0 }, { name := "significant", type := .int, accessFlags := 2, slot := 3, constantValue := 0 }]
  methods := #[k9m0, k9m1, k9m2, k9m3]
  instanceTypes := #[.long, .long, .int, .int]
  staticTypes := #[.long]
  resolved := Array.replicate 75 none
  statics := none }

def pool10 : Array CpInfo := pool [(1, .class_ 2), (0, u "java/lang/String"), (1, .class_ 6), (1, u "java/lang/Object"), (0, u "<init>"), (0, u "()V"), (0, .methodref 1 10), (0, .nameAndType 11 12), (0, u "checkIndex"), (0, u "(II)V"), (1, .class_ 16), (1, u "java/lang/StringLatin1"), (36, u "([BI)C"), (67, u "$assertionsDisabled"), (0, u "Z"), (98, .class_ 223), (1, u "java/lang/StringLatin1$LinesSpliterator"), (28, u "charAt"), (137, .class_ 391), (0, u "java/lang/StringLatin1$CharsSpliterator")] 3

def k10m0 : Method := { name := "<init>", desc := "()V", sig := { parameters := [], returnType := none }, accessFlags := 0, code := none }
def k10c1 : Code := { maxStack := 2, maxLocals := 2, code := jdk_43_method_2_code, exceptionTable := #[], attributes := #[] }
def k10m1 : Method := { name := "charAt", desc := "([BI)C", sig := { parameters := [(.array .byte), .int], returnType := some .char }, accessFlags := 9, code := some k10c1 }
/-- java/lang/StringLatin1 -/
def k10 : Class := { plain "java/lang/StringLatin1" (some 0) with
  accessFlags := 48
  interfaces := #[]
  cf := some (fileOf pool10 14 #[.nestMembers #[390, 221]] #[{ accessFlags := 0, nameIndex := 7, descriptorIndex := 8, attributes := #[] }, { accessFlags := 9, nameIndex := 252, descriptorIndex := 53, attributes := #[] }] 48 4 #[] #[{ accessFlags := 4120, nameIndex := 121, descriptorIndex := 122, attributes := #[] }])
  fields := #[{ name := "$assertionsDisabled", type := .boolean, accessFlags := 4120, slot := 0, constantValue := 0 }]
  methods := #[k10m0, k10m1]
  instanceTypes := #[]
  staticTypes := #[.boolean]
  resolved := Array.replicate 395 none
  statics := none }

def pool11 : Array CpInfo := pool [(2, .class_ 4), (1, u "java/lang/Object"), (0, u "<init>"), (0, u "()V"), (17, .class_ 26), (1, u "jdk/internal/util/Preconditions"), (6, u "checkIndex"), (21, .class_ 56), (0, u "jdk/internal/util/Preconditions$4"), (57, .class_ 115), (0, u "jdk/internal/util/Preconditions$1"), (7, u "SIOOBE_FORMATTER"), (0, u "Ljava/util/function/BiFunction;"), (0, .class_ 126), (0, u "jdk/internal/util/Preconditions$2"), (3, u "AIOOBE_FORMATTER"), (0, .class_ 132), (0, u "jdk/internal/util/Preconditions$3"), (3, u "IOOBE_FORMATTER"), (41, u "(IILjava/util/function/BiFunction;)I")] 15

def k11m0 : Method := { name := "<init>", desc := "()V", sig := { parameters := [], returnType := none }, accessFlags := 1, code := none }
def k11c1 : Code := { maxStack := 3, maxLocals := 3, code := jdk_41_method_11_code, exceptionTable := #[], attributes := #[] }
def k11m1 : Method := { name := "checkIndex", desc := "(IILjava/util/function/BiFunction;)I", sig := { parameters := [.int, .int, (.object "java/util/function/BiFunction")], returnType := some .int }, accessFlags := 9, code := some k11c1 }
/-- jdk/internal/util/Preconditions -/
def k11 : Class := { plain "jdk/internal/util/Preconditions" (some 0) with
  accessFlags := 33
  interfaces := #[]
  cf := some (fileOf pool11 24 #[.nestMembers #[55, 131, 125, 114]] #[{ accessFlags := 1, nameIndex := 5, descriptorIndex := 6, attributes := #[] }, { accessFlags := 9, nameIndex := 33, descriptorIndex := 178, attributes := #[] }] 33 2 #[] #[{ accessFlags := 25, nameIndex := 123, descriptorIndex := 124, attributes := #[] }, { accessFlags := 25, nameIndex := 130, descriptorIndex := 124, attributes := #[] }, { accessFlags := 25, nameIndex := 136, descriptorIndex := 124, attributes := #[] }])
  fields := #[{ name := "SIOOBE_FORMATTER", type := (.object "java/util/function/BiFunction"), accessFlags := 25, slot := 0, constantValue := 0 }, { name := "AIOOBE_FORMATTER", type := (.object "java/util/function/BiFunction"), accessFlags := 25, slot := 1, constantValue := 0 }, { name := "IOOBE_FORMATTER", type := (.object "java/util/function/BiFunction"), accessFlags := 25, slot := 2, constantValue := 0 }]
  methods := #[k11m0, k11m1]
  instanceTypes := #[]
  staticTypes := #[(.object "java/util/function/BiFunction"), (.object "java/util/function/BiFunction"), (.object "java/util/function/BiFunction")]
  resolved := Array.replicate 194 none
  statics := some 1 }

def pool12 : Array CpInfo := pool [(9, u "<init>"), (6, .class_ 18), (1, u "java/lang/Object"), (0, u "()V"), (1, .class_ 23), (1, u "jdk/internal/util/ArraysSupport"), (0, u "LOG2_ARRAY_LONG_INDEX_SCALE"), (0, u "I"), (2, u "U"), (0, u "Ljdk/internal/misc/Unsafe;"), (8, u "BIG_ENDIAN"), (0, u "Z"), (8, u "LOG2_BYTE_BIT_SIZE"), (4, u "LOG2_ARRAY_INT_INDEX_SCALE"), (54, u "JLA"), (0, u "Ljdk/internal/access/JavaLangAccess;"), (11, u "LOG2_ARRAY_BOOLEAN_INDEX_SCALE"), (9, u "LOG2_ARRAY_BYTE_INDEX_SCALE"), (5, u "LOG2_ARRAY_CHAR_INDEX_SCALE"), (5, u "LOG2_ARRAY_SHORT_INDEX_SCALE"), (18, u "LOG2_ARRAY_FLOAT_INDEX_SCALE"), (24, u "LOG2_ARRAY_DOUBLE_INDEX_SCALE"), (89, u "T_BOOLEAN"), (2, u "T_CHAR"), (1, u "T_FLOAT"), (1, u "T_DOUBLE"), (1, u "T_BYTE"), (1, u "T_SHORT"), (1, u "T_INT"), (1, u "T_LONG"), (1, u "SOFT_MAX_ARRAY_LENGTH")] 83

def k12m0 : Method := { name := "<init>", desc := "()V", sig := { parameters := [], returnType := none }, accessFlags := 2, code := none }
/-- jdk/internal/util/ArraysSupport -/
def k12 : Class := { plain "jdk/internal/util/ArraysSupport" (some 0) with
  accessFlags := 33
  interfaces := #[]
  cf := some (fileOf pool12 21 #[] #[{ accessFlags := 2, nameIndex := 9, descriptorIndex := 19, attributes := #[] }] 33 16 #[] #[{ accessFlags := 24, nameIndex := 28, descriptorIndex := 29, attributes := #[] }, { accessFlags := 26, nameIndex := 38, descriptorIndex := 39, attributes := #[] }, { accessFlags := 25, nameIndex := 121, descriptorIndex := 25, attributes := #[] }, { accessFlags := 25, nameIndex := 131, descriptorIndex := 25, attributes := #[] }, { accessFlags := 25, nameIndex := 137, descriptorIndex := 25, attributes := #[] }, { accessFlags := 25, nameIndex := 143, descriptorIndex := 25, attributes := #[] }, { accessFlags := 25, nameIndex := 53, descriptorIndex := 25, attributes := #[] }, { accessFlags := 25, nameIndex := 24, descriptorIndex := 25, attributes := #[] }, { accessFlags := 25, nameIndex := 162, descriptorIndex := 25, attributes := #[] }, { accessFlags := 25, nameIndex := 187, descriptorIndex := 25, attributes := #[] }, { accessFlags := 26, nameIndex := 48, descriptorIndex := 25, attributes := #[] }, { accessFlags := 25, nameIndex := 277, descriptorIndex := 25, attributes := #[] }, { accessFlags := 25, nameIndex := 280, descriptorIndex := 25, attributes := #[] }, { accessFlags := 25, nameIndex := 282, descriptorIndex := 25, attributes := #[] }, { accessFlags := 25, nameIndex := 284, descriptorIndex := 25, attributes := #[] }, { accessFlags := 25, nameIndex := 286, descriptorIndex := 25, attributes := #[] }, { accessFlags := 25, nameIndex := 288, descriptorIndex := 25, attributes := #[] }, { accessFlags := 25, nameIndex := 290, descriptorIndex := 25, attributes := #[] }, { accessFlags := 25, nameIndex := 292, descriptorIndex := 25, attributes := #[] }, { accessFlags := 26, nameIndex := 108, descriptorIndex := 109, attributes := #[] }, { accessFlags := 25, nameIndex := 294, descriptorIndex := 25, attributes := #[] }])
  fields := #[{ name := "U", type := (.object "jdk/internal/misc/Unsafe"), accessFlags := 24, slot := 0, constantValue := 0 }, { name := "BIG_ENDIAN", type := .boolean, accessFlags := 26, slot := 1, constantValue := 0 }, { name := "LOG2_ARRAY_BOOLEAN_INDEX_SCALE", type := .int, accessFlags := 25, slot := 2, constantValue := 0 }, { name := "LOG2_ARRAY_BYTE_INDEX_SCALE", type := .int, accessFlags := 25, slot := 3, constantValue := 0 }, { name := "LOG2_ARRAY_CHAR_INDEX_SCALE", type := .int, accessFlags := 25, slot := 4, constantValue := 0 }, { name := "LOG2_ARRAY_SHORT_INDEX_SCALE", type := .int, accessFlags := 25, slot := 5, constantValue := 0 }, { name := "LOG2_ARRAY_INT_INDEX_SCALE", type := .int, accessFlags := 25, slot := 6, constantValue := 0 }, { name := "LOG2_ARRAY_LONG_INDEX_SCALE", type := .int, accessFlags := 25, slot := 7, constantValue := 0 }, { name := "LOG2_ARRAY_FLOAT_INDEX_SCALE", type := .int, accessFlags := 25, slot := 8, constantValue := 0 }, { name := "LOG2_ARRAY_DOUBLE_INDEX_SCALE", type := .int, accessFlags := 25, slot := 9, constantValue := 0 }, { name := "LOG2_BYTE_BIT_SIZE", type := .int, accessFlags := 26, slot := 10, constantValue := 0 }, { name := "T_BOOLEAN", type := .int, accessFlags := 25, slot := 11, constantValue := 0 }, { name := "T_CHAR", type := .int, accessFlags := 25, slot := 12, constantValue := 0 }, { name := "T_FLOAT", type := .int, accessFlags := 25, slot := 13, constantValue := 0 }, { name := "T_DOUBLE", type := .int, accessFlags := 25, slot := 14, constantValue := 0 }, { name := "T_BYTE", type := .int, accessFlags := 25, slot := 15, constantValue := 0 }, { name := "T_SHORT", type := .int, accessFlags := 25, slot := 16, constantValue := 0 }, { name := "T_INT", type := .int, accessFlags := 25, slot := 17, constantValue := 0 }, { name := "T_LONG", type := .int, accessFlags := 25, slot := 18, constantValue := 0 }, { name := "JLA", type := (.object "jdk/internal/access/JavaLangAccess"), accessFlags := 26, slot := 19, constantValue := 0 }, { name := "SOFT_MAX_ARRAY_LENGTH", type := .int, accessFlags := 25, slot := 20, constantValue := 0 }]
  methods := #[k12m0]
  instanceTypes := #[]
  staticTypes := #[(.object "jdk/internal/misc/Unsafe"), .boolean, .int, .int, .int, .int, .int, .int, .int, .int, .int, .int, .int, .int, .int, .int, .int, .int, .int, (.object "jdk/internal/access/JavaLangAccess"), .int]
  resolved := Array.replicate 378 none
  statics := none }

def pool13 : Array CpInfo := pool [(1, u "java/lang/Cloneable"), (0, .class_ 1), (0, u "java/lang/Object"), (0, .class_ 3)] 3

/-- java/lang/Cloneable -/
def k13 : Class := { plain "java/lang/Cloneable" (some 0) with
  accessFlags := 1537
  interfaces := #[]
  cf := some (fileOf pool13 2 #[] #[] 1537 4 #[] #[])
  fields := #[]
  methods := #[]
  instanceTypes := #[]
  staticTypes := #[]
  resolved := Array.replicate 8 none
  statics := none }

/-- the primitive byte -/
def k14 : Class := { plain "byte" none with kind := .primitive 'B', accessFlags := 0x411 }
/-- [B -/
def k15 : Class := { plain "[B" (some 0) with kind := .array 14 .byte, interfaces := #[13, 2], accessFlags := 1041 }

/-- the primitive char -/
def k16 : Class := { plain "char" none with kind := .primitive 'C', accessFlags := 0x411 }
/-- [C -/
def k17 : Class := { plain "[C" (some 0) with kind := .array 16 .char, interfaces := #[13, 2], accessFlags := 1041 }

/-- the primitive int -/
def k18 : Class := { plain "int" none with kind := .primitive 'I', accessFlags := 0x411 }
/-- [I -/
def k19 : Class := { plain "[I" (some 0) with kind := .array 18 .int, interfaces := #[13, 2], accessFlags := 1041 }

def heap : Heap := #[{ cls := 7, slots := #[.long 0, .int 1, .null, .int 0, .null, .int 0, .int 0], vm := .statics 7 },
  { cls := 11, slots := #[.null, .null, .null], vm := .statics 11 }]
def classes : Array Class := #[k0, k1, k2, k3, k4, k5, k6, k7, k8, k9, k10, k11, k12, k13, k14, k15, k16, k17, k18, k19]
def interned : List (Array UInt16 × Addr) := []
def slotsUsed : Nat := 10
def theMethod : MethodId := ⟨1, 1⟩
def args0 : Array Value := #[.int 5, .int 7, .int 9, .int 4, .int 19, .int 3]
def aboutOver (below : List Frame) : State where
  vm := { classes := classes, interned := interned.toArray }
  heap := heap
  slotsUsed := slotsUsed
  threads := #[{ frames := .invoking theMethod args0 :: below }]
def below0 : List Frame := [.native { method := ⟨0, 0⟩, args := #[] }]
def about1 : State := aboutOver below0
def p0 : Program := .bare "" "" ""
def e0 : Env := launch0.env 0 0 0
theorem w_frames : about1.frames = Frame.invoking theMethod args0 :: below0 := rfl
set_option maxRecDepth 65536 in
theorem w_args : argsFit about1.vm theMethod args0 = true := by decide +kernel
set_option maxRecDepth 65536 in
theorem w_heap : heapFits about1 = true := by decide +kernel
set_option maxRecDepth 65536 in
theorem w_runnable : about1.curStatus? = some .runnable := by decide +kernel
set_option maxRecDepth 65536 in
theorem w_alone : about1.alone = true := by decide +kernel
set_option maxRecDepth 65536 in
theorem w_named : about1.methodNamed? x = some theMethod := by decide +kernel
set_option maxRecDepth 65536 in
theorem w_hears : about1.hears theMethod below0 = true := by decide +kernel
set_option maxRecDepth 65536 in
theorem w_ripe : about1.ripe theMethod args0 below0 = true := by decide +kernel
theorem w_running : about1.status = .running := rfl
set_option maxRecDepth 65536 in
theorem w_room : about1.hasRoom e0.platform room_1 = true :=
  launch0.hasRoom_least _ room_1 (by decide +kernel) (by decide +kernel) (by decide +kernel) (by decide +kernel) (by decide +kernel) (by decide +kernel)
theorem allAtoms_all (ts : List Jvm.Cond) (a : Array Jvm.Value) (st : Jvm.State) : (allAtoms ts).before a st = ts.all (fun c => c.before a st) := by
  induction ts with
  | nil => rfl
  | cons c t ih =>
    show (Jvm.Cond.and c (allAtoms t)).before a st = _
    rw [Jvm.Cond.before_and, ih, List.all_cons]
def words1 : List Jvm.Cond := Jvm.Cond.code x code maxLocals ret :: tables_1
/-- a 'code' word, met by the world's own term for the bytes: nothing is compared byte by byte -/
theorem code_word {y : MethodName} {bytes : ByteArray} {mx : Nat} {rt : Option FieldType} {a : Array Value} {s : State} {m : MethodId} {meth : Method} {c : Code} (h1 : s.methodNamed? y = some m) (h2 : s.vm.method? m = some meth) (h3 : meth.code = some c) (h4 : c.code = bytes)
    (h5 : (c.maxLocals == mx && c.exceptionTable.isEmpty && decide (c.maxStack ≤ mostOperands) && decide (meth.sig.returnType = rt) && !meth.locks && decide (parseMethodDescriptor y.desc = some meth.sig)) = true) : (Jvm.Cond.code y bytes mx rt).before a s = true := by
  simp only [Bool.and_eq_true, beq_iff_eq, Bool.not_eq_true', decide_eq_true_eq] at h5
  obtain ⟨⟨⟨⟨⟨g1, g2⟩, g3⟩, g4⟩, g5⟩, g6⟩ := h5
  simp [Cond.before, Cond.holds, Cond.value, h1, h2, h3, h4, g1, g2, g3, g4, g5, g6]
def isCode : Jvm.Cond → Bool
  | .code _ _ _ _ => true
  | _ => false
theorem all_split {L : List Jvm.Cond} {P : Jvm.Cond → Bool} (h1 : L.all (fun c => isCode c || P c) = true) (h2 : ∀ c ∈ L.filter isCode, P c = true) : L.all P = true := by
  refine List.all_eq_true.mpr fun c hc => ?_
  have h := List.all_eq_true.mp h1 c hc
  rcases Bool.eq_false_or_eq_true (isCode c) with hi | hi
  · exact h2 c (List.mem_filter.mpr ⟨hc, hi⟩)
  · simpa [hi] using h
set_option maxRecDepth 65536 in
theorem w_c0 : (Jvm.Cond.code x code maxLocals ret).before args0 about1 = true := code_word (m := ⟨1, 1⟩) (meth := k1m1) (c := k1c1) (by decide +kernel) rfl rfl rfl (by decide +kernel)
set_option maxRecDepth 65536 in
theorem w_c1 : (Jvm.Cond.code ({ cls := "com/example/paniere/paniere/DigitsIsZeroPinLaw", name := "digit", desc := "(I)C" } : Jvm.MethodName) method_3_code (1 : Nat) (Option.some Jvm.ClassFile.FieldType.char)).before args0 about1 = true := code_word (m := ⟨1, 2⟩) (meth := k1m2) (c := k1c2) (by decide +kernel) rfl rfl rfl (by decide +kernel)
set_option maxRecDepth 65536 in
theorem w_c2 : (Jvm.Cond.code ({ cls := "java/lang/String", name := "<init>", desc := "([C)V" } : Jvm.MethodName) jdk_42_method_3_code (2 : Nat) (Option.none : Option Jvm.ClassFile.FieldType)).before args0 about1 = true := code_word (m := ⟨7, 1⟩) (meth := k7m1) (c := k7c1) (by decide +kernel) rfl rfl rfl (by decide +kernel)
set_option maxRecDepth 65536 in
theorem w_c3 : (Jvm.Cond.code ({ cls := "java/lang/String", name := "<init>", desc := "([CIILjava/lang/Void;)V" } : Jvm.MethodName) jdk_42_method_149_code (6 : Nat) (Option.none : Option Jvm.ClassFile.FieldType)).before args0 about1 = true := code_word (m := ⟨7, 3⟩) (meth := k7m3) (c := k7c3) (by decide +kernel) rfl rfl rfl (by decide +kernel)
set_option maxRecDepth 65536 in
theorem w_c4 : (Jvm.Cond.code ({ cls := "java/lang/Object", name := "<init>", desc := "()V" } : Jvm.MethodName) object_method_1_code (1 : Nat) (Option.none : Option Jvm.ClassFile.FieldType)).before args0 about1 = true := code_word (m := ⟨0, 0⟩) (meth := k0m0) (c := k0c0) (by decide +kernel) rfl rfl rfl (by decide +kernel)
set_option maxRecDepth 65536 in
theorem w_c5 : (Jvm.Cond.code ({ cls := "java/lang/StringUTF16", name := "compress", desc := "([CII)[B" } : Jvm.MethodName) jdk_52_method_16_code (6 : Nat) (Option.some (Jvm.ClassFile.FieldType.array Jvm.ClassFile.FieldType.byte))).before args0 about1 = true := code_word (m := ⟨8, 2⟩) (meth := k8m2) (c := k8c2) (by decide +kernel) rfl rfl rfl (by decide +kernel)
set_option maxRecDepth 65536 in
theorem w_c6 : (Jvm.Cond.code ({ cls := "java/lang/StringUTF16", name := "compress", desc := "([CI[BII)I" } : Jvm.MethodName) jdk_52_method_21_code (7 : Nat) (Option.some Jvm.ClassFile.FieldType.int)).before args0 about1 = true := code_word (m := ⟨8, 3⟩) (meth := k8m3) (c := k8c3) (by decide +kernel) rfl rfl rfl (by decide +kernel)
set_option maxRecDepth 65536 in
theorem w_c7 : (Jvm.Cond.code ({ cls := "java/lang/StringUTF16", name := "coderFromArrayLen", desc := "([BI)B" } : Jvm.MethodName) jdk_52_method_15_code (2 : Nat) (Option.some Jvm.ClassFile.FieldType.byte)).before args0 about1 = true := code_word (m := ⟨8, 1⟩) (meth := k8m1) (c := k8c1) (by decide +kernel) rfl rfl rfl (by decide +kernel)
set_option maxRecDepth 65536 in
theorem w_c8 : (Jvm.Cond.code ({ cls := "com/example/paniere/paniere/CompactDecimal$Digits", name := "<init>", desc := "()V" } : Jvm.MethodName) prog_7_method_1_code (1 : Nat) (Option.none : Option Jvm.ClassFile.FieldType)).before args0 about1 = true := code_word (m := ⟨9, 0⟩) (meth := k9m0) (c := k9c0) (by decide +kernel) rfl rfl rfl (by decide +kernel)
set_option maxRecDepth 65536 in
theorem w_c9 : (Jvm.Cond.code ({ cls := "com/example/paniere/paniere/CompactDecimal$Digits", name := "read", desc := "(Ljava/lang/String;II)V" } : Jvm.MethodName) prog_7_method_2_code (6 : Nat) (Option.none : Option Jvm.ClassFile.FieldType)).before args0 about1 = true := code_word (m := ⟨9, 1⟩) (meth := k9m1) (c := k9c1) (by decide +kernel) rfl rfl rfl (by decide +kernel)
set_option maxRecDepth 65536 in
theorem w_c10 : (Jvm.Cond.code ({ cls := "com/example/paniere/paniere/CompactDecimal$Digits", name := "isZero", desc := "()Z" } : Jvm.MethodName) prog_7_method_3_code (1 : Nat) (Option.some Jvm.ClassFile.FieldType.boolean)).before args0 about1 = true := code_word (m := ⟨9, 2⟩) (meth := k9m2) (c := k9c2) (by decide +kernel) rfl rfl rfl (by decide +kernel)
set_option maxRecDepth 65536 in
theorem w_c11 : (Jvm.Cond.code ({ cls := "com/example/paniere/paniere/DigitsIsZeroPinLaw", name := "expected", desc := "([CI)Z" } : Jvm.MethodName) method_5_code (2 : Nat) (Option.some Jvm.ClassFile.FieldType.boolean)).before args0 about1 = true := code_word (m := ⟨1, 4⟩) (meth := k1m4) (c := k1c4) (by decide +kernel) rfl rfl rfl (by decide +kernel)
set_option maxRecDepth 65536 in
theorem w_c12 : (Jvm.Cond.code ({ cls := "java/lang/String", name := "charAt", desc := "(I)C" } : Jvm.MethodName) jdk_42_method_56_code (2 : Nat) (Option.some Jvm.ClassFile.FieldType.char)).before args0 about1 = true := code_word (m := ⟨7, 2⟩) (meth := k7m2) (c := k7c2) (by decide +kernel) rfl rfl rfl (by decide +kernel)
set_option maxRecDepth 65536 in
theorem w_c13 : (Jvm.Cond.code ({ cls := "java/lang/String", name := "isLatin1", desc := "()Z" } : Jvm.MethodName) jdk_42_method_154_code (1 : Nat) (Option.some Jvm.ClassFile.FieldType.boolean)).before args0 about1 = true := code_word (m := ⟨7, 4⟩) (meth := k7m4) (c := k7c4) (by decide +kernel) rfl rfl rfl (by decide +kernel)
set_option maxRecDepth 65536 in
theorem w_c14 : (Jvm.Cond.code ({ cls := "java/lang/StringLatin1", name := "charAt", desc := "([BI)C" } : Jvm.MethodName) jdk_43_method_2_code (2 : Nat) (Option.some Jvm.ClassFile.FieldType.char)).before args0 about1 = true := code_word (m := ⟨10, 1⟩) (meth := k10m1) (c := k10c1) (by decide +kernel) rfl rfl rfl (by decide +kernel)
set_option maxRecDepth 65536 in
theorem w_c15 : (Jvm.Cond.code ({ cls := "java/lang/String", name := "checkIndex", desc := "(II)V" } : Jvm.MethodName) jdk_42_method_155_code (2 : Nat) (Option.none : Option Jvm.ClassFile.FieldType)).before args0 about1 = true := code_word (m := ⟨7, 5⟩) (meth := k7m5) (c := k7c5) (by decide +kernel) rfl rfl rfl (by decide +kernel)
set_option maxRecDepth 65536 in
theorem w_c16 : (Jvm.Cond.code ({ cls := "jdk/internal/util/Preconditions", name := "checkIndex", desc := "(IILjava/util/function/BiFunction;)I" } : Jvm.MethodName) jdk_41_method_11_code (3 : Nat) (Option.some Jvm.ClassFile.FieldType.int)).before args0 about1 = true := code_word (m := ⟨11, 1⟩) (meth := k11m1) (c := k11c1) (by decide +kernel) rfl rfl rfl (by decide +kernel)
set_option maxRecDepth 65536 in
theorem w_c17 : (Jvm.Cond.code ({ cls := "com/example/paniere/paniere/DigitsIsZeroPinLaw", name := "zeroish", desc := "(C)Z" } : Jvm.MethodName) method_4_code (1 : Nat) (Option.some Jvm.ClassFile.FieldType.boolean)).before args0 about1 = true := code_word (m := ⟨1, 3⟩) (meth := k1m3) (c := k1c3) (by decide +kernel) rfl rfl rfl (by decide +kernel)
set_option maxRecDepth 65536 in
theorem w_c18 : (Jvm.Cond.code ({ cls := "com/example/paniere/paniere/CompactDecimal$Digits", name := "appendDigit", desc := "(I)V" } : Jvm.MethodName) prog_7_method_10_code (4 : Nat) (Option.none : Option Jvm.ClassFile.FieldType)).before args0 about1 = true := code_word (m := ⟨9, 3⟩) (meth := k9m3) (c := k9c3) (by decide +kernel) rfl rfl rfl (by decide +kernel)
def codes1 : List Jvm.Cond := [Jvm.Cond.code x code maxLocals ret, Jvm.Cond.code ({ cls := "com/example/paniere/paniere/DigitsIsZeroPinLaw", name := "digit", desc := "(I)C" } : Jvm.MethodName) method_3_code (1 : Nat) (Option.some Jvm.ClassFile.FieldType.char), Jvm.Cond.code ({ cls := "java/lang/String", name := "<init>", desc := "([C)V" } : Jvm.MethodName) jdk_42_method_3_code (2 : Nat) (Option.none : Option Jvm.ClassFile.FieldType), Jvm.Cond.code ({ cls := "java/lang/String", name := "<init>", desc := "([CIILjava/lang/Void;)V" } : Jvm.MethodName) jdk_42_method_149_code (6 : Nat) (Option.none : Option Jvm.ClassFile.FieldType), Jvm.Cond.code ({ cls := "java/lang/Object", name := "<init>", desc := "()V" } : Jvm.MethodName) object_method_1_code (1 : Nat) (Option.none : Option Jvm.ClassFile.FieldType), Jvm.Cond.code ({ cls := "java/lang/StringUTF16", name := "compress", desc := "([CII)[B" } : Jvm.MethodName) jdk_52_method_16_code (6 : Nat) (Option.some (Jvm.ClassFile.FieldType.array Jvm.ClassFile.FieldType.byte)), Jvm.Cond.code ({ cls := "java/lang/StringUTF16", name := "compress", desc := "([CI[BII)I" } : Jvm.MethodName) jdk_52_method_21_code (7 : Nat) (Option.some Jvm.ClassFile.FieldType.int), Jvm.Cond.code ({ cls := "java/lang/StringUTF16", name := "coderFromArrayLen", desc := "([BI)B" } : Jvm.MethodName) jdk_52_method_15_code (2 : Nat) (Option.some Jvm.ClassFile.FieldType.byte), Jvm.Cond.code ({ cls := "com/example/paniere/paniere/CompactDecimal$Digits", name := "<init>", desc := "()V" } : Jvm.MethodName) prog_7_method_1_code (1 : Nat) (Option.none : Option Jvm.ClassFile.FieldType), Jvm.Cond.code ({ cls := "com/example/paniere/paniere/CompactDecimal$Digits", name := "read", desc := "(Ljava/lang/String;II)V" } : Jvm.MethodName) prog_7_method_2_code (6 : Nat) (Option.none : Option Jvm.ClassFile.FieldType), Jvm.Cond.code ({ cls := "com/example/paniere/paniere/CompactDecimal$Digits", name := "isZero", desc := "()Z" } : Jvm.MethodName) prog_7_method_3_code (1 : Nat) (Option.some Jvm.ClassFile.FieldType.boolean), Jvm.Cond.code ({ cls := "com/example/paniere/paniere/DigitsIsZeroPinLaw", name := "expected", desc := "([CI)Z" } : Jvm.MethodName) method_5_code (2 : Nat) (Option.some Jvm.ClassFile.FieldType.boolean), Jvm.Cond.code ({ cls := "java/lang/String", name := "charAt", desc := "(I)C" } : Jvm.MethodName) jdk_42_method_56_code (2 : Nat) (Option.some Jvm.ClassFile.FieldType.char), Jvm.Cond.code ({ cls := "java/lang/String", name := "isLatin1", desc := "()Z" } : Jvm.MethodName) jdk_42_method_154_code (1 : Nat) (Option.some Jvm.ClassFile.FieldType.boolean), Jvm.Cond.code ({ cls := "java/lang/StringLatin1", name := "charAt", desc := "([BI)C" } : Jvm.MethodName) jdk_43_method_2_code (2 : Nat) (Option.some Jvm.ClassFile.FieldType.char), Jvm.Cond.code ({ cls := "java/lang/String", name := "checkIndex", desc := "(II)V" } : Jvm.MethodName) jdk_42_method_155_code (2 : Nat) (Option.none : Option Jvm.ClassFile.FieldType), Jvm.Cond.code ({ cls := "jdk/internal/util/Preconditions", name := "checkIndex", desc := "(IILjava/util/function/BiFunction;)I" } : Jvm.MethodName) jdk_41_method_11_code (3 : Nat) (Option.some Jvm.ClassFile.FieldType.int), Jvm.Cond.code ({ cls := "com/example/paniere/paniere/DigitsIsZeroPinLaw", name := "zeroish", desc := "(C)Z" } : Jvm.MethodName) method_4_code (1 : Nat) (Option.some Jvm.ClassFile.FieldType.boolean), Jvm.Cond.code ({ cls := "com/example/paniere/paniere/CompactDecimal$Digits", name := "appendDigit", desc := "(I)V" } : Jvm.MethodName) prog_7_method_10_code (4 : Nat) (Option.none : Option Jvm.ClassFile.FieldType)]
set_option maxRecDepth 65536 in
theorem codes_eq : words1.filter isCode = codes1 := rfl
theorem w_codes : ∀ c ∈ words1.filter isCode, c.before args0 about1 = true := by
  rw [codes_eq]
  intro c hc
  simp only [codes1, List.mem_cons, List.not_mem_nil, or_false] at hc
  rcases hc with rfl | rfl | rfl | rfl | rfl | rfl | rfl | rfl | rfl | rfl | rfl | rfl | rfl | rfl | rfl | rfl | rfl | rfl | rfl
  · exact w_c0
  · exact w_c1
  · exact w_c2
  · exact w_c3
  · exact w_c4
  · exact w_c5
  · exact w_c6
  · exact w_c7
  · exact w_c8
  · exact w_c9
  · exact w_c10
  · exact w_c11
  · exact w_c12
  · exact w_c13
  · exact w_c14
  · exact w_c15
  · exact w_c16
  · exact w_c17
  · exact w_c18
set_option maxRecDepth 65536 in
theorem w_t1 : (words1.take 24).all (fun c => isCode c || c.before args0 about1) = true := by decide +kernel
set_option maxRecDepth 65536 in
theorem w_t2 : ((words1.drop 24).take 24).all (fun c => isCode c || c.before args0 about1) = true := by decide +kernel
set_option maxRecDepth 65536 in
theorem w_t3 : (((words1.drop 24).drop 24).take 24).all (fun c => isCode c || c.before args0 about1) = true := by decide +kernel
set_option maxRecDepth 65536 in
theorem w_t4 : (((words1.drop 24).drop 24).drop 24).all (fun c => isCode c || c.before args0 about1) = true := by decide +kernel
theorem w_tables : (allAtoms (Jvm.Cond.code x code maxLocals ret :: tables_1)).before args0 about1 = true := by
  rw [allAtoms_all]
  show words1.all (fun c => c.before args0 about1) = true
  refine all_split ?_ w_codes
  rw [← List.take_append_drop 24 words1, List.all_append, w_t1, ← List.take_append_drop 24 (words1.drop 24), List.all_append, w_t2, ← List.take_append_drop 24 ((words1.drop 24).drop 24), List.all_append, w_t3, w_t4]
  rfl
set_option maxRecDepth 65536 in
theorem w_rest : rest_1_c.before args0 about1 = true := by decide +kernel
set_option maxRecDepth 65536 in
theorem w_case : (Jvm.Cond.and given_1 narrow_1).before args0 about1 = true := by decide +kernel
theorem w_applies : (headSpec (Jvm.Cond.code x code maxLocals ret :: tables_1) room_1).applies x e0.platform about1 = true :=
  (Spec.applies_iff w_frames).mpr ⟨w_running, w_runnable, w_alone, w_named, w_hears, w_ripe, w_room, w_tables⟩
theorem atStart : AtStart classFile x code maxLocals ret World_1 tables_1 room_1 Calls_1 rest_1 Pre_1 launch0 p0 e0 about1 theMethod args0 below0 :=
  ⟨lists_1, trivial, launch0.admits_env _ _ _, launch0.least_env, fairChoices_fair.cas, fairChoices_fair.clock, w_frames, w_args, w_heap, w_applies, trivial, w_rest, w_case⟩
end start1
theorem witness_1 : WitnessClaimed_1 := ⟨start1.p0, start1.e0, start1.about1, start1.theMethod, start1.args0, start1.below0, start1.atStart⟩
end Jvm.Pilot.@@N@@
